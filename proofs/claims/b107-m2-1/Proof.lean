import JvmDerived
import JvmDerived.Pilot.@@N@@Statement
import JvmDerived.Pilot.@@N@@Code
set_option linter.unusedVariables false
set_option linter.unusedSimpArgs false
namespace Jvm.RoadKit
open Sem ClassFile Op Lib Jvm.Stand Jvm.Free Jvm.LawKit
section New
variable {p : Program} {l : Launch} {e : Env} {R : Room} {s : State} {m : MethodId} {args : Array Value} {below : List Frame} {meth : Method} {c : Code} {T : State} {locs : List Loc} {cells slots : Nat}
theorem retI (X : Stand p l e R s m args below meth c T locs cells slots) (hx : p.tables.exec = Jvm.exec) {pc : Nat} {Ls : Array Slot} {z : Int32} {rest : List Value} (hret : meth.sig.returnType = some .int) (hd : decode c.code pc = .ok (.ireturn, 1)) {fs : List Frame}
    (hl : ∀ (f : JFrame) (acts : List Action), f.method = m → f.locked = none → f.entered = [] → (doReturn e (T.setTop f) acts (some (.int z))).1 = T.setFrames fs) : Steps p.tables e below (T.setTop (mkF m pc Ls (.int z :: rest))) (T.setFrames fs) := by
  have hm' : T.vm.method? m = some meth := X.method'
  have hn : narrow .int (.int z) = .int z := rfl
  show Steps p.tables e below (T.setTop { method := m, pc := pc, locals := Ls, stack := _ :: rest, locked := none }) _
  jvm_step X.here [X.here.top, hx, hd, hm', hret, hn]
  first | (intro acts; rw [hl _ acts rfl rfl rfl]) | rw [hl _ _ rfl rfl rfl]
  exact Steps.refl _
end New
end Jvm.RoadKit
namespace Jvm.Pilot.@@N@@
open Jvm Jvm.ClassFile Sem Op Lib Jvm.Free Jvm.Stand Jvm.LawKit Jvm.RoadKit Bundle Jvm.Pilot.@@N@@.Jvm.D
theorem own_m {α : Type} {L : List α} {x : α} (i : Nat) (h : L[i]? = some x) : x ∈ L := List.mem_of_getElem? h
theorem own_top {tb : Tables} {e : Env} {below : List Frame} {T t : State} {m : MethodId} {pc : Nat} {Ls : Array Slot} {v v' : Value} {rest : List Value} (q : v = v') (k : Steps tb e below (T.setTop (mkF m pc Ls (v' :: rest))) t) : Steps tb e below (T.setTop (mkF m pc Ls (v :: rest))) t := q ▸ k
theorem own_le {Z : State} {n0 : Nat} {h : Heap} (O : Old Z n0 h) : n0 ≤ h.size := O.1 ▸ O.2.1
theorem own_eqI {args : Array Value} {first s : State} {o : Option Outcome} {idx : List Nat} {t : Term} {k : Int32} (h : (Jvm.Cond.eq t (.int k)).value args first o s idx = some true) : t.eval args first o idx s = some (.int k) := by
  cases ht : t.eval args first o idx s with
  | none => simp [Cond.value, Term.eval, ht] at h
  | some x => cases x <;> simp [Cond.value, Term.eval, ht] at h ⊢; exact h
theorem own_eqJ {args : Array Value} {first s : State} {o : Option Outcome} {idx : List Nat} {t : Term} {k : Int64} (h : (Jvm.Cond.eq t (.long k)).value args first o s idx = some true) : t.eval args first o idx s = some (.long k) := by
  cases ht : t.eval args first o idx s with
  | none => simp [Cond.value, Term.eval, ht] at h
  | some x => cases x <;> simp [Cond.value, Term.eval, ht] at h ⊢; exact h
theorem own_eqR {args : Array Value} {first s : State} {o : Option Outcome} {idx : List Nat} {t u : Term} {b : Addr} (h : (Jvm.Cond.eq t u).value args first o s idx = some true) (hu : u.eval args first o idx s = some (.ref b)) : t.eval args first o idx s = some (.ref b) := by
  cases ht : t.eval args first o idx s with
  | none => simp [Cond.value, ht] at h
  | some x => cases x <;> simp [Cond.value, ht, hu] at h ⊢; exact h
def own_En (Z : State) (h : Heap) (C f d : String) (w : Addr) (k : Int32) : Prop := Sta Z h C f d (.ref w) ∧ Exa Z h w C ∧ Fld Z h w "java/lang/Enum" "ordinal" "I" (.int k)
theorem own_d1_0 : decode prog_9_method_1_code 0 = .ok (.aload_n 0, 1) := by decide +kernel
theorem own_d1_1 : decode prog_9_method_1_code 1 = .ok (.invokespecial 1, 3) := by decide +kernel
theorem own_d1_4 : decode prog_9_method_1_code 4 = .ok (.aload_n 0, 1) := by decide +kernel
theorem own_d1_5 : decode prog_9_method_1_code 5 = .ok (.lload_n 1, 1) := by decide +kernel
theorem own_d1_6 : decode prog_9_method_1_code 6 = .ok (.putfield 7, 3) := by decide +kernel
theorem own_d1_9 : decode prog_9_method_1_code 9 = .ok (.aload_n 0, 1) := by decide +kernel
theorem own_d1_10 : decode prog_9_method_1_code 10 = .ok (.aload 5, 2) := by decide +kernel
theorem own_d1_12 : decode prog_9_method_1_code 12 = .ok (.putfield 13, 3) := by decide +kernel
theorem own_d1_15 : decode prog_9_method_1_code 15 = .ok (.aload_n 0, 1) := by decide +kernel
theorem own_d1_16 : decode prog_9_method_1_code 16 = .ok (.iload 4, 2) := by decide +kernel
theorem own_d1_18 : decode prog_9_method_1_code 18 = .ok (.ifCond .eq 13, 3) := by decide +kernel
theorem own_d1_21 : decode prog_9_method_1_code 21 = .ok (.lload_n 1, 1) := by decide +kernel
theorem own_d1_22 : decode prog_9_method_1_code 22 = .ok (.lconst 0, 1) := by decide +kernel
theorem own_d1_23 : decode prog_9_method_1_code 23 = .ok (.lcmp, 1) := by decide +kernel
theorem own_d1_24 : decode prog_9_method_1_code 24 = .ok (.ifCond .le 7, 3) := by decide +kernel
theorem own_d1_27 : decode prog_9_method_1_code 27 = .ok (.iconst 1, 1) := by decide +kernel
theorem own_d1_28 : decode prog_9_method_1_code 28 = .ok (.goto 4, 3) := by decide +kernel
theorem own_d1_31 : decode prog_9_method_1_code 31 = .ok (.iconst 0, 1) := by decide +kernel
theorem own_d1_32 : decode prog_9_method_1_code 32 = .ok (.putfield 17, 3) := by decide +kernel
theorem own_d1_35 : decode prog_9_method_1_code 35 = .ok (.aload_n 0, 1) := by decide +kernel
theorem own_d1_36 : decode prog_9_method_1_code 36 = .ok (.iload 4, 2) := by decide +kernel
theorem own_d1_38 : decode prog_9_method_1_code 38 = .ok (.ifCond .eq 7, 3) := by decide +kernel
theorem own_d1_41 : decode prog_9_method_1_code 41 = .ok (.lconst 1, 1) := by decide +kernel
theorem own_d1_42 : decode prog_9_method_1_code 42 = .ok (.goto 7, 3) := by decide +kernel
theorem own_d1_45 : decode prog_9_method_1_code 45 = .ok (.iload_n 3, 1) := by decide +kernel
theorem own_d1_46 : decode prog_9_method_1_code 46 = .ok (.i2l, 1) := by decide +kernel
theorem own_d1_47 : decode prog_9_method_1_code 47 = .ok (.lconst 1, 1) := by decide +kernel
theorem own_d1_48 : decode prog_9_method_1_code 48 = .ok (.ladd, 1) := by decide +kernel
theorem own_d1_49 : decode prog_9_method_1_code 49 = .ok (.putfield 21, 3) := by decide +kernel
theorem own_d1_52 : decode prog_9_method_1_code 52 = .ok (.aload_n 0, 1) := by decide +kernel
theorem own_d1_53 : decode prog_9_method_1_code 53 = .ok (.aload_n 0, 1) := by decide +kernel
theorem own_d1_54 : decode prog_9_method_1_code 54 = .ok (.getfield 21, 3) := by decide +kernel
theorem own_d1_57 : decode prog_9_method_1_code 57 = .ok (.ldc2_w 26, 3) := by decide +kernel
theorem own_d1_60 : decode prog_9_method_1_code 60 = .ok (.lload_n 1, 1) := by decide +kernel
theorem own_d1_61 : decode prog_9_method_1_code 61 = .ok (.lconst 1, 1) := by decide +kernel
theorem own_d1_62 : decode prog_9_method_1_code 62 = .ok (.invokestatic 28, 3) := by decide +kernel
theorem own_d1_65 : decode prog_9_method_1_code 65 = .ok (.ldiv, 1) := by decide +kernel
theorem own_d1_66 : decode prog_9_method_1_code 66 = .ok (.lcmp, 1) := by decide +kernel
theorem own_d1_67 : decode prog_9_method_1_code 67 = .ok (.ifCond .le 9, 3) := by decide +kernel
theorem own_d1_70 : decode prog_9_method_1_code 70 = .ok (.ldc2_w 26, 3) := by decide +kernel
theorem own_d1_73 : decode prog_9_method_1_code 73 = .ok (.goto 9, 3) := by decide +kernel
theorem own_d1_76 : decode prog_9_method_1_code 76 = .ok (.aload_n 0, 1) := by decide +kernel
theorem own_d1_77 : decode prog_9_method_1_code 77 = .ok (.getfield 21, 3) := by decide +kernel
theorem own_d1_80 : decode prog_9_method_1_code 80 = .ok (.lload_n 1, 1) := by decide +kernel
theorem own_d1_81 : decode prog_9_method_1_code 81 = .ok (.lmul, 1) := by decide +kernel
theorem own_d1_82 : decode prog_9_method_1_code 82 = .ok (.putfield 34, 3) := by decide +kernel
theorem own_d1_85 : decode prog_9_method_1_code 85 = .ok (.return_, 1) := by decide +kernel
theorem own_d3_0 : decode jdk_29_method_66_code 0 = .ok (.lload_n 0, 1) := by decide +kernel
theorem own_d3_1 : decode jdk_29_method_66_code 1 = .ok (.lload_n 2, 1) := by decide +kernel
theorem own_d3_2 : decode jdk_29_method_66_code 2 = .ok (.lcmp, 1) := by decide +kernel
theorem own_d3_3 : decode jdk_29_method_66_code 3 = .ok (.ifCond .lt 7, 3) := by decide +kernel
theorem own_d3_6 : decode jdk_29_method_66_code 6 = .ok (.lload_n 0, 1) := by decide +kernel
theorem own_d3_7 : decode jdk_29_method_66_code 7 = .ok (.goto 4, 3) := by decide +kernel
theorem own_d3_10 : decode jdk_29_method_66_code 10 = .ok (.lload_n 2, 1) := by decide +kernel
theorem own_d3_11 : decode jdk_29_method_66_code 11 = .ok (.lreturn, 1) := by decide +kernel
theorem own_d4_0 : decode prog_9_method_5_code 0 = .ok (.aload_n 0, 1) := by decide +kernel
theorem own_d4_1 : decode prog_9_method_5_code 1 = .ok (.getfield 17, 3) := by decide +kernel
theorem own_d4_4 : decode prog_9_method_5_code 4 = .ok (.ifCond .ne 29, 3) := by decide +kernel
theorem own_d4_7 : decode prog_9_method_5_code 7 = .ok (.iload_n 3, 1) := by decide +kernel
theorem own_d4_8 : decode prog_9_method_5_code 8 = .ok (.ifCond .eq 12, 3) := by decide +kernel
theorem own_d4_11 : decode prog_9_method_5_code 11 = .ok (.lload_n 1, 1) := by decide +kernel
theorem own_d4_12 : decode prog_9_method_5_code 12 = .ok (.lconst 0, 1) := by decide +kernel
theorem own_d4_13 : decode prog_9_method_5_code 13 = .ok (.lcmp, 1) := by decide +kernel
theorem own_d4_14 : decode prog_9_method_5_code 14 = .ok (.ifCond .gt 19, 3) := by decide +kernel
theorem own_d4_17 : decode prog_9_method_5_code 17 = .ok (.goto 12, 3) := by decide +kernel
theorem own_d4_20 : decode prog_9_method_5_code 20 = .ok (.lload_n 1, 1) := by decide +kernel
theorem own_d4_21 : decode prog_9_method_5_code 21 = .ok (.aload_n 0, 1) := by decide +kernel
theorem own_d4_22 : decode prog_9_method_5_code 22 = .ok (.getfield 34, 3) := by decide +kernel
theorem own_d4_25 : decode prog_9_method_5_code 25 = .ok (.lcmp, 1) := by decide +kernel
theorem own_d4_26 : decode prog_9_method_5_code 26 = .ok (.ifCond .lt 7, 3) := by decide +kernel
theorem own_d4_29 : decode prog_9_method_5_code 29 = .ok (.iconst 1, 1) := by decide +kernel
theorem own_d4_30 : decode prog_9_method_5_code 30 = .ok (.goto 4, 3) := by decide +kernel
theorem own_d4_33 : decode prog_9_method_5_code 33 = .ok (.iconst 0, 1) := by decide +kernel
theorem own_d4_34 : decode prog_9_method_5_code 34 = .ok (.ireturn, 1) := by decide +kernel
theorem own_pn0 : plainName "com/example/vsyncopate/vsyncopate/animation/Timeline" = true := by first | (simp [plainName, overriddenIn]; done) | decide +kernel
theorem own_pn1 : plainName "com/example/vsyncopate/vsyncopate/animation/TimelineIsOverPinLaw" = true := by first | (simp [plainName, overriddenIn]; done) | decide +kernel
theorem own_pd0 : parseMethodDescriptor "(JJ)J" = some ⟨[.long, .long], some .long⟩ := by decide +kernel
theorem own_pd1 : parseMethodDescriptor "(JIZLcom/example/vsyncopate/vsyncopate/animation/RepeatMode;)V" = some ⟨[.long, .int, .boolean, (.object "com/example/vsyncopate/vsyncopate/animation/RepeatMode")], none⟩ := by decide +kernel
theorem own_pd2 : parseMethodDescriptor "(JZ)Z" = some ⟨[.long, .boolean], some .boolean⟩ := by decide +kernel
theorem own_nmax (x : Int64) : ¬ (9223372036854775807 : Int64) < x := by
  have r := rng64 x
  have e1 : (9223372036854775807 : Int64).toInt = 9223372036854775807 := by decide
  rw [Int64.lt_iff_toInt_lt]; omega
theorem own_p1 {it : Int64} (h : ¬ it < (1 : Int64)) : (0 : Int64) < it := by
  have e0 : (0 : Int64).toInt = 0 := by decide
  have e1 : (1 : Int64).toInt = 1 := by decide
  rw [Int64.lt_iff_toInt_lt] at *; omega
theorem own_p2 {it : Int64} (h : ¬ it < (1 : Int64)) : ¬ it = (0 : Int64) := fun q => h (by rw [q]; decide)
theorem own_pos {x : Int64} (h : ¬ (x &&& (9223372036854775807 : Int64)) = (0 : Int64)) : ¬ (x &&& (9223372036854775807 : Int64)) < (1 : Int64) := by
  have a1 := c_maskL x (9223372036854775807 : Int64) 63 (by decide) (by decide)
  have e0 : (0 : Int64).toInt = 0 := by decide
  have e1 : (1 : Int64).toInt = 1 := by decide
  rw [← Int64.toInt_inj] at h
  rw [Int64.lt_iff_toInt_lt]; omega
theorem own_rc (x : Int32) : 0 ≤ (x &&& (2147483647 : Int32)).toInt := by
  have h1 : (x &&& (2147483647 : Int32)).toInt = x.toInt % (2 ^ 31 : Nat) := c_mask x 2147483647 31 (by decide) (by decide)
  omega
def own_tot (n it : Int64) : Int64 := if ((9223372036854775807 : Int64) / it) < n then (9223372036854775807 : Int64) else n * it
theorem own_n1 : 1 ≤ (1 : Int64).toInt ∧ (1 : Int64).toInt ≤ 2147483648 := by decide
theorem own_nn {rc : Int32} (h : 0 ≤ rc.toInt) : 1 ≤ (rc.toInt64 + (1 : Int64)).toInt ∧ (rc.toInt64 + (1 : Int64)).toInt ≤ 2147483648 := by
  have a1 := c_ladd rc.toInt64 (1 : Int64)
  have a2 := c_i2l rc
  have e1 : (1 : Int64).toInt = 1 := by decide
  have r1 := rng32 rc
  have r2 := rng64 (rc.toInt64 + (1 : Int64))
  omega
theorem own_ov {n it : Int64} (h1 : ¬ it < (1 : Int64)) (hn : 1 ≤ n.toInt ∧ n.toInt ≤ 2147483648) : ((9223372036854775807 : Int64) / it < n ↔ 9223372036854775807 < n.toInt * it.toInt) := by
  have e1 : (1 : Int64).toInt = 1 := by decide
  have e2 : (9223372036854775807 : Int64).toInt = 9223372036854775807 := by decide
  rw [Int64.lt_iff_toInt_lt] at h1
  have hne : it ≠ -1 := fun q => h1 (by rw [q]; decide)
  have a := (c_ldiv (9223372036854775807 : Int64) it it.toInt rfl hne).1 (by rw [e2]; decide)
  rw [Int64.lt_iff_toInt_lt, a, e2]
  exact Int.ediv_lt_iff_lt_mul (by omega)
theorem own_t1 {n it : Int64} (h1 : ¬ it < (1 : Int64)) (hn : 1 ≤ n.toInt ∧ n.toInt ≤ 2147483648) (h : (n * it) / it = n) : (n * it) = own_tot n it := by
  unfold own_tot
  rw [if_neg]
  rw [own_ov h1 hn]
  have e1 : (1 : Int64).toInt = 1 := by decide
  rw [Int64.lt_iff_toInt_lt] at h1
  have hne : it ≠ -1 := fun q => h1 (by rw [q]; decide)
  have a := c_ldiv (n * it) it it.toInt rfl hne
  rw [h] at a
  have r := rng64 (n * it)
  intro hbig
  by_cases hs : 0 ≤ (n * it).toInt
  · have b := a.1 hs
    have d : n.toInt * it.toInt ≤ (n * it).toInt := by rw [b]; exact Int.ediv_mul_le _ (by omega)
    omega
  · have b := a.2 (by omega)
    have d : 0 ≤ (-(n * it).toInt) / it.toInt := Int.ediv_nonneg (by omega) (by omega)
    omega
theorem own_t2 {n it : Int64} (h1 : ¬ it < (1 : Int64)) (hn : 1 ≤ n.toInt ∧ n.toInt ≤ 2147483648) (h : ¬ (n * it) / it = n) : (9223372036854775807 : Int64) = own_tot n it := by
  unfold own_tot
  rw [if_pos]
  rw [own_ov h1 hn]
  have e1 : (1 : Int64).toInt = 1 := by decide
  rw [Int64.lt_iff_toInt_lt] at h1
  have hne : it ≠ -1 := fun q => h1 (by rw [q]; decide)
  have a := c_ldiv (n * it) it it.toInt rfl hne
  refine Int.not_le.mp fun hle => h ?_
  have m := c_lmul n it
  have hp : 0 ≤ n.toInt * it.toInt := Int.mul_nonneg (by omega) (by omega)
  have r := rng64 (n * it)
  have e : (n * it).toInt = n.toInt * it.toInt := by omega
  have b := a.1 (by omega)
  apply Int64.toInt_inj.mp
  rw [b, e]
  exact Int.mul_ediv_cancel _ (by omega)
theorem own_max1_ef (m : MethodId) (q : Int64) : entryFrame m #[(.long q), (.long 1)] 4 = mkF m 0 #[.val (.long q), .second, .val (.long 1), .second] [] := by first | (simp [entryFrame, mkF, argsToLocals, Value.category]; done) | rfl
def own_max1_Q (Z : State) (w_A : Addr) (w_B : Addr) (q : Int64) (h0 : Heap) (n0 : Nat) (v : Option Value) (h : Heap) (L : List Loc) : Prop := v = some (.long q) ∧ Fr n0 L ∧ h = h0
set_option maxRecDepth 65536 in
set_option maxHeartbeats 40000000 in
theorem own_max1 (l : Launch) (Z : State) (a0 : Array Value) (hw : ∀ d ∈ tables_1, d.before a0 Z = true) (ws : List Jvm.Cond) (w_A : Addr) (w_B : Addr) (q : Int64) (h0 : Heap) (n0 : Nat) (O0 : Old Z n0 h0) (S_A : Sta Z Z.heap "com/example/vsyncopate/vsyncopate/animation/RepeatMode" "RESTART" "Lcom/example/vsyncopate/vsyncopate/animation/RepeatMode;" (.ref w_A)) (S_B : Sta Z Z.heap "com/example/vsyncopate/vsyncopate/animation/RepeatMode" "REVERSE" "Lcom/example/vsyncopate/vsyncopate/animation/RepeatMode;" (.ref w_B)) (hp1 : ¬ q < (1 : Int64)) :
    MetFree l (⟨"java/lang/Math", "max", "(JJ)J"⟩ : MethodName) (head1 (Jvm.Cond.code (⟨"java/lang/Math", "max", "(JJ)J"⟩ : MethodName) jdk_29_method_66_code 4 (some .long) :: ws) ({ frames := 0, cells := 0, slots := 0, locals := 0 } : Room)) (fun ar U => ar = #[(.long q), (.long 1)] ∧ Z.Warmed39 U.vm ∧ U.heap = h0) (fun _ _ _ _ _ => True) (fun _ U oc U' => ∃ v L, oc = .returned v ∧ own_max1_Q Z w_A w_B q h0 n0 v U'.heap L ∧ FrameEnd U oc U' L ({ frames := 0, cells := 0, slots := 0, locals := 0 } : Room).cells ({ frames := 0, cells := 0, slots := 0, locals := 0 } : Room).slots) := by
  refine MetFree.of_bodySF (Jvm.Free.JP.mathPlain rfl (by decide +kernel)) hisR ?_
  intro p e s m args below meth c s₁ Bd hml0 hP hK
  obtain ⟨rfl, hZ, hh⟩ := hP
  have hx := Bd.exec
  have hby := Bd.bytes
  have hml : c.maxLocals = 4 := hml0
  have hown : s.vm.findClass "java/lang/Math" = some m.cls := findClass_of_methodNamed Bd.named
  have hnm := (name_of_methodNamed Bd.named Bd.method).1
  have X0 : Stand p l e ({ frames := 0, cells := 0, slots := 0, locals := 0 } : Room) s m #[(.long q), (.long 1)] below meth c s₁ [] 0 0 := Stand.of_body Bd
  have e0 : s₁.heap = h0 := by rw [← hh, Bd.state]; rfl
  have N0 := Fr.nil n0
  have pre0 : ∀ t, Steps p.tables e below (s₁.setTop (mkF m 0 #[.val (.long q), .second, .val (.long 1), .second] [])) t → Steps p.tables e below (s₁.setTop (entryFrame m #[(.long q), (.long 1)] 4)) t := fun t k => castTop (own_max1_ef m q) k
  obtain ⟨fs, hr, hrun, hended, hW, hsame⟩ := X0.leave (v := some (.long q)) (fun h => by rw [Bd.returns] at h; cases h)
  refine ⟨_, _, pre0 _ ?_, hrun, hended, _, _, rfl, ?_, ⟨_, rfl⟩, hW, hsame.mono (by decide) (by decide)⟩
  · show Steps p.tables e below (s₁.setTop (mkF m 0 #[.val (.long q), .second, .val (.long 1), .second] [])) _
    refine XS.lloadN X0.here hx rfl (hb hby own_d3_0) rfl ?_
    show Steps p.tables e below (s₁.setTop (mkF m 1 #[.val (.long q), .second, .val (.long 1), .second] [(.long q)])) _
    refine XS.lloadN X0.here hx rfl (hb hby own_d3_1) rfl ?_
    show Steps p.tables e below (s₁.setTop (mkF m 2 #[.val (.long q), .second, .val (.long 1), .second] [(.long 1), (.long q)])) _
    refine XS.lcmp X0.here hx rfl (hb hby own_d3_2) rfl ?_
    show Steps p.tables e below (s₁.setTop (mkF m 3 #[.val (.long q), .second, .val (.long 1), .second] [(.int (lcmpW q (1 : Int64)))])) _
    refine XS.ifNo X0.here hx rfl (hb hby own_d3_3) rfl ((if0 _ _).trans (flt (fun q => hp1 ((lw_lt _ _).mp q))).1) ?_
    show Steps p.tables e below (s₁.setTop (mkF m 6 #[.val (.long q), .second, .val (.long 1), .second] [])) _
    refine XS.lloadN X0.here hx rfl (hb hby own_d3_6) rfl ?_
    show Steps p.tables e below (s₁.setTop (mkF m 7 #[.val (.long q), .second, .val (.long 1), .second] [(.long q)])) _
    refine XS.goto X0.here hx rfl (pc0 := 7) (pc' := 11) rfl (hb hby own_d3_7) (by decide) (by decide) ?_
    show Steps p.tables e below (s₁.setTop (mkF m 11 #[.val (.long q), .second, .val (.long 1), .second] [(.long q)])) _
    jvm_step X0.here [X0.here.top, hx, (hb hby own_d3_11), X0.method', Bd.returns, narrow]
    first | (intro acts; rw [hr _ acts rfl rfl rfl]) | rw [hr _ _ rfl rfl rfl]
    exact Steps.refl _
  · show own_max1_Q Z w_A w_B q h0 n0 _ s₁.heap _
    rw [e0]
    exact ⟨rfl, N0, rfl⟩
theorem own_max0_ef (m : MethodId)  : entryFrame m #[(.long 0), (.long 1)] 4 = mkF m 0 #[.val (.long 0), .second, .val (.long 1), .second] [] := by first | (simp [entryFrame, mkF, argsToLocals, Value.category]; done) | rfl
def own_max0_Q (Z : State) (w_A : Addr) (w_B : Addr) (h0 : Heap) (n0 : Nat) (v : Option Value) (h : Heap) (L : List Loc) : Prop := v = some (.long 1) ∧ Fr n0 L ∧ h = h0
set_option maxRecDepth 65536 in
set_option maxHeartbeats 40000000 in
theorem own_max0 (l : Launch) (Z : State) (a0 : Array Value) (hw : ∀ d ∈ tables_1, d.before a0 Z = true) (ws : List Jvm.Cond) (w_A : Addr) (w_B : Addr) (h0 : Heap) (n0 : Nat) (O0 : Old Z n0 h0) (S_A : Sta Z Z.heap "com/example/vsyncopate/vsyncopate/animation/RepeatMode" "RESTART" "Lcom/example/vsyncopate/vsyncopate/animation/RepeatMode;" (.ref w_A)) (S_B : Sta Z Z.heap "com/example/vsyncopate/vsyncopate/animation/RepeatMode" "REVERSE" "Lcom/example/vsyncopate/vsyncopate/animation/RepeatMode;" (.ref w_B)) :
    MetFree l (⟨"java/lang/Math", "max", "(JJ)J"⟩ : MethodName) (head1 (Jvm.Cond.code (⟨"java/lang/Math", "max", "(JJ)J"⟩ : MethodName) jdk_29_method_66_code 4 (some .long) :: ws) ({ frames := 0, cells := 0, slots := 0, locals := 0 } : Room)) (fun ar U => ar = #[(.long 0), (.long 1)] ∧ Z.Warmed39 U.vm ∧ U.heap = h0) (fun _ _ _ _ _ => True) (fun _ U oc U' => ∃ v L, oc = .returned v ∧ own_max0_Q Z w_A w_B h0 n0 v U'.heap L ∧ FrameEnd U oc U' L ({ frames := 0, cells := 0, slots := 0, locals := 0 } : Room).cells ({ frames := 0, cells := 0, slots := 0, locals := 0 } : Room).slots) := by
  refine MetFree.of_bodySF (Jvm.Free.JP.mathPlain rfl (by decide +kernel)) hisR ?_
  intro p e s m args below meth c s₁ Bd hml0 hP hK
  obtain ⟨rfl, hZ, hh⟩ := hP
  have hx := Bd.exec
  have hby := Bd.bytes
  have hml : c.maxLocals = 4 := hml0
  have hown : s.vm.findClass "java/lang/Math" = some m.cls := findClass_of_methodNamed Bd.named
  have hnm := (name_of_methodNamed Bd.named Bd.method).1
  have X0 : Stand p l e ({ frames := 0, cells := 0, slots := 0, locals := 0 } : Room) s m #[(.long 0), (.long 1)] below meth c s₁ [] 0 0 := Stand.of_body Bd
  have e0 : s₁.heap = h0 := by rw [← hh, Bd.state]; rfl
  have N0 := Fr.nil n0
  have pre0 : ∀ t, Steps p.tables e below (s₁.setTop (mkF m 0 #[.val (.long 0), .second, .val (.long 1), .second] [])) t → Steps p.tables e below (s₁.setTop (entryFrame m #[(.long 0), (.long 1)] 4)) t := fun t k => castTop (own_max0_ef m ) k
  obtain ⟨fs, hr, hrun, hended, hW, hsame⟩ := X0.leave (v := some (.long 1)) (fun h => by rw [Bd.returns] at h; cases h)
  refine ⟨_, _, pre0 _ ?_, hrun, hended, _, _, rfl, ?_, ⟨_, rfl⟩, hW, hsame.mono (by decide) (by decide)⟩
  · show Steps p.tables e below (s₁.setTop (mkF m 0 #[.val (.long 0), .second, .val (.long 1), .second] [])) _
    refine XS.lloadN X0.here hx rfl (hb hby own_d3_0) rfl ?_
    show Steps p.tables e below (s₁.setTop (mkF m 1 #[.val (.long 0), .second, .val (.long 1), .second] [(.long 0)])) _
    refine XS.lloadN X0.here hx rfl (hb hby own_d3_1) rfl ?_
    show Steps p.tables e below (s₁.setTop (mkF m 2 #[.val (.long 0), .second, .val (.long 1), .second] [(.long 1), (.long 0)])) _
    refine XS.lcmp X0.here hx rfl (hb hby own_d3_2) rfl ?_
    show Steps p.tables e below (s₁.setTop (mkF m 3 #[.val (.long 0), .second, .val (.long 1), .second] [(.int (lcmpW (0 : Int64) (1 : Int64)))])) _
    refine XS.ifYes X0.here hx rfl (pc0 := 3) (pc' := 10) rfl (hb hby own_d3_3) rfl ((if0 _ _).trans (tlt ((lw_lt _ _).mpr (show ((0 : Int64) < (1 : Int64)) from by decide))).1) (by decide) (by decide) ?_
    show Steps p.tables e below (s₁.setTop (mkF m 10 #[.val (.long 0), .second, .val (.long 1), .second] [])) _
    refine XS.lloadN X0.here hx rfl (hb hby own_d3_10) rfl ?_
    show Steps p.tables e below (s₁.setTop (mkF m 11 #[.val (.long 0), .second, .val (.long 1), .second] [(.long 1)])) _
    jvm_step X0.here [X0.here.top, hx, (hb hby own_d3_11), X0.method', Bd.returns, narrow]
    first | (intro acts; rw [hr _ acts rfl rfl rfl]) | rw [hr _ _ rfl rfl rfl]
    exact Steps.refl _
  · show own_max0_Q Z w_A w_B h0 n0 _ s₁.heap _
    rw [e0]
    exact ⟨rfl, N0, rfl⟩
theorem own_mk00_ef (m : MethodId) (a : Addr) (rc : Int32) (w : Addr) : entryFrame m #[(.ref a), (.long 0), (.int rc), (.int 0), (.ref w)] 6 = mkF m 0 #[rv a, .val (.long 0), .second, iv rc, iv 0, rv w] [] := by first | (simp [entryFrame, mkF, argsToLocals, Value.category]; done) | rfl
def own_mk00_Q (Z : State) (w_A : Addr) (w_B : Addr) (a : Addr) (it : Int64) (rc : Int32) (w : Addr) (h0 : Heap) (n0 : Nat) (v : Option Value) (h : Heap) (L : List Loc) : Prop := v = none ∧ Fr n0 L ∧ Keep h0 h [a] ∧ ∃ t : Int64, t = (0 : Int64) ∧ Exa Z h a "com/example/vsyncopate/vsyncopate/animation/Timeline" ∧ Fld Z h a "com/example/vsyncopate/vsyncopate/animation/Timeline" "endless" "Z" (.int 0) ∧ Fld Z h a "com/example/vsyncopate/vsyncopate/animation/Timeline" "totalNanos" "J" (.long t)
set_option maxRecDepth 65536 in
set_option maxHeartbeats 40000000 in
theorem own_mk00 (l : Launch) (Z : State) (a0 : Array Value) (hw : ∀ d ∈ tables_1, d.before a0 Z = true) (ws : List Jvm.Cond) (w_A : Addr) (w_B : Addr) (a : Addr) (it : Int64) (rc : Int32) (w : Addr) (h0 : Heap) (n0 : Nat) (O0 : Old Z n0 h0) (S_A : Sta Z Z.heap "com/example/vsyncopate/vsyncopate/animation/RepeatMode" "RESTART" "Lcom/example/vsyncopate/vsyncopate/animation/RepeatMode;" (.ref w_A)) (S_B : Sta Z Z.heap "com/example/vsyncopate/vsyncopate/animation/RepeatMode" "REVERSE" "Lcom/example/vsyncopate/vsyncopate/animation/RepeatMode;" (.ref w_B)) (g_a : n0 ≤ a) (E_a : Exa Z h0 a "com/example/vsyncopate/vsyncopate/animation/Timeline") (F_iterationNanos : Fld Z h0 a "com/example/vsyncopate/vsyncopate/animation/Timeline" "iterationNanos" "J" (.long 0)) (F_mode : Fld Z h0 a "com/example/vsyncopate/vsyncopate/animation/Timeline" "mode" "Lcom/example/vsyncopate/vsyncopate/animation/RepeatMode;" .null) (F_endless : Fld Z h0 a "com/example/vsyncopate/vsyncopate/animation/Timeline" "endless" "Z" (.int 0)) (F_iterations : Fld Z h0 a "com/example/vsyncopate/vsyncopate/animation/Timeline" "iterations" "J" (.long 0)) (F_totalNanos : Fld Z h0 a "com/example/vsyncopate/vsyncopate/animation/Timeline" "totalNanos" "J" (.long 0)) :
    MetFree l (⟨"com/example/vsyncopate/vsyncopate/animation/Timeline", "<init>", "(JIZLcom/example/vsyncopate/vsyncopate/animation/RepeatMode;)V"⟩ : MethodName) (head1 (Jvm.Cond.code (⟨"com/example/vsyncopate/vsyncopate/animation/Timeline", "<init>", "(JIZLcom/example/vsyncopate/vsyncopate/animation/RepeatMode;)V"⟩ : MethodName) prog_9_method_1_code 6 none :: ws) ({ frames := 1, cells := 0, slots := 0, locals := 20 } : Room)) (fun ar U => ar = #[(.ref a), (.long 0), (.int rc), (.int 0), (.ref w)] ∧ Z.Warmed39 U.vm ∧ U.heap = h0) (fun _ _ _ _ _ => True) (fun _ U oc U' => ∃ v L, oc = .returned v ∧ own_mk00_Q Z w_A w_B a it rc w h0 n0 v U'.heap L ∧ FrameEnd U oc U' L ({ frames := 1, cells := 0, slots := 0, locals := 20 } : Room).cells ({ frames := 1, cells := 0, slots := 0, locals := 20 } : Room).slots) := by
  refine MetFree.of_bodySF (plainFor_of_name own_pn0) hisR ?_
  intro p e s m args below meth c s₁ Bd hml0 hP hK
  obtain ⟨rfl, hZ, hh⟩ := hP
  have hx := Bd.exec
  have hby := Bd.bytes
  have hml : c.maxLocals = 6 := hml0
  have hown : s.vm.findClass "com/example/vsyncopate/vsyncopate/animation/Timeline" = some m.cls := findClass_of_methodNamed Bd.named
  have hnm := (name_of_methodNamed Bd.named Bd.method).1
  have X0 : Stand p l e ({ frames := 1, cells := 0, slots := 0, locals := 20 } : Room) s m #[(.ref a), (.long 0), (.int rc), (.int 0), (.ref w)] below meth c s₁ [] 0 0 := Stand.of_body Bd
  have e0 : s₁.heap = h0 := by rw [← hh, Bd.state]; rfl
  have N0 := Fr.nil n0
  have pre0 : ∀ t, Steps p.tables e below (s₁.setTop (mkF m 0 #[rv a, .val (.long 0), .second, iv rc, iv 0, rv w] [])) t → Steps p.tables e below (s₁.setTop (entryFrame m #[(.ref a), (.long 0), (.int rc), (.int 0), (.ref w)] 6)) t := fun t k => castTop (own_mk00_ef m a rc w) k
  have kp0 := Keep.refl h0 ([a] : List Addr)
  obtain ⟨T1, X1, e1, st1⟩ := initO X0 hx hZ hown (hw _ (own_m 11 rfl)) (hw _ (own_m 12 rfl)) (hw _ (own_m 13 rfl)) e0 (g := (mkF m 1 #[rv a, .val (.long 0), .second, iv rc, iv 0, rv w] [(.ref a)])) rfl (by rw [hml]; rfl) rfl (hb hby own_d1_1) (by decide) (W := 0) (by show 2 * 0 + _ ≤ _; exact Nat.le_of_eq rfl) (by decide)
  obtain ⟨T2, h2, X2, e2, W2, st2⟩ := putF X1 hx hZ hown (host := "") (Or.inl (hw _ (own_m 14 rfl))) Via.refl e1 F_iterationNanos E_a (Or.inr ⟨(hw _ (own_m 15 rfl)), rfl, hnm⟩) (hw _ (own_m 6 rfl)) (ty := .long) (by decide) rfl rfl (g := (mkF m 6 #[rv a, .val (.long 0), .second, iv rc, iv 0, rv w] [(.long 0), (.ref a)])) rfl rfl (hb hby own_d1_6)
  have Fw2 := F_iterationNanos.same W2
  have O3 := O0.wr W2 g_a
  have kp4 := kp0.wr W2 (Or.inl (own_m 0 rfl))
  have N2 := Fr.snoc X2 N0 g_a
  have f5 := (F_mode.other W2 (Or.inr (slot_ne (Or.inr (hw _ (own_m 17 rfl))) (Or.inr (hw _ (own_m 15 rfl))) (by decide) (t := (.object "com/example/vsyncopate/vsyncopate/animation/RepeatMode")) (t' := .long) (by decide) (by decide))))
  have f6 := (E_a.wr W2)
  obtain ⟨T7, h7, X7, e7, W7, st7⟩ := putF X2 hx hZ hown (host := "") (Or.inl (hw _ (own_m 16 rfl))) Via.refl e2 f5 f6 (Or.inr ⟨(hw _ (own_m 17 rfl)), rfl, hnm⟩) (hw _ (own_m 6 rfl)) (ty := (.object "com/example/vsyncopate/vsyncopate/animation/RepeatMode")) (by decide) rfl rfl (g := (mkF m 12 #[rv a, .val (.long 0), .second, iv rc, iv 0, rv w] [(.ref w), (.ref a)])) rfl rfl (hb hby own_d1_12)
  have Fw7 := f5.same W7
  have O8 := O3.wr W7 g_a
  have kp9 := kp4.wr W7 (Or.inl (own_m 0 rfl))
  have N7 := Fr.snoc X7 N2 g_a
  have f10 := ((F_endless.other W2 (Or.inr (slot_ne (Or.inr (hw _ (own_m 19 rfl))) (Or.inr (hw _ (own_m 15 rfl))) (by decide) (t := .boolean) (t' := .long) (by decide) (by decide)))).other W7 (Or.inr (slot_ne (Or.inr (hw _ (own_m 19 rfl))) (Or.inr (hw _ (own_m 17 rfl))) (by decide) (t := .boolean) (t' := (.object "com/example/vsyncopate/vsyncopate/animation/RepeatMode")) (by decide) (by decide))))
  have f11 := (f6.wr W7)
  obtain ⟨T12, h12, X12, e12, W12, st12⟩ := putF X7 hx hZ hown (host := "") (Or.inl (hw _ (own_m 18 rfl))) Via.refl e7 f10 f11 (Or.inr ⟨(hw _ (own_m 19 rfl)), rfl, hnm⟩) (hw _ (own_m 6 rfl)) (ty := .boolean) (by decide) (by first | rfl | decide) (by first | rfl | decide) (g := (mkF m 32 #[rv a, .val (.long 0), .second, iv rc, iv 0, rv w] [(.int 0), (.ref a)])) rfl rfl (hb hby own_d1_32)
  have Fw12 := f10.same W12
  have O13 := O8.wr W12 g_a
  have kp14 := kp9.wr W12 (Or.inl (own_m 0 rfl))
  have N12 := Fr.snoc X12 N7 g_a
  have f15 := (((F_iterations.other W2 (Or.inr (slot_ne (Or.inr (hw _ (own_m 21 rfl))) (Or.inr (hw _ (own_m 15 rfl))) (by decide) (t := .long) (t' := .long) (by decide) (by decide)))).other W7 (Or.inr (slot_ne (Or.inr (hw _ (own_m 21 rfl))) (Or.inr (hw _ (own_m 17 rfl))) (by decide) (t := .long) (t' := (.object "com/example/vsyncopate/vsyncopate/animation/RepeatMode")) (by decide) (by decide)))).other W12 (Or.inr (slot_ne (Or.inr (hw _ (own_m 21 rfl))) (Or.inr (hw _ (own_m 19 rfl))) (by decide) (t := .long) (t' := .boolean) (by decide) (by decide))))
  have f16 := (f11.wr W12)
  obtain ⟨T17, h17, X17, e17, W17, st17⟩ := putF X12 hx hZ hown (host := "") (Or.inl (hw _ (own_m 20 rfl))) Via.refl e12 f15 f16 (Or.inr ⟨(hw _ (own_m 21 rfl)), rfl, hnm⟩) (hw _ (own_m 6 rfl)) (ty := .long) (by decide) rfl rfl (g := (mkF m 49 #[rv a, .val (.long 0), .second, iv rc, iv 0, rv w] [(.long ((rc.toInt64) + (1 : Int64))), (.ref a)])) rfl rfl (hb hby own_d1_49)
  have Fw17 := f15.same W17
  have O18 := O13.wr W17 g_a
  have kp19 := kp14.wr W17 (Or.inl (own_m 0 rfl))
  have N17 := Fr.snoc X17 N12 g_a
  obtain ⟨T20, X20, e20, st20⟩ := getF X17 hx hZ hown (host := "") (Or.inl (hw _ (own_m 20 rfl))) Via.refl e17 Fw17 (g := (mkF m 54 #[rv a, .val (.long 0), .second, iv rc, iv 0, rv w] [(.ref a), (.ref a)])) rfl rfl (hb hby own_d1_54)
  obtain ⟨_, _, ⟨T21, L21, k21, n21⟩, -, X21, ⟨Lc21, hQ21, l21, y21, z21⟩, st21⟩ := Jvm.LawKit.callS X20 hx (y := (⟨"java/lang/Math", "max", "(JJ)J"⟩ : MethodName)) hown (mvT hZ (hw _ (own_m 23 rfl))) (mvT hZ (hw _ (own_m 24 rfl))) (mvT hZ (hw _ (own_m 25 rfl))) (mvT hZ (hw _ (own_m 26 rfl))) (by decide) (backOf (W := 5) (own_max0 l Z a0 hw [] w_A w_B  h17 n0 O18 S_A S_B ) hZ (hw _ (own_m 26 rfl)) (hw _ (own_m 25 rfl)) (by decide) (by decide)) (g := (mkF m 62 #[rv a, .val (.long 0), .second, iv rc, iv 0, rv w] [(.long 1), (.long 0), (.long 9223372036854775807), (.long ((rc.toInt64) + (1 : Int64))), (.ref a)])) rfl (by rw [hml]; rfl) (argsL := [(.long 0), (.long 1)]) (rest := [(.long 9223372036854775807), (.long ((rc.toInt64) + (1 : Int64))), (.ref a)]) (lenOf own_pd0 rfl) rfl (by show 2 * 0 + _ ≤ _; exact Nat.le_of_eq rfl) (hb hby own_d1_62) (fun _ _ => ⟨rfl, e20, (by decide : 0 + 0 ≤ _), (by decide : 0 + 0 ≤ _)⟩)
  dsimp only [Pt.U, Pt.locs, Pt.cells, Pt.slots] at X21 l21 y21 z21 st21 hQ21
  subst l21 y21 z21
  obtain ⟨rfl, N21q, e21⟩ := hQ21
  have N21 := Fr.app N17 N21q
  obtain ⟨T22, X22, e22, st22⟩ := getF X21 hx hZ hown (host := "") (Or.inl (hw _ (own_m 20 rfl))) Via.refl e21 Fw17 (g := (mkF m 77 #[rv a, .val (.long 0), .second, iv rc, iv 0, rv w] [(.ref a), (.ref a)])) rfl rfl (hb hby own_d1_77)
  have f23 := ((((F_totalNanos.other W2 (Or.inr (slot_ne (Or.inr (hw _ (own_m 28 rfl))) (Or.inr (hw _ (own_m 15 rfl))) (by decide) (t := .long) (t' := .long) (by decide) (by decide)))).other W7 (Or.inr (slot_ne (Or.inr (hw _ (own_m 28 rfl))) (Or.inr (hw _ (own_m 17 rfl))) (by decide) (t := .long) (t' := (.object "com/example/vsyncopate/vsyncopate/animation/RepeatMode")) (by decide) (by decide)))).other W12 (Or.inr (slot_ne (Or.inr (hw _ (own_m 28 rfl))) (Or.inr (hw _ (own_m 19 rfl))) (by decide) (t := .long) (t' := .boolean) (by decide) (by decide)))).other W17 (Or.inr (slot_ne (Or.inr (hw _ (own_m 28 rfl))) (Or.inr (hw _ (own_m 21 rfl))) (by decide) (t := .long) (t' := .long) (by decide) (by decide))))
  have f24 := (f16.wr W17)
  obtain ⟨T25, h25, X25, e25, W25, st25⟩ := putF X22 hx hZ hown (host := "") (Or.inl (hw _ (own_m 27 rfl))) Via.refl e22 f23 f24 (Or.inr ⟨(hw _ (own_m 28 rfl)), rfl, hnm⟩) (hw _ (own_m 6 rfl)) (ty := .long) (by decide) rfl rfl (g := (mkF m 82 #[rv a, .val (.long 0), .second, iv rc, iv 0, rv w] [(.long 0), (.ref a)])) rfl rfl (hb hby own_d1_82)
  have Fw25 := f23.same W25
  have O26 := O18.wr W25 g_a
  have kp27 := kp19.wr W25 (Or.inl (own_m 0 rfl))
  have N25 := Fr.snoc X25 N21 g_a
  have f28 := (f24.wr W25)
  have f29 := ((Fw12.other W17 (Or.inr (slot_ne (Or.inr (hw _ (own_m 19 rfl))) (Or.inr (hw _ (own_m 21 rfl))) (by decide) (t := .boolean) (t' := .long) (by decide) (by decide)))).other W25 (Or.inr (slot_ne (Or.inr (hw _ (own_m 19 rfl))) (Or.inr (hw _ (own_m 28 rfl))) (by decide) (t := .boolean) (t' := .long) (by decide) (by decide))))
  obtain ⟨fs, hr, hrun, hended, hW, hsame⟩ := X25.leave (v := none) (fun _ => rfl)
  refine ⟨_, _, pre0 _ ?_, hrun, hended, _, _, rfl, ?_, ⟨_, rfl⟩, hW, hsame.mono (by decide) (by decide)⟩
  · show Steps p.tables e below (s₁.setTop (mkF m 0 #[rv a, .val (.long 0), .second, iv rc, iv 0, rv w] [])) _
    refine XS.aloadN X0.here hx rfl (hb hby own_d1_0) rfl rfl ?_
    show Steps p.tables e below (s₁.setTop (mkF m 1 #[rv a, .val (.long 0), .second, iv rc, iv 0, rv w] [(.ref a)])) _
    refine st1 _ ?_
    show Steps p.tables e below (T1.setTop (mkF m 4 #[rv a, .val (.long 0), .second, iv rc, iv 0, rv w] [])) _
    refine XS.aloadN X1.here hx rfl (hb hby own_d1_4) rfl rfl ?_
    show Steps p.tables e below (T1.setTop (mkF m 5 #[rv a, .val (.long 0), .second, iv rc, iv 0, rv w] [(.ref a)])) _
    refine XS.lloadN X1.here hx rfl (hb hby own_d1_5) rfl ?_
    show Steps p.tables e below (T1.setTop (mkF m 6 #[rv a, .val (.long 0), .second, iv rc, iv 0, rv w] [(.long 0), (.ref a)])) _
    refine st2 _ ?_
    show Steps p.tables e below (T2.setTop (mkF m 9 #[rv a, .val (.long 0), .second, iv rc, iv 0, rv w] [])) _
    refine XS.aloadN X2.here hx rfl (hb hby own_d1_9) rfl rfl ?_
    show Steps p.tables e below (T2.setTop (mkF m 10 #[rv a, .val (.long 0), .second, iv rc, iv 0, rv w] [(.ref a)])) _
    refine XS.aload X2.here hx rfl (hb hby own_d1_10) rfl rfl ?_
    show Steps p.tables e below (T2.setTop (mkF m 12 #[rv a, .val (.long 0), .second, iv rc, iv 0, rv w] [(.ref w), (.ref a)])) _
    refine st7 _ ?_
    show Steps p.tables e below (T7.setTop (mkF m 15 #[rv a, .val (.long 0), .second, iv rc, iv 0, rv w] [])) _
    refine XS.aloadN X7.here hx rfl (hb hby own_d1_15) rfl rfl ?_
    show Steps p.tables e below (T7.setTop (mkF m 16 #[rv a, .val (.long 0), .second, iv rc, iv 0, rv w] [(.ref a)])) _
    refine XS.iload X7.here hx rfl (hb hby own_d1_16) rfl ?_
    show Steps p.tables e below (T7.setTop (mkF m 18 #[rv a, .val (.long 0), .second, iv rc, iv 0, rv w] [(.int 0), (.ref a)])) _
    refine XS.ifYes X7.here hx rfl (pc0 := 18) (pc' := 31) rfl (hb hby own_d1_18) rfl ((if0 _ _).trans (teq (by decide)).1) (by decide) (by decide) ?_
    show Steps p.tables e below (T7.setTop (mkF m 31 #[rv a, .val (.long 0), .second, iv rc, iv 0, rv w] [(.ref a)])) _
    refine XS.iconst X7.here hx rfl (hb hby own_d1_31) ?_
    show Steps p.tables e below (T7.setTop (mkF m 32 #[rv a, .val (.long 0), .second, iv rc, iv 0, rv w] [(.int 0), (.ref a)])) _
    refine st12 _ ?_
    show Steps p.tables e below (T12.setTop (mkF m 35 #[rv a, .val (.long 0), .second, iv rc, iv 0, rv w] [])) _
    refine XS.aloadN X12.here hx rfl (hb hby own_d1_35) rfl rfl ?_
    show Steps p.tables e below (T12.setTop (mkF m 36 #[rv a, .val (.long 0), .second, iv rc, iv 0, rv w] [(.ref a)])) _
    refine XS.iload X12.here hx rfl (hb hby own_d1_36) rfl ?_
    show Steps p.tables e below (T12.setTop (mkF m 38 #[rv a, .val (.long 0), .second, iv rc, iv 0, rv w] [(.int 0), (.ref a)])) _
    refine XS.ifYes X12.here hx rfl (pc0 := 38) (pc' := 45) rfl (hb hby own_d1_38) rfl ((if0 _ _).trans (teq (by decide)).1) (by decide) (by decide) ?_
    show Steps p.tables e below (T12.setTop (mkF m 45 #[rv a, .val (.long 0), .second, iv rc, iv 0, rv w] [(.ref a)])) _
    refine XS.iloadN X12.here hx rfl (hb hby own_d1_45) rfl ?_
    show Steps p.tables e below (T12.setTop (mkF m 46 #[rv a, .val (.long 0), .second, iv rc, iv 0, rv w] [(.int rc), (.ref a)])) _
    refine XS.i2l X12.here hx rfl (hb hby own_d1_46) rfl ?_
    show Steps p.tables e below (T12.setTop (mkF m 47 #[rv a, .val (.long 0), .second, iv rc, iv 0, rv w] [(.long (rc.toInt64)), (.ref a)])) _
    refine XS.lconst X12.here hx rfl (hb hby own_d1_47) ?_
    show Steps p.tables e below (T12.setTop (mkF m 48 #[rv a, .val (.long 0), .second, iv rc, iv 0, rv w] [(.long 1), (.long (rc.toInt64)), (.ref a)])) _
    refine XS.ladd X12.here hx rfl (hb hby own_d1_48) rfl ?_
    show Steps p.tables e below (T12.setTop (mkF m 49 #[rv a, .val (.long 0), .second, iv rc, iv 0, rv w] [(.long ((rc.toInt64) + (1 : Int64))), (.ref a)])) _
    refine st17 _ ?_
    show Steps p.tables e below (T17.setTop (mkF m 52 #[rv a, .val (.long 0), .second, iv rc, iv 0, rv w] [])) _
    refine XS.aloadN X17.here hx rfl (hb hby own_d1_52) rfl rfl ?_
    show Steps p.tables e below (T17.setTop (mkF m 53 #[rv a, .val (.long 0), .second, iv rc, iv 0, rv w] [(.ref a)])) _
    refine XS.aloadN X17.here hx rfl (hb hby own_d1_53) rfl rfl ?_
    show Steps p.tables e below (T17.setTop (mkF m 54 #[rv a, .val (.long 0), .second, iv rc, iv 0, rv w] [(.ref a), (.ref a)])) _
    refine st20 _ ?_
    show Steps p.tables e below (T20.setTop (mkF m 57 #[rv a, .val (.long 0), .second, iv rc, iv 0, rv w] [(.long ((rc.toInt64) + (1 : Int64))), (.ref a)])) _
    refine X20.ldc2Long hx hown (mvT hZ (hw _ (own_m 22 rfl))) (g := (mkF m 57 #[rv a, .val (.long 0), .second, iv rc, iv 0, rv w] [(.long ((rc.toInt64) + (1 : Int64))), (.ref a)])) rfl (hb hby own_d1_57) _ ?_
    show Steps p.tables e below (T20.setTop (mkF m 60 #[rv a, .val (.long 0), .second, iv rc, iv 0, rv w] [(.long 9223372036854775807), (.long ((rc.toInt64) + (1 : Int64))), (.ref a)])) _
    refine XS.lloadN X20.here hx rfl (hb hby own_d1_60) rfl ?_
    show Steps p.tables e below (T20.setTop (mkF m 61 #[rv a, .val (.long 0), .second, iv rc, iv 0, rv w] [(.long 0), (.long 9223372036854775807), (.long ((rc.toInt64) + (1 : Int64))), (.ref a)])) _
    refine XS.lconst X20.here hx rfl (hb hby own_d1_61) ?_
    show Steps p.tables e below (T20.setTop (mkF m 62 #[rv a, .val (.long 0), .second, iv rc, iv 0, rv w] [(.long 1), (.long 0), (.long 9223372036854775807), (.long ((rc.toInt64) + (1 : Int64))), (.ref a)])) _
    refine st21 _ ?_
    show Steps p.tables e below (T21.setTop (mkF m 65 #[rv a, .val (.long 0), .second, iv rc, iv 0, rv w] [(.long 1), (.long 9223372036854775807), (.long ((rc.toInt64) + (1 : Int64))), (.ref a)])) _
    refine XS.ldiv X21.here hx rfl (hb hby own_d1_65) rfl (by decide) ?_
    show Steps p.tables e below (T21.setTop (mkF m 66 #[rv a, .val (.long 0), .second, iv rc, iv 0, rv w] [(.long ((9223372036854775807 : Int64) / (1 : Int64))), (.long ((rc.toInt64) + (1 : Int64))), (.ref a)])) _
    refine own_top (v' := (.long 9223372036854775807)) (congrArg Value.long (by decide)) ?_
    show Steps p.tables e below (T21.setTop (mkF m 66 #[rv a, .val (.long 0), .second, iv rc, iv 0, rv w] [(.long 9223372036854775807), (.long ((rc.toInt64) + (1 : Int64))), (.ref a)])) _
    refine XS.lcmp X21.here hx rfl (hb hby own_d1_66) rfl ?_
    show Steps p.tables e below (T21.setTop (mkF m 67 #[rv a, .val (.long 0), .second, iv rc, iv 0, rv w] [(.int (lcmpW ((rc.toInt64) + (1 : Int64)) (9223372036854775807 : Int64))), (.ref a)])) _
    refine XS.ifYes X21.here hx rfl (pc0 := 67) (pc' := 76) rfl (hb hby own_d1_67) rfl ((if0 _ _).trans (flt (fun q => (own_nmax _) ((lw_gt _ _).mp q))).2.2.2) (by decide) (by decide) ?_
    show Steps p.tables e below (T21.setTop (mkF m 76 #[rv a, .val (.long 0), .second, iv rc, iv 0, rv w] [(.ref a)])) _
    refine XS.aloadN X21.here hx rfl (hb hby own_d1_76) rfl rfl ?_
    show Steps p.tables e below (T21.setTop (mkF m 77 #[rv a, .val (.long 0), .second, iv rc, iv 0, rv w] [(.ref a), (.ref a)])) _
    refine st22 _ ?_
    show Steps p.tables e below (T22.setTop (mkF m 80 #[rv a, .val (.long 0), .second, iv rc, iv 0, rv w] [(.long ((rc.toInt64) + (1 : Int64))), (.ref a)])) _
    refine XS.lloadN X22.here hx rfl (hb hby own_d1_80) rfl ?_
    show Steps p.tables e below (T22.setTop (mkF m 81 #[rv a, .val (.long 0), .second, iv rc, iv 0, rv w] [(.long 0), (.long ((rc.toInt64) + (1 : Int64))), (.ref a)])) _
    refine XS.lmul X22.here hx rfl (hb hby own_d1_81) rfl ?_
    show Steps p.tables e below (T22.setTop (mkF m 82 #[rv a, .val (.long 0), .second, iv rc, iv 0, rv w] [(.long (((rc.toInt64) + (1 : Int64)) * (0 : Int64))), (.ref a)])) _
    refine own_top (v' := (.long 0)) (congrArg Value.long (Int64.mul_zero)) ?_
    show Steps p.tables e below (T22.setTop (mkF m 82 #[rv a, .val (.long 0), .second, iv rc, iv 0, rv w] [(.long 0), (.ref a)])) _
    refine st25 _ ?_
    show Steps p.tables e below (T25.setTop (mkF m 85 #[rv a, .val (.long 0), .second, iv rc, iv 0, rv w] [])) _
    exact X25.returnOut hx Bd.returns (hb hby own_d1_85) hr
  · show own_mk00_Q Z w_A w_B a it rc w h0 n0 _ T25.heap _
    rw [e25]
    exact ⟨rfl, N25, kp27, _, rfl, f28, f29, Fw25⟩
theorem own_mk01_ef (m : MethodId) (a : Addr) (it : Int64) (rc : Int32) (w : Addr) : entryFrame m #[(.ref a), (.long it), (.int rc), (.int 0), (.ref w)] 6 = mkF m 0 #[rv a, .val (.long it), .second, iv rc, iv 0, rv w] [] := by first | (simp [entryFrame, mkF, argsToLocals, Value.category]; done) | rfl
def own_mk01_Q (Z : State) (w_A : Addr) (w_B : Addr) (a : Addr) (it : Int64) (rc : Int32) (w : Addr) (h0 : Heap) (n0 : Nat) (v : Option Value) (h : Heap) (L : List Loc) : Prop := v = none ∧ Fr n0 L ∧ Keep h0 h [a] ∧ ∃ t : Int64, t = own_tot ((rc.toInt64) + (1 : Int64)) it ∧ Exa Z h a "com/example/vsyncopate/vsyncopate/animation/Timeline" ∧ Fld Z h a "com/example/vsyncopate/vsyncopate/animation/Timeline" "endless" "Z" (.int 0) ∧ Fld Z h a "com/example/vsyncopate/vsyncopate/animation/Timeline" "totalNanos" "J" (.long t)
set_option maxRecDepth 65536 in
set_option maxHeartbeats 40000000 in
theorem own_mk01 (l : Launch) (Z : State) (a0 : Array Value) (hw : ∀ d ∈ tables_1, d.before a0 Z = true) (ws : List Jvm.Cond) (w_A : Addr) (w_B : Addr) (a : Addr) (it : Int64) (rc : Int32) (w : Addr) (h0 : Heap) (n0 : Nat) (O0 : Old Z n0 h0) (S_A : Sta Z Z.heap "com/example/vsyncopate/vsyncopate/animation/RepeatMode" "RESTART" "Lcom/example/vsyncopate/vsyncopate/animation/RepeatMode;" (.ref w_A)) (S_B : Sta Z Z.heap "com/example/vsyncopate/vsyncopate/animation/RepeatMode" "REVERSE" "Lcom/example/vsyncopate/vsyncopate/animation/RepeatMode;" (.ref w_B)) (g_a : n0 ≤ a) (E_a : Exa Z h0 a "com/example/vsyncopate/vsyncopate/animation/Timeline") (F_iterationNanos : Fld Z h0 a "com/example/vsyncopate/vsyncopate/animation/Timeline" "iterationNanos" "J" (.long 0)) (F_mode : Fld Z h0 a "com/example/vsyncopate/vsyncopate/animation/Timeline" "mode" "Lcom/example/vsyncopate/vsyncopate/animation/RepeatMode;" .null) (F_endless : Fld Z h0 a "com/example/vsyncopate/vsyncopate/animation/Timeline" "endless" "Z" (.int 0)) (F_iterations : Fld Z h0 a "com/example/vsyncopate/vsyncopate/animation/Timeline" "iterations" "J" (.long 0)) (F_totalNanos : Fld Z h0 a "com/example/vsyncopate/vsyncopate/animation/Timeline" "totalNanos" "J" (.long 0)) (hp1 : ¬ it < (1 : Int64)) :
    MetFree l (⟨"com/example/vsyncopate/vsyncopate/animation/Timeline", "<init>", "(JIZLcom/example/vsyncopate/vsyncopate/animation/RepeatMode;)V"⟩ : MethodName) (head1 (Jvm.Cond.code (⟨"com/example/vsyncopate/vsyncopate/animation/Timeline", "<init>", "(JIZLcom/example/vsyncopate/vsyncopate/animation/RepeatMode;)V"⟩ : MethodName) prog_9_method_1_code 6 none :: ws) ({ frames := 1, cells := 0, slots := 0, locals := 20 } : Room)) (fun ar U => ar = #[(.ref a), (.long it), (.int rc), (.int 0), (.ref w)] ∧ Z.Warmed39 U.vm ∧ U.heap = h0) (fun _ _ _ _ _ => True) (fun _ U oc U' => ∃ v L, oc = .returned v ∧ own_mk01_Q Z w_A w_B a it rc w h0 n0 v U'.heap L ∧ FrameEnd U oc U' L ({ frames := 1, cells := 0, slots := 0, locals := 20 } : Room).cells ({ frames := 1, cells := 0, slots := 0, locals := 20 } : Room).slots) := by
  refine MetFree.of_bodySF (plainFor_of_name own_pn0) hisR ?_
  intro p e s m args below meth c s₁ Bd hml0 hP hK
  obtain ⟨rfl, hZ, hh⟩ := hP
  have hx := Bd.exec
  have hby := Bd.bytes
  have hml : c.maxLocals = 6 := hml0
  have hown : s.vm.findClass "com/example/vsyncopate/vsyncopate/animation/Timeline" = some m.cls := findClass_of_methodNamed Bd.named
  have hnm := (name_of_methodNamed Bd.named Bd.method).1
  have X0 : Stand p l e ({ frames := 1, cells := 0, slots := 0, locals := 20 } : Room) s m #[(.ref a), (.long it), (.int rc), (.int 0), (.ref w)] below meth c s₁ [] 0 0 := Stand.of_body Bd
  have e0 : s₁.heap = h0 := by rw [← hh, Bd.state]; rfl
  have N0 := Fr.nil n0
  have pre0 : ∀ t, Steps p.tables e below (s₁.setTop (mkF m 0 #[rv a, .val (.long it), .second, iv rc, iv 0, rv w] [])) t → Steps p.tables e below (s₁.setTop (entryFrame m #[(.ref a), (.long it), (.int rc), (.int 0), (.ref w)] 6)) t := fun t k => castTop (own_mk01_ef m a it rc w) k
  have kp0 := Keep.refl h0 ([a] : List Addr)
  obtain ⟨T1, X1, e1, st1⟩ := initO X0 hx hZ hown (hw _ (own_m 11 rfl)) (hw _ (own_m 12 rfl)) (hw _ (own_m 13 rfl)) e0 (g := (mkF m 1 #[rv a, .val (.long it), .second, iv rc, iv 0, rv w] [(.ref a)])) rfl (by rw [hml]; rfl) rfl (hb hby own_d1_1) (by decide) (W := 0) (by show 2 * 0 + _ ≤ _; exact Nat.le_of_eq rfl) (by decide)
  obtain ⟨T2, h2, X2, e2, W2, st2⟩ := putF X1 hx hZ hown (host := "") (Or.inl (hw _ (own_m 14 rfl))) Via.refl e1 F_iterationNanos E_a (Or.inr ⟨(hw _ (own_m 15 rfl)), rfl, hnm⟩) (hw _ (own_m 6 rfl)) (ty := .long) (by decide) rfl rfl (g := (mkF m 6 #[rv a, .val (.long it), .second, iv rc, iv 0, rv w] [(.long it), (.ref a)])) rfl rfl (hb hby own_d1_6)
  have Fw2 := F_iterationNanos.same W2
  have O3 := O0.wr W2 g_a
  have kp4 := kp0.wr W2 (Or.inl (own_m 0 rfl))
  have N2 := Fr.snoc X2 N0 g_a
  have f5 := (F_mode.other W2 (Or.inr (slot_ne (Or.inr (hw _ (own_m 17 rfl))) (Or.inr (hw _ (own_m 15 rfl))) (by decide) (t := (.object "com/example/vsyncopate/vsyncopate/animation/RepeatMode")) (t' := .long) (by decide) (by decide))))
  have f6 := (E_a.wr W2)
  obtain ⟨T7, h7, X7, e7, W7, st7⟩ := putF X2 hx hZ hown (host := "") (Or.inl (hw _ (own_m 16 rfl))) Via.refl e2 f5 f6 (Or.inr ⟨(hw _ (own_m 17 rfl)), rfl, hnm⟩) (hw _ (own_m 6 rfl)) (ty := (.object "com/example/vsyncopate/vsyncopate/animation/RepeatMode")) (by decide) rfl rfl (g := (mkF m 12 #[rv a, .val (.long it), .second, iv rc, iv 0, rv w] [(.ref w), (.ref a)])) rfl rfl (hb hby own_d1_12)
  have Fw7 := f5.same W7
  have O8 := O3.wr W7 g_a
  have kp9 := kp4.wr W7 (Or.inl (own_m 0 rfl))
  have N7 := Fr.snoc X7 N2 g_a
  have f10 := ((F_endless.other W2 (Or.inr (slot_ne (Or.inr (hw _ (own_m 19 rfl))) (Or.inr (hw _ (own_m 15 rfl))) (by decide) (t := .boolean) (t' := .long) (by decide) (by decide)))).other W7 (Or.inr (slot_ne (Or.inr (hw _ (own_m 19 rfl))) (Or.inr (hw _ (own_m 17 rfl))) (by decide) (t := .boolean) (t' := (.object "com/example/vsyncopate/vsyncopate/animation/RepeatMode")) (by decide) (by decide))))
  have f11 := (f6.wr W7)
  obtain ⟨T12, h12, X12, e12, W12, st12⟩ := putF X7 hx hZ hown (host := "") (Or.inl (hw _ (own_m 18 rfl))) Via.refl e7 f10 f11 (Or.inr ⟨(hw _ (own_m 19 rfl)), rfl, hnm⟩) (hw _ (own_m 6 rfl)) (ty := .boolean) (by decide) (by first | rfl | decide) (by first | rfl | decide) (g := (mkF m 32 #[rv a, .val (.long it), .second, iv rc, iv 0, rv w] [(.int 0), (.ref a)])) rfl rfl (hb hby own_d1_32)
  have Fw12 := f10.same W12
  have O13 := O8.wr W12 g_a
  have kp14 := kp9.wr W12 (Or.inl (own_m 0 rfl))
  have N12 := Fr.snoc X12 N7 g_a
  have f15 := (((F_iterations.other W2 (Or.inr (slot_ne (Or.inr (hw _ (own_m 21 rfl))) (Or.inr (hw _ (own_m 15 rfl))) (by decide) (t := .long) (t' := .long) (by decide) (by decide)))).other W7 (Or.inr (slot_ne (Or.inr (hw _ (own_m 21 rfl))) (Or.inr (hw _ (own_m 17 rfl))) (by decide) (t := .long) (t' := (.object "com/example/vsyncopate/vsyncopate/animation/RepeatMode")) (by decide) (by decide)))).other W12 (Or.inr (slot_ne (Or.inr (hw _ (own_m 21 rfl))) (Or.inr (hw _ (own_m 19 rfl))) (by decide) (t := .long) (t' := .boolean) (by decide) (by decide))))
  have f16 := (f11.wr W12)
  obtain ⟨T17, h17, X17, e17, W17, st17⟩ := putF X12 hx hZ hown (host := "") (Or.inl (hw _ (own_m 20 rfl))) Via.refl e12 f15 f16 (Or.inr ⟨(hw _ (own_m 21 rfl)), rfl, hnm⟩) (hw _ (own_m 6 rfl)) (ty := .long) (by decide) rfl rfl (g := (mkF m 49 #[rv a, .val (.long it), .second, iv rc, iv 0, rv w] [(.long ((rc.toInt64) + (1 : Int64))), (.ref a)])) rfl rfl (hb hby own_d1_49)
  have Fw17 := f15.same W17
  have O18 := O13.wr W17 g_a
  have kp19 := kp14.wr W17 (Or.inl (own_m 0 rfl))
  have N17 := Fr.snoc X17 N12 g_a
  obtain ⟨T20, X20, e20, st20⟩ := getF X17 hx hZ hown (host := "") (Or.inl (hw _ (own_m 20 rfl))) Via.refl e17 Fw17 (g := (mkF m 54 #[rv a, .val (.long it), .second, iv rc, iv 0, rv w] [(.ref a), (.ref a)])) rfl rfl (hb hby own_d1_54)
  obtain ⟨_, _, ⟨T21, L21, k21, n21⟩, -, X21, ⟨Lc21, hQ21, l21, y21, z21⟩, st21⟩ := Jvm.LawKit.callS X20 hx (y := (⟨"java/lang/Math", "max", "(JJ)J"⟩ : MethodName)) hown (mvT hZ (hw _ (own_m 23 rfl))) (mvT hZ (hw _ (own_m 24 rfl))) (mvT hZ (hw _ (own_m 25 rfl))) (mvT hZ (hw _ (own_m 26 rfl))) (by decide) (backOf (W := 5) (own_max1 l Z a0 hw [] w_A w_B it h17 n0 O18 S_A S_B hp1) hZ (hw _ (own_m 26 rfl)) (hw _ (own_m 25 rfl)) (by decide) (by decide)) (g := (mkF m 62 #[rv a, .val (.long it), .second, iv rc, iv 0, rv w] [(.long 1), (.long it), (.long 9223372036854775807), (.long ((rc.toInt64) + (1 : Int64))), (.ref a)])) rfl (by rw [hml]; rfl) (argsL := [(.long it), (.long 1)]) (rest := [(.long 9223372036854775807), (.long ((rc.toInt64) + (1 : Int64))), (.ref a)]) (lenOf own_pd0 rfl) rfl (by show 2 * 0 + _ ≤ _; exact Nat.le_of_eq rfl) (hb hby own_d1_62) (fun _ _ => ⟨rfl, e20, (by decide : 0 + 0 ≤ _), (by decide : 0 + 0 ≤ _)⟩)
  dsimp only [Pt.U, Pt.locs, Pt.cells, Pt.slots] at X21 l21 y21 z21 st21 hQ21
  subst l21 y21 z21
  obtain ⟨rfl, N21q, e21⟩ := hQ21
  have N21 := Fr.app N17 N21q
  have pre23 : ∀ t, Steps p.tables e below (T21.setTop (mkF m 66 #[rv a, .val (.long it), .second, iv rc, iv 0, rv w] [(.long ((9223372036854775807 : Int64) / it)), (.long ((rc.toInt64) + (1 : Int64))), (.ref a)])) t → Steps p.tables e below (s₁.setTop (entryFrame m #[(.ref a), (.long it), (.int rc), (.int 0), (.ref w)] 6)) t := fun t kt => by
    refine pre0 _ ?_
    show Steps p.tables e below (s₁.setTop (mkF m 0 #[rv a, .val (.long it), .second, iv rc, iv 0, rv w] [])) _
    refine XS.aloadN X0.here hx rfl (hb hby own_d1_0) rfl rfl ?_
    show Steps p.tables e below (s₁.setTop (mkF m 1 #[rv a, .val (.long it), .second, iv rc, iv 0, rv w] [(.ref a)])) _
    refine st1 _ ?_
    show Steps p.tables e below (T1.setTop (mkF m 4 #[rv a, .val (.long it), .second, iv rc, iv 0, rv w] [])) _
    refine XS.aloadN X1.here hx rfl (hb hby own_d1_4) rfl rfl ?_
    show Steps p.tables e below (T1.setTop (mkF m 5 #[rv a, .val (.long it), .second, iv rc, iv 0, rv w] [(.ref a)])) _
    refine XS.lloadN X1.here hx rfl (hb hby own_d1_5) rfl ?_
    show Steps p.tables e below (T1.setTop (mkF m 6 #[rv a, .val (.long it), .second, iv rc, iv 0, rv w] [(.long it), (.ref a)])) _
    refine st2 _ ?_
    show Steps p.tables e below (T2.setTop (mkF m 9 #[rv a, .val (.long it), .second, iv rc, iv 0, rv w] [])) _
    refine XS.aloadN X2.here hx rfl (hb hby own_d1_9) rfl rfl ?_
    show Steps p.tables e below (T2.setTop (mkF m 10 #[rv a, .val (.long it), .second, iv rc, iv 0, rv w] [(.ref a)])) _
    refine XS.aload X2.here hx rfl (hb hby own_d1_10) rfl rfl ?_
    show Steps p.tables e below (T2.setTop (mkF m 12 #[rv a, .val (.long it), .second, iv rc, iv 0, rv w] [(.ref w), (.ref a)])) _
    refine st7 _ ?_
    show Steps p.tables e below (T7.setTop (mkF m 15 #[rv a, .val (.long it), .second, iv rc, iv 0, rv w] [])) _
    refine XS.aloadN X7.here hx rfl (hb hby own_d1_15) rfl rfl ?_
    show Steps p.tables e below (T7.setTop (mkF m 16 #[rv a, .val (.long it), .second, iv rc, iv 0, rv w] [(.ref a)])) _
    refine XS.iload X7.here hx rfl (hb hby own_d1_16) rfl ?_
    show Steps p.tables e below (T7.setTop (mkF m 18 #[rv a, .val (.long it), .second, iv rc, iv 0, rv w] [(.int 0), (.ref a)])) _
    refine XS.ifYes X7.here hx rfl (pc0 := 18) (pc' := 31) rfl (hb hby own_d1_18) rfl ((if0 _ _).trans (teq (by decide)).1) (by decide) (by decide) ?_
    show Steps p.tables e below (T7.setTop (mkF m 31 #[rv a, .val (.long it), .second, iv rc, iv 0, rv w] [(.ref a)])) _
    refine XS.iconst X7.here hx rfl (hb hby own_d1_31) ?_
    show Steps p.tables e below (T7.setTop (mkF m 32 #[rv a, .val (.long it), .second, iv rc, iv 0, rv w] [(.int 0), (.ref a)])) _
    refine st12 _ ?_
    show Steps p.tables e below (T12.setTop (mkF m 35 #[rv a, .val (.long it), .second, iv rc, iv 0, rv w] [])) _
    refine XS.aloadN X12.here hx rfl (hb hby own_d1_35) rfl rfl ?_
    show Steps p.tables e below (T12.setTop (mkF m 36 #[rv a, .val (.long it), .second, iv rc, iv 0, rv w] [(.ref a)])) _
    refine XS.iload X12.here hx rfl (hb hby own_d1_36) rfl ?_
    show Steps p.tables e below (T12.setTop (mkF m 38 #[rv a, .val (.long it), .second, iv rc, iv 0, rv w] [(.int 0), (.ref a)])) _
    refine XS.ifYes X12.here hx rfl (pc0 := 38) (pc' := 45) rfl (hb hby own_d1_38) rfl ((if0 _ _).trans (teq (by decide)).1) (by decide) (by decide) ?_
    show Steps p.tables e below (T12.setTop (mkF m 45 #[rv a, .val (.long it), .second, iv rc, iv 0, rv w] [(.ref a)])) _
    refine XS.iloadN X12.here hx rfl (hb hby own_d1_45) rfl ?_
    show Steps p.tables e below (T12.setTop (mkF m 46 #[rv a, .val (.long it), .second, iv rc, iv 0, rv w] [(.int rc), (.ref a)])) _
    refine XS.i2l X12.here hx rfl (hb hby own_d1_46) rfl ?_
    show Steps p.tables e below (T12.setTop (mkF m 47 #[rv a, .val (.long it), .second, iv rc, iv 0, rv w] [(.long (rc.toInt64)), (.ref a)])) _
    refine XS.lconst X12.here hx rfl (hb hby own_d1_47) ?_
    show Steps p.tables e below (T12.setTop (mkF m 48 #[rv a, .val (.long it), .second, iv rc, iv 0, rv w] [(.long 1), (.long (rc.toInt64)), (.ref a)])) _
    refine XS.ladd X12.here hx rfl (hb hby own_d1_48) rfl ?_
    show Steps p.tables e below (T12.setTop (mkF m 49 #[rv a, .val (.long it), .second, iv rc, iv 0, rv w] [(.long ((rc.toInt64) + (1 : Int64))), (.ref a)])) _
    refine st17 _ ?_
    show Steps p.tables e below (T17.setTop (mkF m 52 #[rv a, .val (.long it), .second, iv rc, iv 0, rv w] [])) _
    refine XS.aloadN X17.here hx rfl (hb hby own_d1_52) rfl rfl ?_
    show Steps p.tables e below (T17.setTop (mkF m 53 #[rv a, .val (.long it), .second, iv rc, iv 0, rv w] [(.ref a)])) _
    refine XS.aloadN X17.here hx rfl (hb hby own_d1_53) rfl rfl ?_
    show Steps p.tables e below (T17.setTop (mkF m 54 #[rv a, .val (.long it), .second, iv rc, iv 0, rv w] [(.ref a), (.ref a)])) _
    refine st20 _ ?_
    show Steps p.tables e below (T20.setTop (mkF m 57 #[rv a, .val (.long it), .second, iv rc, iv 0, rv w] [(.long ((rc.toInt64) + (1 : Int64))), (.ref a)])) _
    refine X20.ldc2Long hx hown (mvT hZ (hw _ (own_m 22 rfl))) (g := (mkF m 57 #[rv a, .val (.long it), .second, iv rc, iv 0, rv w] [(.long ((rc.toInt64) + (1 : Int64))), (.ref a)])) rfl (hb hby own_d1_57) _ ?_
    show Steps p.tables e below (T20.setTop (mkF m 60 #[rv a, .val (.long it), .second, iv rc, iv 0, rv w] [(.long 9223372036854775807), (.long ((rc.toInt64) + (1 : Int64))), (.ref a)])) _
    refine XS.lloadN X20.here hx rfl (hb hby own_d1_60) rfl ?_
    show Steps p.tables e below (T20.setTop (mkF m 61 #[rv a, .val (.long it), .second, iv rc, iv 0, rv w] [(.long it), (.long 9223372036854775807), (.long ((rc.toInt64) + (1 : Int64))), (.ref a)])) _
    refine XS.lconst X20.here hx rfl (hb hby own_d1_61) ?_
    show Steps p.tables e below (T20.setTop (mkF m 62 #[rv a, .val (.long it), .second, iv rc, iv 0, rv w] [(.long 1), (.long it), (.long 9223372036854775807), (.long ((rc.toInt64) + (1 : Int64))), (.ref a)])) _
    refine st21 _ ?_
    show Steps p.tables e below (T21.setTop (mkF m 65 #[rv a, .val (.long it), .second, iv rc, iv 0, rv w] [(.long it), (.long 9223372036854775807), (.long ((rc.toInt64) + (1 : Int64))), (.ref a)])) _
    refine XS.ldiv X21.here hx rfl (hb hby own_d1_65) rfl (own_p2 hp1) ?_
    show Steps p.tables e below (T21.setTop (mkF m 66 #[rv a, .val (.long it), .second, iv rc, iv 0, rv w] [(.long ((9223372036854775807 : Int64) / it)), (.long ((rc.toInt64) + (1 : Int64))), (.ref a)])) _
    exact kt
  by_cases hc22 : ((9223372036854775807 : Int64) / it) < ((rc.toInt64) + (1 : Int64))
  · have f24 := ((((F_totalNanos.other W2 (Or.inr (slot_ne (Or.inr (hw _ (own_m 28 rfl))) (Or.inr (hw _ (own_m 15 rfl))) (by decide) (t := .long) (t' := .long) (by decide) (by decide)))).other W7 (Or.inr (slot_ne (Or.inr (hw _ (own_m 28 rfl))) (Or.inr (hw _ (own_m 17 rfl))) (by decide) (t := .long) (t' := (.object "com/example/vsyncopate/vsyncopate/animation/RepeatMode")) (by decide) (by decide)))).other W12 (Or.inr (slot_ne (Or.inr (hw _ (own_m 28 rfl))) (Or.inr (hw _ (own_m 19 rfl))) (by decide) (t := .long) (t' := .boolean) (by decide) (by decide)))).other W17 (Or.inr (slot_ne (Or.inr (hw _ (own_m 28 rfl))) (Or.inr (hw _ (own_m 21 rfl))) (by decide) (t := .long) (t' := .long) (by decide) (by decide))))
    have f25 := (f16.wr W17)
    obtain ⟨T26, h26, X26, e26, W26, st26⟩ := putF X21 hx hZ hown (host := "") (Or.inl (hw _ (own_m 27 rfl))) Via.refl e21 f24 f25 (Or.inr ⟨(hw _ (own_m 28 rfl)), rfl, hnm⟩) (hw _ (own_m 6 rfl)) (ty := .long) (by decide) rfl rfl (g := (mkF m 82 #[rv a, .val (.long it), .second, iv rc, iv 0, rv w] [(.long 9223372036854775807), (.ref a)])) rfl rfl (hb hby own_d1_82)
    have Fw26 := f24.same W26
    have O27 := O18.wr W26 g_a
    have kp28 := kp19.wr W26 (Or.inl (own_m 0 rfl))
    have N26 := Fr.snoc X26 N21 g_a
    have f29 := (f25.wr W26)
    have f30 := ((Fw12.other W17 (Or.inr (slot_ne (Or.inr (hw _ (own_m 19 rfl))) (Or.inr (hw _ (own_m 21 rfl))) (by decide) (t := .boolean) (t' := .long) (by decide) (by decide)))).other W26 (Or.inr (slot_ne (Or.inr (hw _ (own_m 19 rfl))) (Or.inr (hw _ (own_m 28 rfl))) (by decide) (t := .boolean) (t' := .long) (by decide) (by decide))))
    obtain ⟨fs, hr, hrun, hended, hW, hsame⟩ := X26.leave (v := none) (fun _ => rfl)
    refine ⟨_, _, pre23 _ ?_, hrun, hended, _, _, rfl, ?_, ⟨_, rfl⟩, hW, hsame.mono (by decide) (by decide)⟩
    · show Steps p.tables e below (T21.setTop (mkF m 66 #[rv a, .val (.long it), .second, iv rc, iv 0, rv w] [(.long ((9223372036854775807 : Int64) / it)), (.long ((rc.toInt64) + (1 : Int64))), (.ref a)])) _
      refine XS.lcmp X21.here hx rfl (hb hby own_d1_66) rfl ?_
      show Steps p.tables e below (T21.setTop (mkF m 67 #[rv a, .val (.long it), .second, iv rc, iv 0, rv w] [(.int (lcmpW ((rc.toInt64) + (1 : Int64)) ((9223372036854775807 : Int64) / it))), (.ref a)])) _
      refine XS.ifNo X21.here hx rfl (hb hby own_d1_67) rfl ((if0 _ _).trans (tlt ((lw_gt _ _).mpr hc22)).2.2.2) ?_
      show Steps p.tables e below (T21.setTop (mkF m 70 #[rv a, .val (.long it), .second, iv rc, iv 0, rv w] [(.ref a)])) _
      refine X21.ldc2Long hx hown (mvT hZ (hw _ (own_m 22 rfl))) (g := (mkF m 70 #[rv a, .val (.long it), .second, iv rc, iv 0, rv w] [(.ref a)])) rfl (hb hby own_d1_70) _ ?_
      show Steps p.tables e below (T21.setTop (mkF m 73 #[rv a, .val (.long it), .second, iv rc, iv 0, rv w] [(.long 9223372036854775807), (.ref a)])) _
      refine XS.goto X21.here hx rfl (pc0 := 73) (pc' := 82) rfl (hb hby own_d1_73) (by decide) (by decide) ?_
      show Steps p.tables e below (T21.setTop (mkF m 82 #[rv a, .val (.long it), .second, iv rc, iv 0, rv w] [(.long 9223372036854775807), (.ref a)])) _
      refine st26 _ ?_
      show Steps p.tables e below (T26.setTop (mkF m 85 #[rv a, .val (.long it), .second, iv rc, iv 0, rv w] [])) _
      exact X26.returnOut hx Bd.returns (hb hby own_d1_85) hr
    · show own_mk01_Q Z w_A w_B a it rc w h0 n0 _ T26.heap _
      rw [e26]
      exact ⟨rfl, N26, kp28, _, (if_pos hc22).symm, f29, f30, Fw26⟩
  · obtain ⟨T31, X31, e31, st31⟩ := getF X21 hx hZ hown (host := "") (Or.inl (hw _ (own_m 20 rfl))) Via.refl e21 Fw17 (g := (mkF m 77 #[rv a, .val (.long it), .second, iv rc, iv 0, rv w] [(.ref a), (.ref a)])) rfl rfl (hb hby own_d1_77)
    have f32 := ((((F_totalNanos.other W2 (Or.inr (slot_ne (Or.inr (hw _ (own_m 28 rfl))) (Or.inr (hw _ (own_m 15 rfl))) (by decide) (t := .long) (t' := .long) (by decide) (by decide)))).other W7 (Or.inr (slot_ne (Or.inr (hw _ (own_m 28 rfl))) (Or.inr (hw _ (own_m 17 rfl))) (by decide) (t := .long) (t' := (.object "com/example/vsyncopate/vsyncopate/animation/RepeatMode")) (by decide) (by decide)))).other W12 (Or.inr (slot_ne (Or.inr (hw _ (own_m 28 rfl))) (Or.inr (hw _ (own_m 19 rfl))) (by decide) (t := .long) (t' := .boolean) (by decide) (by decide)))).other W17 (Or.inr (slot_ne (Or.inr (hw _ (own_m 28 rfl))) (Or.inr (hw _ (own_m 21 rfl))) (by decide) (t := .long) (t' := .long) (by decide) (by decide))))
    have f33 := (f16.wr W17)
    obtain ⟨T34, h34, X34, e34, W34, st34⟩ := putF X31 hx hZ hown (host := "") (Or.inl (hw _ (own_m 27 rfl))) Via.refl e31 f32 f33 (Or.inr ⟨(hw _ (own_m 28 rfl)), rfl, hnm⟩) (hw _ (own_m 6 rfl)) (ty := .long) (by decide) rfl rfl (g := (mkF m 82 #[rv a, .val (.long it), .second, iv rc, iv 0, rv w] [(.long (((rc.toInt64) + (1 : Int64)) * it)), (.ref a)])) rfl rfl (hb hby own_d1_82)
    have Fw34 := f32.same W34
    have O35 := O18.wr W34 g_a
    have kp36 := kp19.wr W34 (Or.inl (own_m 0 rfl))
    have N34 := Fr.snoc X34 N21 g_a
    have f37 := (f33.wr W34)
    have f38 := ((Fw12.other W17 (Or.inr (slot_ne (Or.inr (hw _ (own_m 19 rfl))) (Or.inr (hw _ (own_m 21 rfl))) (by decide) (t := .boolean) (t' := .long) (by decide) (by decide)))).other W34 (Or.inr (slot_ne (Or.inr (hw _ (own_m 19 rfl))) (Or.inr (hw _ (own_m 28 rfl))) (by decide) (t := .boolean) (t' := .long) (by decide) (by decide))))
    obtain ⟨fs, hr, hrun, hended, hW, hsame⟩ := X34.leave (v := none) (fun _ => rfl)
    refine ⟨_, _, pre23 _ ?_, hrun, hended, _, _, rfl, ?_, ⟨_, rfl⟩, hW, hsame.mono (by decide) (by decide)⟩
    · show Steps p.tables e below (T21.setTop (mkF m 66 #[rv a, .val (.long it), .second, iv rc, iv 0, rv w] [(.long ((9223372036854775807 : Int64) / it)), (.long ((rc.toInt64) + (1 : Int64))), (.ref a)])) _
      refine XS.lcmp X21.here hx rfl (hb hby own_d1_66) rfl ?_
      show Steps p.tables e below (T21.setTop (mkF m 67 #[rv a, .val (.long it), .second, iv rc, iv 0, rv w] [(.int (lcmpW ((rc.toInt64) + (1 : Int64)) ((9223372036854775807 : Int64) / it))), (.ref a)])) _
      refine XS.ifYes X21.here hx rfl (pc0 := 67) (pc' := 76) rfl (hb hby own_d1_67) rfl ((if0 _ _).trans (flt (fun q => hc22 ((lw_gt _ _).mp q))).2.2.2) (by decide) (by decide) ?_
      show Steps p.tables e below (T21.setTop (mkF m 76 #[rv a, .val (.long it), .second, iv rc, iv 0, rv w] [(.ref a)])) _
      refine XS.aloadN X21.here hx rfl (hb hby own_d1_76) rfl rfl ?_
      show Steps p.tables e below (T21.setTop (mkF m 77 #[rv a, .val (.long it), .second, iv rc, iv 0, rv w] [(.ref a), (.ref a)])) _
      refine st31 _ ?_
      show Steps p.tables e below (T31.setTop (mkF m 80 #[rv a, .val (.long it), .second, iv rc, iv 0, rv w] [(.long ((rc.toInt64) + (1 : Int64))), (.ref a)])) _
      refine XS.lloadN X31.here hx rfl (hb hby own_d1_80) rfl ?_
      show Steps p.tables e below (T31.setTop (mkF m 81 #[rv a, .val (.long it), .second, iv rc, iv 0, rv w] [(.long it), (.long ((rc.toInt64) + (1 : Int64))), (.ref a)])) _
      refine XS.lmul X31.here hx rfl (hb hby own_d1_81) rfl ?_
      show Steps p.tables e below (T31.setTop (mkF m 82 #[rv a, .val (.long it), .second, iv rc, iv 0, rv w] [(.long (((rc.toInt64) + (1 : Int64)) * it)), (.ref a)])) _
      refine st34 _ ?_
      show Steps p.tables e below (T34.setTop (mkF m 85 #[rv a, .val (.long it), .second, iv rc, iv 0, rv w] [])) _
      exact X34.returnOut hx Bd.returns (hb hby own_d1_85) hr
    · show own_mk01_Q Z w_A w_B a it rc w h0 n0 _ T34.heap _
      rw [e34]
      exact ⟨rfl, N34, kp36, _, (if_neg hc22).symm, f37, f38, Fw34⟩
theorem own_mk10_ef (m : MethodId) (a : Addr) (rc : Int32) (w : Addr) : entryFrame m #[(.ref a), (.long 0), (.int rc), (.int 1), (.ref w)] 6 = mkF m 0 #[rv a, .val (.long 0), .second, iv rc, iv 1, rv w] [] := by first | (simp [entryFrame, mkF, argsToLocals, Value.category]; done) | rfl
def own_mk10_Q (Z : State) (w_A : Addr) (w_B : Addr) (a : Addr) (it : Int64) (rc : Int32) (w : Addr) (h0 : Heap) (n0 : Nat) (v : Option Value) (h : Heap) (L : List Loc) : Prop := v = none ∧ Fr n0 L ∧ Keep h0 h [a] ∧ ∃ t : Int64, t = (0 : Int64) ∧ Exa Z h a "com/example/vsyncopate/vsyncopate/animation/Timeline" ∧ Fld Z h a "com/example/vsyncopate/vsyncopate/animation/Timeline" "endless" "Z" (.int 0) ∧ Fld Z h a "com/example/vsyncopate/vsyncopate/animation/Timeline" "totalNanos" "J" (.long t)
set_option maxRecDepth 65536 in
set_option maxHeartbeats 40000000 in
theorem own_mk10 (l : Launch) (Z : State) (a0 : Array Value) (hw : ∀ d ∈ tables_1, d.before a0 Z = true) (ws : List Jvm.Cond) (w_A : Addr) (w_B : Addr) (a : Addr) (it : Int64) (rc : Int32) (w : Addr) (h0 : Heap) (n0 : Nat) (O0 : Old Z n0 h0) (S_A : Sta Z Z.heap "com/example/vsyncopate/vsyncopate/animation/RepeatMode" "RESTART" "Lcom/example/vsyncopate/vsyncopate/animation/RepeatMode;" (.ref w_A)) (S_B : Sta Z Z.heap "com/example/vsyncopate/vsyncopate/animation/RepeatMode" "REVERSE" "Lcom/example/vsyncopate/vsyncopate/animation/RepeatMode;" (.ref w_B)) (g_a : n0 ≤ a) (E_a : Exa Z h0 a "com/example/vsyncopate/vsyncopate/animation/Timeline") (F_iterationNanos : Fld Z h0 a "com/example/vsyncopate/vsyncopate/animation/Timeline" "iterationNanos" "J" (.long 0)) (F_mode : Fld Z h0 a "com/example/vsyncopate/vsyncopate/animation/Timeline" "mode" "Lcom/example/vsyncopate/vsyncopate/animation/RepeatMode;" .null) (F_endless : Fld Z h0 a "com/example/vsyncopate/vsyncopate/animation/Timeline" "endless" "Z" (.int 0)) (F_iterations : Fld Z h0 a "com/example/vsyncopate/vsyncopate/animation/Timeline" "iterations" "J" (.long 0)) (F_totalNanos : Fld Z h0 a "com/example/vsyncopate/vsyncopate/animation/Timeline" "totalNanos" "J" (.long 0)) :
    MetFree l (⟨"com/example/vsyncopate/vsyncopate/animation/Timeline", "<init>", "(JIZLcom/example/vsyncopate/vsyncopate/animation/RepeatMode;)V"⟩ : MethodName) (head1 (Jvm.Cond.code (⟨"com/example/vsyncopate/vsyncopate/animation/Timeline", "<init>", "(JIZLcom/example/vsyncopate/vsyncopate/animation/RepeatMode;)V"⟩ : MethodName) prog_9_method_1_code 6 none :: ws) ({ frames := 1, cells := 0, slots := 0, locals := 20 } : Room)) (fun ar U => ar = #[(.ref a), (.long 0), (.int rc), (.int 1), (.ref w)] ∧ Z.Warmed39 U.vm ∧ U.heap = h0) (fun _ _ _ _ _ => True) (fun _ U oc U' => ∃ v L, oc = .returned v ∧ own_mk10_Q Z w_A w_B a it rc w h0 n0 v U'.heap L ∧ FrameEnd U oc U' L ({ frames := 1, cells := 0, slots := 0, locals := 20 } : Room).cells ({ frames := 1, cells := 0, slots := 0, locals := 20 } : Room).slots) := by
  refine MetFree.of_bodySF (plainFor_of_name own_pn0) hisR ?_
  intro p e s m args below meth c s₁ Bd hml0 hP hK
  obtain ⟨rfl, hZ, hh⟩ := hP
  have hx := Bd.exec
  have hby := Bd.bytes
  have hml : c.maxLocals = 6 := hml0
  have hown : s.vm.findClass "com/example/vsyncopate/vsyncopate/animation/Timeline" = some m.cls := findClass_of_methodNamed Bd.named
  have hnm := (name_of_methodNamed Bd.named Bd.method).1
  have X0 : Stand p l e ({ frames := 1, cells := 0, slots := 0, locals := 20 } : Room) s m #[(.ref a), (.long 0), (.int rc), (.int 1), (.ref w)] below meth c s₁ [] 0 0 := Stand.of_body Bd
  have e0 : s₁.heap = h0 := by rw [← hh, Bd.state]; rfl
  have N0 := Fr.nil n0
  have pre0 : ∀ t, Steps p.tables e below (s₁.setTop (mkF m 0 #[rv a, .val (.long 0), .second, iv rc, iv 1, rv w] [])) t → Steps p.tables e below (s₁.setTop (entryFrame m #[(.ref a), (.long 0), (.int rc), (.int 1), (.ref w)] 6)) t := fun t k => castTop (own_mk10_ef m a rc w) k
  have kp0 := Keep.refl h0 ([a] : List Addr)
  obtain ⟨T1, X1, e1, st1⟩ := initO X0 hx hZ hown (hw _ (own_m 11 rfl)) (hw _ (own_m 12 rfl)) (hw _ (own_m 13 rfl)) e0 (g := (mkF m 1 #[rv a, .val (.long 0), .second, iv rc, iv 1, rv w] [(.ref a)])) rfl (by rw [hml]; rfl) rfl (hb hby own_d1_1) (by decide) (W := 0) (by show 2 * 0 + _ ≤ _; exact Nat.le_of_eq rfl) (by decide)
  obtain ⟨T2, h2, X2, e2, W2, st2⟩ := putF X1 hx hZ hown (host := "") (Or.inl (hw _ (own_m 14 rfl))) Via.refl e1 F_iterationNanos E_a (Or.inr ⟨(hw _ (own_m 15 rfl)), rfl, hnm⟩) (hw _ (own_m 6 rfl)) (ty := .long) (by decide) rfl rfl (g := (mkF m 6 #[rv a, .val (.long 0), .second, iv rc, iv 1, rv w] [(.long 0), (.ref a)])) rfl rfl (hb hby own_d1_6)
  have Fw2 := F_iterationNanos.same W2
  have O3 := O0.wr W2 g_a
  have kp4 := kp0.wr W2 (Or.inl (own_m 0 rfl))
  have N2 := Fr.snoc X2 N0 g_a
  have f5 := (F_mode.other W2 (Or.inr (slot_ne (Or.inr (hw _ (own_m 17 rfl))) (Or.inr (hw _ (own_m 15 rfl))) (by decide) (t := (.object "com/example/vsyncopate/vsyncopate/animation/RepeatMode")) (t' := .long) (by decide) (by decide))))
  have f6 := (E_a.wr W2)
  obtain ⟨T7, h7, X7, e7, W7, st7⟩ := putF X2 hx hZ hown (host := "") (Or.inl (hw _ (own_m 16 rfl))) Via.refl e2 f5 f6 (Or.inr ⟨(hw _ (own_m 17 rfl)), rfl, hnm⟩) (hw _ (own_m 6 rfl)) (ty := (.object "com/example/vsyncopate/vsyncopate/animation/RepeatMode")) (by decide) rfl rfl (g := (mkF m 12 #[rv a, .val (.long 0), .second, iv rc, iv 1, rv w] [(.ref w), (.ref a)])) rfl rfl (hb hby own_d1_12)
  have Fw7 := f5.same W7
  have O8 := O3.wr W7 g_a
  have kp9 := kp4.wr W7 (Or.inl (own_m 0 rfl))
  have N7 := Fr.snoc X7 N2 g_a
  have f10 := ((F_endless.other W2 (Or.inr (slot_ne (Or.inr (hw _ (own_m 19 rfl))) (Or.inr (hw _ (own_m 15 rfl))) (by decide) (t := .boolean) (t' := .long) (by decide) (by decide)))).other W7 (Or.inr (slot_ne (Or.inr (hw _ (own_m 19 rfl))) (Or.inr (hw _ (own_m 17 rfl))) (by decide) (t := .boolean) (t' := (.object "com/example/vsyncopate/vsyncopate/animation/RepeatMode")) (by decide) (by decide))))
  have f11 := (f6.wr W7)
  obtain ⟨T12, h12, X12, e12, W12, st12⟩ := putF X7 hx hZ hown (host := "") (Or.inl (hw _ (own_m 18 rfl))) Via.refl e7 f10 f11 (Or.inr ⟨(hw _ (own_m 19 rfl)), rfl, hnm⟩) (hw _ (own_m 6 rfl)) (ty := .boolean) (by decide) (by first | rfl | decide) (by first | rfl | decide) (g := (mkF m 32 #[rv a, .val (.long 0), .second, iv rc, iv 1, rv w] [(.int 0), (.ref a)])) rfl rfl (hb hby own_d1_32)
  have Fw12 := f10.same W12
  have O13 := O8.wr W12 g_a
  have kp14 := kp9.wr W12 (Or.inl (own_m 0 rfl))
  have N12 := Fr.snoc X12 N7 g_a
  have f15 := (((F_iterations.other W2 (Or.inr (slot_ne (Or.inr (hw _ (own_m 21 rfl))) (Or.inr (hw _ (own_m 15 rfl))) (by decide) (t := .long) (t' := .long) (by decide) (by decide)))).other W7 (Or.inr (slot_ne (Or.inr (hw _ (own_m 21 rfl))) (Or.inr (hw _ (own_m 17 rfl))) (by decide) (t := .long) (t' := (.object "com/example/vsyncopate/vsyncopate/animation/RepeatMode")) (by decide) (by decide)))).other W12 (Or.inr (slot_ne (Or.inr (hw _ (own_m 21 rfl))) (Or.inr (hw _ (own_m 19 rfl))) (by decide) (t := .long) (t' := .boolean) (by decide) (by decide))))
  have f16 := (f11.wr W12)
  obtain ⟨T17, h17, X17, e17, W17, st17⟩ := putF X12 hx hZ hown (host := "") (Or.inl (hw _ (own_m 20 rfl))) Via.refl e12 f15 f16 (Or.inr ⟨(hw _ (own_m 21 rfl)), rfl, hnm⟩) (hw _ (own_m 6 rfl)) (ty := .long) (by decide) rfl rfl (g := (mkF m 49 #[rv a, .val (.long 0), .second, iv rc, iv 1, rv w] [(.long 1), (.ref a)])) rfl rfl (hb hby own_d1_49)
  have Fw17 := f15.same W17
  have O18 := O13.wr W17 g_a
  have kp19 := kp14.wr W17 (Or.inl (own_m 0 rfl))
  have N17 := Fr.snoc X17 N12 g_a
  obtain ⟨T20, X20, e20, st20⟩ := getF X17 hx hZ hown (host := "") (Or.inl (hw _ (own_m 20 rfl))) Via.refl e17 Fw17 (g := (mkF m 54 #[rv a, .val (.long 0), .second, iv rc, iv 1, rv w] [(.ref a), (.ref a)])) rfl rfl (hb hby own_d1_54)
  obtain ⟨_, _, ⟨T21, L21, k21, n21⟩, -, X21, ⟨Lc21, hQ21, l21, y21, z21⟩, st21⟩ := Jvm.LawKit.callS X20 hx (y := (⟨"java/lang/Math", "max", "(JJ)J"⟩ : MethodName)) hown (mvT hZ (hw _ (own_m 23 rfl))) (mvT hZ (hw _ (own_m 24 rfl))) (mvT hZ (hw _ (own_m 25 rfl))) (mvT hZ (hw _ (own_m 26 rfl))) (by decide) (backOf (W := 5) (own_max0 l Z a0 hw [] w_A w_B  h17 n0 O18 S_A S_B ) hZ (hw _ (own_m 26 rfl)) (hw _ (own_m 25 rfl)) (by decide) (by decide)) (g := (mkF m 62 #[rv a, .val (.long 0), .second, iv rc, iv 1, rv w] [(.long 1), (.long 0), (.long 9223372036854775807), (.long 1), (.ref a)])) rfl (by rw [hml]; rfl) (argsL := [(.long 0), (.long 1)]) (rest := [(.long 9223372036854775807), (.long 1), (.ref a)]) (lenOf own_pd0 rfl) rfl (by show 2 * 0 + _ ≤ _; exact Nat.le_of_eq rfl) (hb hby own_d1_62) (fun _ _ => ⟨rfl, e20, (by decide : 0 + 0 ≤ _), (by decide : 0 + 0 ≤ _)⟩)
  dsimp only [Pt.U, Pt.locs, Pt.cells, Pt.slots] at X21 l21 y21 z21 st21 hQ21
  subst l21 y21 z21
  obtain ⟨rfl, N21q, e21⟩ := hQ21
  have N21 := Fr.app N17 N21q
  obtain ⟨T22, X22, e22, st22⟩ := getF X21 hx hZ hown (host := "") (Or.inl (hw _ (own_m 20 rfl))) Via.refl e21 Fw17 (g := (mkF m 77 #[rv a, .val (.long 0), .second, iv rc, iv 1, rv w] [(.ref a), (.ref a)])) rfl rfl (hb hby own_d1_77)
  have f23 := ((((F_totalNanos.other W2 (Or.inr (slot_ne (Or.inr (hw _ (own_m 28 rfl))) (Or.inr (hw _ (own_m 15 rfl))) (by decide) (t := .long) (t' := .long) (by decide) (by decide)))).other W7 (Or.inr (slot_ne (Or.inr (hw _ (own_m 28 rfl))) (Or.inr (hw _ (own_m 17 rfl))) (by decide) (t := .long) (t' := (.object "com/example/vsyncopate/vsyncopate/animation/RepeatMode")) (by decide) (by decide)))).other W12 (Or.inr (slot_ne (Or.inr (hw _ (own_m 28 rfl))) (Or.inr (hw _ (own_m 19 rfl))) (by decide) (t := .long) (t' := .boolean) (by decide) (by decide)))).other W17 (Or.inr (slot_ne (Or.inr (hw _ (own_m 28 rfl))) (Or.inr (hw _ (own_m 21 rfl))) (by decide) (t := .long) (t' := .long) (by decide) (by decide))))
  have f24 := (f16.wr W17)
  obtain ⟨T25, h25, X25, e25, W25, st25⟩ := putF X22 hx hZ hown (host := "") (Or.inl (hw _ (own_m 27 rfl))) Via.refl e22 f23 f24 (Or.inr ⟨(hw _ (own_m 28 rfl)), rfl, hnm⟩) (hw _ (own_m 6 rfl)) (ty := .long) (by decide) rfl rfl (g := (mkF m 82 #[rv a, .val (.long 0), .second, iv rc, iv 1, rv w] [(.long 0), (.ref a)])) rfl rfl (hb hby own_d1_82)
  have Fw25 := f23.same W25
  have O26 := O18.wr W25 g_a
  have kp27 := kp19.wr W25 (Or.inl (own_m 0 rfl))
  have N25 := Fr.snoc X25 N21 g_a
  have f28 := (f24.wr W25)
  have f29 := ((Fw12.other W17 (Or.inr (slot_ne (Or.inr (hw _ (own_m 19 rfl))) (Or.inr (hw _ (own_m 21 rfl))) (by decide) (t := .boolean) (t' := .long) (by decide) (by decide)))).other W25 (Or.inr (slot_ne (Or.inr (hw _ (own_m 19 rfl))) (Or.inr (hw _ (own_m 28 rfl))) (by decide) (t := .boolean) (t' := .long) (by decide) (by decide))))
  obtain ⟨fs, hr, hrun, hended, hW, hsame⟩ := X25.leave (v := none) (fun _ => rfl)
  refine ⟨_, _, pre0 _ ?_, hrun, hended, _, _, rfl, ?_, ⟨_, rfl⟩, hW, hsame.mono (by decide) (by decide)⟩
  · show Steps p.tables e below (s₁.setTop (mkF m 0 #[rv a, .val (.long 0), .second, iv rc, iv 1, rv w] [])) _
    refine XS.aloadN X0.here hx rfl (hb hby own_d1_0) rfl rfl ?_
    show Steps p.tables e below (s₁.setTop (mkF m 1 #[rv a, .val (.long 0), .second, iv rc, iv 1, rv w] [(.ref a)])) _
    refine st1 _ ?_
    show Steps p.tables e below (T1.setTop (mkF m 4 #[rv a, .val (.long 0), .second, iv rc, iv 1, rv w] [])) _
    refine XS.aloadN X1.here hx rfl (hb hby own_d1_4) rfl rfl ?_
    show Steps p.tables e below (T1.setTop (mkF m 5 #[rv a, .val (.long 0), .second, iv rc, iv 1, rv w] [(.ref a)])) _
    refine XS.lloadN X1.here hx rfl (hb hby own_d1_5) rfl ?_
    show Steps p.tables e below (T1.setTop (mkF m 6 #[rv a, .val (.long 0), .second, iv rc, iv 1, rv w] [(.long 0), (.ref a)])) _
    refine st2 _ ?_
    show Steps p.tables e below (T2.setTop (mkF m 9 #[rv a, .val (.long 0), .second, iv rc, iv 1, rv w] [])) _
    refine XS.aloadN X2.here hx rfl (hb hby own_d1_9) rfl rfl ?_
    show Steps p.tables e below (T2.setTop (mkF m 10 #[rv a, .val (.long 0), .second, iv rc, iv 1, rv w] [(.ref a)])) _
    refine XS.aload X2.here hx rfl (hb hby own_d1_10) rfl rfl ?_
    show Steps p.tables e below (T2.setTop (mkF m 12 #[rv a, .val (.long 0), .second, iv rc, iv 1, rv w] [(.ref w), (.ref a)])) _
    refine st7 _ ?_
    show Steps p.tables e below (T7.setTop (mkF m 15 #[rv a, .val (.long 0), .second, iv rc, iv 1, rv w] [])) _
    refine XS.aloadN X7.here hx rfl (hb hby own_d1_15) rfl rfl ?_
    show Steps p.tables e below (T7.setTop (mkF m 16 #[rv a, .val (.long 0), .second, iv rc, iv 1, rv w] [(.ref a)])) _
    refine XS.iload X7.here hx rfl (hb hby own_d1_16) rfl ?_
    show Steps p.tables e below (T7.setTop (mkF m 18 #[rv a, .val (.long 0), .second, iv rc, iv 1, rv w] [(.int 1), (.ref a)])) _
    refine XS.ifNo X7.here hx rfl (hb hby own_d1_18) rfl ((if0 _ _).trans (feq (by decide)).1) ?_
    show Steps p.tables e below (T7.setTop (mkF m 21 #[rv a, .val (.long 0), .second, iv rc, iv 1, rv w] [(.ref a)])) _
    refine XS.lloadN X7.here hx rfl (hb hby own_d1_21) rfl ?_
    show Steps p.tables e below (T7.setTop (mkF m 22 #[rv a, .val (.long 0), .second, iv rc, iv 1, rv w] [(.long 0), (.ref a)])) _
    refine XS.lconst X7.here hx rfl (hb hby own_d1_22) ?_
    show Steps p.tables e below (T7.setTop (mkF m 23 #[rv a, .val (.long 0), .second, iv rc, iv 1, rv w] [(.long 0), (.long 0), (.ref a)])) _
    refine XS.lcmp X7.here hx rfl (hb hby own_d1_23) rfl ?_
    show Steps p.tables e below (T7.setTop (mkF m 24 #[rv a, .val (.long 0), .second, iv rc, iv 1, rv w] [(.int (lcmpW (0 : Int64) (0 : Int64))), (.ref a)])) _
    refine XS.ifYes X7.here hx rfl (pc0 := 24) (pc' := 31) rfl (hb hby own_d1_24) rfl ((if0 _ _).trans (flt (fun q => (show ¬ ((0 : Int64) < (0 : Int64)) from by decide) ((lw_gt _ _).mp q))).2.2.2) (by decide) (by decide) ?_
    show Steps p.tables e below (T7.setTop (mkF m 31 #[rv a, .val (.long 0), .second, iv rc, iv 1, rv w] [(.ref a)])) _
    refine XS.iconst X7.here hx rfl (hb hby own_d1_31) ?_
    show Steps p.tables e below (T7.setTop (mkF m 32 #[rv a, .val (.long 0), .second, iv rc, iv 1, rv w] [(.int 0), (.ref a)])) _
    refine st12 _ ?_
    show Steps p.tables e below (T12.setTop (mkF m 35 #[rv a, .val (.long 0), .second, iv rc, iv 1, rv w] [])) _
    refine XS.aloadN X12.here hx rfl (hb hby own_d1_35) rfl rfl ?_
    show Steps p.tables e below (T12.setTop (mkF m 36 #[rv a, .val (.long 0), .second, iv rc, iv 1, rv w] [(.ref a)])) _
    refine XS.iload X12.here hx rfl (hb hby own_d1_36) rfl ?_
    show Steps p.tables e below (T12.setTop (mkF m 38 #[rv a, .val (.long 0), .second, iv rc, iv 1, rv w] [(.int 1), (.ref a)])) _
    refine XS.ifNo X12.here hx rfl (hb hby own_d1_38) rfl ((if0 _ _).trans (feq (by decide)).1) ?_
    show Steps p.tables e below (T12.setTop (mkF m 41 #[rv a, .val (.long 0), .second, iv rc, iv 1, rv w] [(.ref a)])) _
    refine XS.lconst X12.here hx rfl (hb hby own_d1_41) ?_
    show Steps p.tables e below (T12.setTop (mkF m 42 #[rv a, .val (.long 0), .second, iv rc, iv 1, rv w] [(.long 1), (.ref a)])) _
    refine XS.goto X12.here hx rfl (pc0 := 42) (pc' := 49) rfl (hb hby own_d1_42) (by decide) (by decide) ?_
    show Steps p.tables e below (T12.setTop (mkF m 49 #[rv a, .val (.long 0), .second, iv rc, iv 1, rv w] [(.long 1), (.ref a)])) _
    refine st17 _ ?_
    show Steps p.tables e below (T17.setTop (mkF m 52 #[rv a, .val (.long 0), .second, iv rc, iv 1, rv w] [])) _
    refine XS.aloadN X17.here hx rfl (hb hby own_d1_52) rfl rfl ?_
    show Steps p.tables e below (T17.setTop (mkF m 53 #[rv a, .val (.long 0), .second, iv rc, iv 1, rv w] [(.ref a)])) _
    refine XS.aloadN X17.here hx rfl (hb hby own_d1_53) rfl rfl ?_
    show Steps p.tables e below (T17.setTop (mkF m 54 #[rv a, .val (.long 0), .second, iv rc, iv 1, rv w] [(.ref a), (.ref a)])) _
    refine st20 _ ?_
    show Steps p.tables e below (T20.setTop (mkF m 57 #[rv a, .val (.long 0), .second, iv rc, iv 1, rv w] [(.long 1), (.ref a)])) _
    refine X20.ldc2Long hx hown (mvT hZ (hw _ (own_m 22 rfl))) (g := (mkF m 57 #[rv a, .val (.long 0), .second, iv rc, iv 1, rv w] [(.long 1), (.ref a)])) rfl (hb hby own_d1_57) _ ?_
    show Steps p.tables e below (T20.setTop (mkF m 60 #[rv a, .val (.long 0), .second, iv rc, iv 1, rv w] [(.long 9223372036854775807), (.long 1), (.ref a)])) _
    refine XS.lloadN X20.here hx rfl (hb hby own_d1_60) rfl ?_
    show Steps p.tables e below (T20.setTop (mkF m 61 #[rv a, .val (.long 0), .second, iv rc, iv 1, rv w] [(.long 0), (.long 9223372036854775807), (.long 1), (.ref a)])) _
    refine XS.lconst X20.here hx rfl (hb hby own_d1_61) ?_
    show Steps p.tables e below (T20.setTop (mkF m 62 #[rv a, .val (.long 0), .second, iv rc, iv 1, rv w] [(.long 1), (.long 0), (.long 9223372036854775807), (.long 1), (.ref a)])) _
    refine st21 _ ?_
    show Steps p.tables e below (T21.setTop (mkF m 65 #[rv a, .val (.long 0), .second, iv rc, iv 1, rv w] [(.long 1), (.long 9223372036854775807), (.long 1), (.ref a)])) _
    refine XS.ldiv X21.here hx rfl (hb hby own_d1_65) rfl (by decide) ?_
    show Steps p.tables e below (T21.setTop (mkF m 66 #[rv a, .val (.long 0), .second, iv rc, iv 1, rv w] [(.long ((9223372036854775807 : Int64) / (1 : Int64))), (.long 1), (.ref a)])) _
    refine own_top (v' := (.long 9223372036854775807)) (congrArg Value.long (by decide)) ?_
    show Steps p.tables e below (T21.setTop (mkF m 66 #[rv a, .val (.long 0), .second, iv rc, iv 1, rv w] [(.long 9223372036854775807), (.long 1), (.ref a)])) _
    refine XS.lcmp X21.here hx rfl (hb hby own_d1_66) rfl ?_
    show Steps p.tables e below (T21.setTop (mkF m 67 #[rv a, .val (.long 0), .second, iv rc, iv 1, rv w] [(.int (lcmpW (1 : Int64) (9223372036854775807 : Int64))), (.ref a)])) _
    refine XS.ifYes X21.here hx rfl (pc0 := 67) (pc' := 76) rfl (hb hby own_d1_67) rfl ((if0 _ _).trans (flt (fun q => (show ¬ ((9223372036854775807 : Int64) < (1 : Int64)) from by decide) ((lw_gt _ _).mp q))).2.2.2) (by decide) (by decide) ?_
    show Steps p.tables e below (T21.setTop (mkF m 76 #[rv a, .val (.long 0), .second, iv rc, iv 1, rv w] [(.ref a)])) _
    refine XS.aloadN X21.here hx rfl (hb hby own_d1_76) rfl rfl ?_
    show Steps p.tables e below (T21.setTop (mkF m 77 #[rv a, .val (.long 0), .second, iv rc, iv 1, rv w] [(.ref a), (.ref a)])) _
    refine st22 _ ?_
    show Steps p.tables e below (T22.setTop (mkF m 80 #[rv a, .val (.long 0), .second, iv rc, iv 1, rv w] [(.long 1), (.ref a)])) _
    refine XS.lloadN X22.here hx rfl (hb hby own_d1_80) rfl ?_
    show Steps p.tables e below (T22.setTop (mkF m 81 #[rv a, .val (.long 0), .second, iv rc, iv 1, rv w] [(.long 0), (.long 1), (.ref a)])) _
    refine XS.lmul X22.here hx rfl (hb hby own_d1_81) rfl ?_
    show Steps p.tables e below (T22.setTop (mkF m 82 #[rv a, .val (.long 0), .second, iv rc, iv 1, rv w] [(.long ((1 : Int64) * (0 : Int64))), (.ref a)])) _
    refine own_top (v' := (.long 0)) (congrArg Value.long (by decide)) ?_
    show Steps p.tables e below (T22.setTop (mkF m 82 #[rv a, .val (.long 0), .second, iv rc, iv 1, rv w] [(.long 0), (.ref a)])) _
    refine st25 _ ?_
    show Steps p.tables e below (T25.setTop (mkF m 85 #[rv a, .val (.long 0), .second, iv rc, iv 1, rv w] [])) _
    exact X25.returnOut hx Bd.returns (hb hby own_d1_85) hr
  · show own_mk10_Q Z w_A w_B a it rc w h0 n0 _ T25.heap _
    rw [e25]
    exact ⟨rfl, N25, kp27, _, rfl, f28, f29, Fw25⟩
theorem own_mk11_ef (m : MethodId) (a : Addr) (it : Int64) (rc : Int32) (w : Addr) : entryFrame m #[(.ref a), (.long it), (.int rc), (.int 1), (.ref w)] 6 = mkF m 0 #[rv a, .val (.long it), .second, iv rc, iv 1, rv w] [] := by first | (simp [entryFrame, mkF, argsToLocals, Value.category]; done) | rfl
def own_mk11_Q (Z : State) (w_A : Addr) (w_B : Addr) (a : Addr) (it : Int64) (rc : Int32) (w : Addr) (h0 : Heap) (n0 : Nat) (v : Option Value) (h : Heap) (L : List Loc) : Prop := v = none ∧ Fr n0 L ∧ Keep h0 h [a] ∧ ∃ t : Int64, t = own_tot (1 : Int64) it ∧ Exa Z h a "com/example/vsyncopate/vsyncopate/animation/Timeline" ∧ Fld Z h a "com/example/vsyncopate/vsyncopate/animation/Timeline" "endless" "Z" (.int 1) ∧ Fld Z h a "com/example/vsyncopate/vsyncopate/animation/Timeline" "totalNanos" "J" (.long t)
set_option maxRecDepth 65536 in
set_option maxHeartbeats 40000000 in
theorem own_mk11 (l : Launch) (Z : State) (a0 : Array Value) (hw : ∀ d ∈ tables_1, d.before a0 Z = true) (ws : List Jvm.Cond) (w_A : Addr) (w_B : Addr) (a : Addr) (it : Int64) (rc : Int32) (w : Addr) (h0 : Heap) (n0 : Nat) (O0 : Old Z n0 h0) (S_A : Sta Z Z.heap "com/example/vsyncopate/vsyncopate/animation/RepeatMode" "RESTART" "Lcom/example/vsyncopate/vsyncopate/animation/RepeatMode;" (.ref w_A)) (S_B : Sta Z Z.heap "com/example/vsyncopate/vsyncopate/animation/RepeatMode" "REVERSE" "Lcom/example/vsyncopate/vsyncopate/animation/RepeatMode;" (.ref w_B)) (g_a : n0 ≤ a) (E_a : Exa Z h0 a "com/example/vsyncopate/vsyncopate/animation/Timeline") (F_iterationNanos : Fld Z h0 a "com/example/vsyncopate/vsyncopate/animation/Timeline" "iterationNanos" "J" (.long 0)) (F_mode : Fld Z h0 a "com/example/vsyncopate/vsyncopate/animation/Timeline" "mode" "Lcom/example/vsyncopate/vsyncopate/animation/RepeatMode;" .null) (F_endless : Fld Z h0 a "com/example/vsyncopate/vsyncopate/animation/Timeline" "endless" "Z" (.int 0)) (F_iterations : Fld Z h0 a "com/example/vsyncopate/vsyncopate/animation/Timeline" "iterations" "J" (.long 0)) (F_totalNanos : Fld Z h0 a "com/example/vsyncopate/vsyncopate/animation/Timeline" "totalNanos" "J" (.long 0)) (hp1 : ¬ it < (1 : Int64)) :
    MetFree l (⟨"com/example/vsyncopate/vsyncopate/animation/Timeline", "<init>", "(JIZLcom/example/vsyncopate/vsyncopate/animation/RepeatMode;)V"⟩ : MethodName) (head1 (Jvm.Cond.code (⟨"com/example/vsyncopate/vsyncopate/animation/Timeline", "<init>", "(JIZLcom/example/vsyncopate/vsyncopate/animation/RepeatMode;)V"⟩ : MethodName) prog_9_method_1_code 6 none :: ws) ({ frames := 1, cells := 0, slots := 0, locals := 20 } : Room)) (fun ar U => ar = #[(.ref a), (.long it), (.int rc), (.int 1), (.ref w)] ∧ Z.Warmed39 U.vm ∧ U.heap = h0) (fun _ _ _ _ _ => True) (fun _ U oc U' => ∃ v L, oc = .returned v ∧ own_mk11_Q Z w_A w_B a it rc w h0 n0 v U'.heap L ∧ FrameEnd U oc U' L ({ frames := 1, cells := 0, slots := 0, locals := 20 } : Room).cells ({ frames := 1, cells := 0, slots := 0, locals := 20 } : Room).slots) := by
  refine MetFree.of_bodySF (plainFor_of_name own_pn0) hisR ?_
  intro p e s m args below meth c s₁ Bd hml0 hP hK
  obtain ⟨rfl, hZ, hh⟩ := hP
  have hx := Bd.exec
  have hby := Bd.bytes
  have hml : c.maxLocals = 6 := hml0
  have hown : s.vm.findClass "com/example/vsyncopate/vsyncopate/animation/Timeline" = some m.cls := findClass_of_methodNamed Bd.named
  have hnm := (name_of_methodNamed Bd.named Bd.method).1
  have X0 : Stand p l e ({ frames := 1, cells := 0, slots := 0, locals := 20 } : Room) s m #[(.ref a), (.long it), (.int rc), (.int 1), (.ref w)] below meth c s₁ [] 0 0 := Stand.of_body Bd
  have e0 : s₁.heap = h0 := by rw [← hh, Bd.state]; rfl
  have N0 := Fr.nil n0
  have pre0 : ∀ t, Steps p.tables e below (s₁.setTop (mkF m 0 #[rv a, .val (.long it), .second, iv rc, iv 1, rv w] [])) t → Steps p.tables e below (s₁.setTop (entryFrame m #[(.ref a), (.long it), (.int rc), (.int 1), (.ref w)] 6)) t := fun t k => castTop (own_mk11_ef m a it rc w) k
  have kp0 := Keep.refl h0 ([a] : List Addr)
  obtain ⟨T1, X1, e1, st1⟩ := initO X0 hx hZ hown (hw _ (own_m 11 rfl)) (hw _ (own_m 12 rfl)) (hw _ (own_m 13 rfl)) e0 (g := (mkF m 1 #[rv a, .val (.long it), .second, iv rc, iv 1, rv w] [(.ref a)])) rfl (by rw [hml]; rfl) rfl (hb hby own_d1_1) (by decide) (W := 0) (by show 2 * 0 + _ ≤ _; exact Nat.le_of_eq rfl) (by decide)
  obtain ⟨T2, h2, X2, e2, W2, st2⟩ := putF X1 hx hZ hown (host := "") (Or.inl (hw _ (own_m 14 rfl))) Via.refl e1 F_iterationNanos E_a (Or.inr ⟨(hw _ (own_m 15 rfl)), rfl, hnm⟩) (hw _ (own_m 6 rfl)) (ty := .long) (by decide) rfl rfl (g := (mkF m 6 #[rv a, .val (.long it), .second, iv rc, iv 1, rv w] [(.long it), (.ref a)])) rfl rfl (hb hby own_d1_6)
  have Fw2 := F_iterationNanos.same W2
  have O3 := O0.wr W2 g_a
  have kp4 := kp0.wr W2 (Or.inl (own_m 0 rfl))
  have N2 := Fr.snoc X2 N0 g_a
  have f5 := (F_mode.other W2 (Or.inr (slot_ne (Or.inr (hw _ (own_m 17 rfl))) (Or.inr (hw _ (own_m 15 rfl))) (by decide) (t := (.object "com/example/vsyncopate/vsyncopate/animation/RepeatMode")) (t' := .long) (by decide) (by decide))))
  have f6 := (E_a.wr W2)
  obtain ⟨T7, h7, X7, e7, W7, st7⟩ := putF X2 hx hZ hown (host := "") (Or.inl (hw _ (own_m 16 rfl))) Via.refl e2 f5 f6 (Or.inr ⟨(hw _ (own_m 17 rfl)), rfl, hnm⟩) (hw _ (own_m 6 rfl)) (ty := (.object "com/example/vsyncopate/vsyncopate/animation/RepeatMode")) (by decide) rfl rfl (g := (mkF m 12 #[rv a, .val (.long it), .second, iv rc, iv 1, rv w] [(.ref w), (.ref a)])) rfl rfl (hb hby own_d1_12)
  have Fw7 := f5.same W7
  have O8 := O3.wr W7 g_a
  have kp9 := kp4.wr W7 (Or.inl (own_m 0 rfl))
  have N7 := Fr.snoc X7 N2 g_a
  have f10 := ((F_endless.other W2 (Or.inr (slot_ne (Or.inr (hw _ (own_m 19 rfl))) (Or.inr (hw _ (own_m 15 rfl))) (by decide) (t := .boolean) (t' := .long) (by decide) (by decide)))).other W7 (Or.inr (slot_ne (Or.inr (hw _ (own_m 19 rfl))) (Or.inr (hw _ (own_m 17 rfl))) (by decide) (t := .boolean) (t' := (.object "com/example/vsyncopate/vsyncopate/animation/RepeatMode")) (by decide) (by decide))))
  have f11 := (f6.wr W7)
  obtain ⟨T12, h12, X12, e12, W12, st12⟩ := putF X7 hx hZ hown (host := "") (Or.inl (hw _ (own_m 18 rfl))) Via.refl e7 f10 f11 (Or.inr ⟨(hw _ (own_m 19 rfl)), rfl, hnm⟩) (hw _ (own_m 6 rfl)) (ty := .boolean) (by decide) (by first | rfl | decide) (by first | rfl | decide) (g := (mkF m 32 #[rv a, .val (.long it), .second, iv rc, iv 1, rv w] [(.int 1), (.ref a)])) rfl rfl (hb hby own_d1_32)
  have Fw12 := f10.same W12
  have O13 := O8.wr W12 g_a
  have kp14 := kp9.wr W12 (Or.inl (own_m 0 rfl))
  have N12 := Fr.snoc X12 N7 g_a
  have f15 := (((F_iterations.other W2 (Or.inr (slot_ne (Or.inr (hw _ (own_m 21 rfl))) (Or.inr (hw _ (own_m 15 rfl))) (by decide) (t := .long) (t' := .long) (by decide) (by decide)))).other W7 (Or.inr (slot_ne (Or.inr (hw _ (own_m 21 rfl))) (Or.inr (hw _ (own_m 17 rfl))) (by decide) (t := .long) (t' := (.object "com/example/vsyncopate/vsyncopate/animation/RepeatMode")) (by decide) (by decide)))).other W12 (Or.inr (slot_ne (Or.inr (hw _ (own_m 21 rfl))) (Or.inr (hw _ (own_m 19 rfl))) (by decide) (t := .long) (t' := .boolean) (by decide) (by decide))))
  have f16 := (f11.wr W12)
  obtain ⟨T17, h17, X17, e17, W17, st17⟩ := putF X12 hx hZ hown (host := "") (Or.inl (hw _ (own_m 20 rfl))) Via.refl e12 f15 f16 (Or.inr ⟨(hw _ (own_m 21 rfl)), rfl, hnm⟩) (hw _ (own_m 6 rfl)) (ty := .long) (by decide) rfl rfl (g := (mkF m 49 #[rv a, .val (.long it), .second, iv rc, iv 1, rv w] [(.long 1), (.ref a)])) rfl rfl (hb hby own_d1_49)
  have Fw17 := f15.same W17
  have O18 := O13.wr W17 g_a
  have kp19 := kp14.wr W17 (Or.inl (own_m 0 rfl))
  have N17 := Fr.snoc X17 N12 g_a
  obtain ⟨T20, X20, e20, st20⟩ := getF X17 hx hZ hown (host := "") (Or.inl (hw _ (own_m 20 rfl))) Via.refl e17 Fw17 (g := (mkF m 54 #[rv a, .val (.long it), .second, iv rc, iv 1, rv w] [(.ref a), (.ref a)])) rfl rfl (hb hby own_d1_54)
  obtain ⟨_, _, ⟨T21, L21, k21, n21⟩, -, X21, ⟨Lc21, hQ21, l21, y21, z21⟩, st21⟩ := Jvm.LawKit.callS X20 hx (y := (⟨"java/lang/Math", "max", "(JJ)J"⟩ : MethodName)) hown (mvT hZ (hw _ (own_m 23 rfl))) (mvT hZ (hw _ (own_m 24 rfl))) (mvT hZ (hw _ (own_m 25 rfl))) (mvT hZ (hw _ (own_m 26 rfl))) (by decide) (backOf (W := 5) (own_max1 l Z a0 hw [] w_A w_B it h17 n0 O18 S_A S_B hp1) hZ (hw _ (own_m 26 rfl)) (hw _ (own_m 25 rfl)) (by decide) (by decide)) (g := (mkF m 62 #[rv a, .val (.long it), .second, iv rc, iv 1, rv w] [(.long 1), (.long it), (.long 9223372036854775807), (.long 1), (.ref a)])) rfl (by rw [hml]; rfl) (argsL := [(.long it), (.long 1)]) (rest := [(.long 9223372036854775807), (.long 1), (.ref a)]) (lenOf own_pd0 rfl) rfl (by show 2 * 0 + _ ≤ _; exact Nat.le_of_eq rfl) (hb hby own_d1_62) (fun _ _ => ⟨rfl, e20, (by decide : 0 + 0 ≤ _), (by decide : 0 + 0 ≤ _)⟩)
  dsimp only [Pt.U, Pt.locs, Pt.cells, Pt.slots] at X21 l21 y21 z21 st21 hQ21
  subst l21 y21 z21
  obtain ⟨rfl, N21q, e21⟩ := hQ21
  have N21 := Fr.app N17 N21q
  have pre23 : ∀ t, Steps p.tables e below (T21.setTop (mkF m 66 #[rv a, .val (.long it), .second, iv rc, iv 1, rv w] [(.long ((9223372036854775807 : Int64) / it)), (.long 1), (.ref a)])) t → Steps p.tables e below (s₁.setTop (entryFrame m #[(.ref a), (.long it), (.int rc), (.int 1), (.ref w)] 6)) t := fun t kt => by
    refine pre0 _ ?_
    show Steps p.tables e below (s₁.setTop (mkF m 0 #[rv a, .val (.long it), .second, iv rc, iv 1, rv w] [])) _
    refine XS.aloadN X0.here hx rfl (hb hby own_d1_0) rfl rfl ?_
    show Steps p.tables e below (s₁.setTop (mkF m 1 #[rv a, .val (.long it), .second, iv rc, iv 1, rv w] [(.ref a)])) _
    refine st1 _ ?_
    show Steps p.tables e below (T1.setTop (mkF m 4 #[rv a, .val (.long it), .second, iv rc, iv 1, rv w] [])) _
    refine XS.aloadN X1.here hx rfl (hb hby own_d1_4) rfl rfl ?_
    show Steps p.tables e below (T1.setTop (mkF m 5 #[rv a, .val (.long it), .second, iv rc, iv 1, rv w] [(.ref a)])) _
    refine XS.lloadN X1.here hx rfl (hb hby own_d1_5) rfl ?_
    show Steps p.tables e below (T1.setTop (mkF m 6 #[rv a, .val (.long it), .second, iv rc, iv 1, rv w] [(.long it), (.ref a)])) _
    refine st2 _ ?_
    show Steps p.tables e below (T2.setTop (mkF m 9 #[rv a, .val (.long it), .second, iv rc, iv 1, rv w] [])) _
    refine XS.aloadN X2.here hx rfl (hb hby own_d1_9) rfl rfl ?_
    show Steps p.tables e below (T2.setTop (mkF m 10 #[rv a, .val (.long it), .second, iv rc, iv 1, rv w] [(.ref a)])) _
    refine XS.aload X2.here hx rfl (hb hby own_d1_10) rfl rfl ?_
    show Steps p.tables e below (T2.setTop (mkF m 12 #[rv a, .val (.long it), .second, iv rc, iv 1, rv w] [(.ref w), (.ref a)])) _
    refine st7 _ ?_
    show Steps p.tables e below (T7.setTop (mkF m 15 #[rv a, .val (.long it), .second, iv rc, iv 1, rv w] [])) _
    refine XS.aloadN X7.here hx rfl (hb hby own_d1_15) rfl rfl ?_
    show Steps p.tables e below (T7.setTop (mkF m 16 #[rv a, .val (.long it), .second, iv rc, iv 1, rv w] [(.ref a)])) _
    refine XS.iload X7.here hx rfl (hb hby own_d1_16) rfl ?_
    show Steps p.tables e below (T7.setTop (mkF m 18 #[rv a, .val (.long it), .second, iv rc, iv 1, rv w] [(.int 1), (.ref a)])) _
    refine XS.ifNo X7.here hx rfl (hb hby own_d1_18) rfl ((if0 _ _).trans (feq (by decide)).1) ?_
    show Steps p.tables e below (T7.setTop (mkF m 21 #[rv a, .val (.long it), .second, iv rc, iv 1, rv w] [(.ref a)])) _
    refine XS.lloadN X7.here hx rfl (hb hby own_d1_21) rfl ?_
    show Steps p.tables e below (T7.setTop (mkF m 22 #[rv a, .val (.long it), .second, iv rc, iv 1, rv w] [(.long it), (.ref a)])) _
    refine XS.lconst X7.here hx rfl (hb hby own_d1_22) ?_
    show Steps p.tables e below (T7.setTop (mkF m 23 #[rv a, .val (.long it), .second, iv rc, iv 1, rv w] [(.long 0), (.long it), (.ref a)])) _
    refine XS.lcmp X7.here hx rfl (hb hby own_d1_23) rfl ?_
    show Steps p.tables e below (T7.setTop (mkF m 24 #[rv a, .val (.long it), .second, iv rc, iv 1, rv w] [(.int (lcmpW it (0 : Int64))), (.ref a)])) _
    refine XS.ifNo X7.here hx rfl (hb hby own_d1_24) rfl ((if0 _ _).trans (tlt ((lw_gt _ _).mpr (own_p1 hp1))).2.2.2) ?_
    show Steps p.tables e below (T7.setTop (mkF m 27 #[rv a, .val (.long it), .second, iv rc, iv 1, rv w] [(.ref a)])) _
    refine XS.iconst X7.here hx rfl (hb hby own_d1_27) ?_
    show Steps p.tables e below (T7.setTop (mkF m 28 #[rv a, .val (.long it), .second, iv rc, iv 1, rv w] [(.int 1), (.ref a)])) _
    refine XS.goto X7.here hx rfl (pc0 := 28) (pc' := 32) rfl (hb hby own_d1_28) (by decide) (by decide) ?_
    show Steps p.tables e below (T7.setTop (mkF m 32 #[rv a, .val (.long it), .second, iv rc, iv 1, rv w] [(.int 1), (.ref a)])) _
    refine st12 _ ?_
    show Steps p.tables e below (T12.setTop (mkF m 35 #[rv a, .val (.long it), .second, iv rc, iv 1, rv w] [])) _
    refine XS.aloadN X12.here hx rfl (hb hby own_d1_35) rfl rfl ?_
    show Steps p.tables e below (T12.setTop (mkF m 36 #[rv a, .val (.long it), .second, iv rc, iv 1, rv w] [(.ref a)])) _
    refine XS.iload X12.here hx rfl (hb hby own_d1_36) rfl ?_
    show Steps p.tables e below (T12.setTop (mkF m 38 #[rv a, .val (.long it), .second, iv rc, iv 1, rv w] [(.int 1), (.ref a)])) _
    refine XS.ifNo X12.here hx rfl (hb hby own_d1_38) rfl ((if0 _ _).trans (feq (by decide)).1) ?_
    show Steps p.tables e below (T12.setTop (mkF m 41 #[rv a, .val (.long it), .second, iv rc, iv 1, rv w] [(.ref a)])) _
    refine XS.lconst X12.here hx rfl (hb hby own_d1_41) ?_
    show Steps p.tables e below (T12.setTop (mkF m 42 #[rv a, .val (.long it), .second, iv rc, iv 1, rv w] [(.long 1), (.ref a)])) _
    refine XS.goto X12.here hx rfl (pc0 := 42) (pc' := 49) rfl (hb hby own_d1_42) (by decide) (by decide) ?_
    show Steps p.tables e below (T12.setTop (mkF m 49 #[rv a, .val (.long it), .second, iv rc, iv 1, rv w] [(.long 1), (.ref a)])) _
    refine st17 _ ?_
    show Steps p.tables e below (T17.setTop (mkF m 52 #[rv a, .val (.long it), .second, iv rc, iv 1, rv w] [])) _
    refine XS.aloadN X17.here hx rfl (hb hby own_d1_52) rfl rfl ?_
    show Steps p.tables e below (T17.setTop (mkF m 53 #[rv a, .val (.long it), .second, iv rc, iv 1, rv w] [(.ref a)])) _
    refine XS.aloadN X17.here hx rfl (hb hby own_d1_53) rfl rfl ?_
    show Steps p.tables e below (T17.setTop (mkF m 54 #[rv a, .val (.long it), .second, iv rc, iv 1, rv w] [(.ref a), (.ref a)])) _
    refine st20 _ ?_
    show Steps p.tables e below (T20.setTop (mkF m 57 #[rv a, .val (.long it), .second, iv rc, iv 1, rv w] [(.long 1), (.ref a)])) _
    refine X20.ldc2Long hx hown (mvT hZ (hw _ (own_m 22 rfl))) (g := (mkF m 57 #[rv a, .val (.long it), .second, iv rc, iv 1, rv w] [(.long 1), (.ref a)])) rfl (hb hby own_d1_57) _ ?_
    show Steps p.tables e below (T20.setTop (mkF m 60 #[rv a, .val (.long it), .second, iv rc, iv 1, rv w] [(.long 9223372036854775807), (.long 1), (.ref a)])) _
    refine XS.lloadN X20.here hx rfl (hb hby own_d1_60) rfl ?_
    show Steps p.tables e below (T20.setTop (mkF m 61 #[rv a, .val (.long it), .second, iv rc, iv 1, rv w] [(.long it), (.long 9223372036854775807), (.long 1), (.ref a)])) _
    refine XS.lconst X20.here hx rfl (hb hby own_d1_61) ?_
    show Steps p.tables e below (T20.setTop (mkF m 62 #[rv a, .val (.long it), .second, iv rc, iv 1, rv w] [(.long 1), (.long it), (.long 9223372036854775807), (.long 1), (.ref a)])) _
    refine st21 _ ?_
    show Steps p.tables e below (T21.setTop (mkF m 65 #[rv a, .val (.long it), .second, iv rc, iv 1, rv w] [(.long it), (.long 9223372036854775807), (.long 1), (.ref a)])) _
    refine XS.ldiv X21.here hx rfl (hb hby own_d1_65) rfl (own_p2 hp1) ?_
    show Steps p.tables e below (T21.setTop (mkF m 66 #[rv a, .val (.long it), .second, iv rc, iv 1, rv w] [(.long ((9223372036854775807 : Int64) / it)), (.long 1), (.ref a)])) _
    exact kt
  by_cases hc22 : ((9223372036854775807 : Int64) / it) < (1 : Int64)
  · have f24 := ((((F_totalNanos.other W2 (Or.inr (slot_ne (Or.inr (hw _ (own_m 28 rfl))) (Or.inr (hw _ (own_m 15 rfl))) (by decide) (t := .long) (t' := .long) (by decide) (by decide)))).other W7 (Or.inr (slot_ne (Or.inr (hw _ (own_m 28 rfl))) (Or.inr (hw _ (own_m 17 rfl))) (by decide) (t := .long) (t' := (.object "com/example/vsyncopate/vsyncopate/animation/RepeatMode")) (by decide) (by decide)))).other W12 (Or.inr (slot_ne (Or.inr (hw _ (own_m 28 rfl))) (Or.inr (hw _ (own_m 19 rfl))) (by decide) (t := .long) (t' := .boolean) (by decide) (by decide)))).other W17 (Or.inr (slot_ne (Or.inr (hw _ (own_m 28 rfl))) (Or.inr (hw _ (own_m 21 rfl))) (by decide) (t := .long) (t' := .long) (by decide) (by decide))))
    have f25 := (f16.wr W17)
    obtain ⟨T26, h26, X26, e26, W26, st26⟩ := putF X21 hx hZ hown (host := "") (Or.inl (hw _ (own_m 27 rfl))) Via.refl e21 f24 f25 (Or.inr ⟨(hw _ (own_m 28 rfl)), rfl, hnm⟩) (hw _ (own_m 6 rfl)) (ty := .long) (by decide) rfl rfl (g := (mkF m 82 #[rv a, .val (.long it), .second, iv rc, iv 1, rv w] [(.long 9223372036854775807), (.ref a)])) rfl rfl (hb hby own_d1_82)
    have Fw26 := f24.same W26
    have O27 := O18.wr W26 g_a
    have kp28 := kp19.wr W26 (Or.inl (own_m 0 rfl))
    have N26 := Fr.snoc X26 N21 g_a
    have f29 := (f25.wr W26)
    have f30 := ((Fw12.other W17 (Or.inr (slot_ne (Or.inr (hw _ (own_m 19 rfl))) (Or.inr (hw _ (own_m 21 rfl))) (by decide) (t := .boolean) (t' := .long) (by decide) (by decide)))).other W26 (Or.inr (slot_ne (Or.inr (hw _ (own_m 19 rfl))) (Or.inr (hw _ (own_m 28 rfl))) (by decide) (t := .boolean) (t' := .long) (by decide) (by decide))))
    obtain ⟨fs, hr, hrun, hended, hW, hsame⟩ := X26.leave (v := none) (fun _ => rfl)
    refine ⟨_, _, pre23 _ ?_, hrun, hended, _, _, rfl, ?_, ⟨_, rfl⟩, hW, hsame.mono (by decide) (by decide)⟩
    · show Steps p.tables e below (T21.setTop (mkF m 66 #[rv a, .val (.long it), .second, iv rc, iv 1, rv w] [(.long ((9223372036854775807 : Int64) / it)), (.long 1), (.ref a)])) _
      refine XS.lcmp X21.here hx rfl (hb hby own_d1_66) rfl ?_
      show Steps p.tables e below (T21.setTop (mkF m 67 #[rv a, .val (.long it), .second, iv rc, iv 1, rv w] [(.int (lcmpW (1 : Int64) ((9223372036854775807 : Int64) / it))), (.ref a)])) _
      refine XS.ifNo X21.here hx rfl (hb hby own_d1_67) rfl ((if0 _ _).trans (tlt ((lw_gt _ _).mpr hc22)).2.2.2) ?_
      show Steps p.tables e below (T21.setTop (mkF m 70 #[rv a, .val (.long it), .second, iv rc, iv 1, rv w] [(.ref a)])) _
      refine X21.ldc2Long hx hown (mvT hZ (hw _ (own_m 22 rfl))) (g := (mkF m 70 #[rv a, .val (.long it), .second, iv rc, iv 1, rv w] [(.ref a)])) rfl (hb hby own_d1_70) _ ?_
      show Steps p.tables e below (T21.setTop (mkF m 73 #[rv a, .val (.long it), .second, iv rc, iv 1, rv w] [(.long 9223372036854775807), (.ref a)])) _
      refine XS.goto X21.here hx rfl (pc0 := 73) (pc' := 82) rfl (hb hby own_d1_73) (by decide) (by decide) ?_
      show Steps p.tables e below (T21.setTop (mkF m 82 #[rv a, .val (.long it), .second, iv rc, iv 1, rv w] [(.long 9223372036854775807), (.ref a)])) _
      refine st26 _ ?_
      show Steps p.tables e below (T26.setTop (mkF m 85 #[rv a, .val (.long it), .second, iv rc, iv 1, rv w] [])) _
      exact X26.returnOut hx Bd.returns (hb hby own_d1_85) hr
    · show own_mk11_Q Z w_A w_B a it rc w h0 n0 _ T26.heap _
      rw [e26]
      exact ⟨rfl, N26, kp28, _, (if_pos hc22).symm, f29, f30, Fw26⟩
  · obtain ⟨T31, X31, e31, st31⟩ := getF X21 hx hZ hown (host := "") (Or.inl (hw _ (own_m 20 rfl))) Via.refl e21 Fw17 (g := (mkF m 77 #[rv a, .val (.long it), .second, iv rc, iv 1, rv w] [(.ref a), (.ref a)])) rfl rfl (hb hby own_d1_77)
    have f32 := ((((F_totalNanos.other W2 (Or.inr (slot_ne (Or.inr (hw _ (own_m 28 rfl))) (Or.inr (hw _ (own_m 15 rfl))) (by decide) (t := .long) (t' := .long) (by decide) (by decide)))).other W7 (Or.inr (slot_ne (Or.inr (hw _ (own_m 28 rfl))) (Or.inr (hw _ (own_m 17 rfl))) (by decide) (t := .long) (t' := (.object "com/example/vsyncopate/vsyncopate/animation/RepeatMode")) (by decide) (by decide)))).other W12 (Or.inr (slot_ne (Or.inr (hw _ (own_m 28 rfl))) (Or.inr (hw _ (own_m 19 rfl))) (by decide) (t := .long) (t' := .boolean) (by decide) (by decide)))).other W17 (Or.inr (slot_ne (Or.inr (hw _ (own_m 28 rfl))) (Or.inr (hw _ (own_m 21 rfl))) (by decide) (t := .long) (t' := .long) (by decide) (by decide))))
    have f33 := (f16.wr W17)
    obtain ⟨T34, h34, X34, e34, W34, st34⟩ := putF X31 hx hZ hown (host := "") (Or.inl (hw _ (own_m 27 rfl))) Via.refl e31 f32 f33 (Or.inr ⟨(hw _ (own_m 28 rfl)), rfl, hnm⟩) (hw _ (own_m 6 rfl)) (ty := .long) (by decide) rfl rfl (g := (mkF m 82 #[rv a, .val (.long it), .second, iv rc, iv 1, rv w] [(.long ((1 : Int64) * it)), (.ref a)])) rfl rfl (hb hby own_d1_82)
    have Fw34 := f32.same W34
    have O35 := O18.wr W34 g_a
    have kp36 := kp19.wr W34 (Or.inl (own_m 0 rfl))
    have N34 := Fr.snoc X34 N21 g_a
    have f37 := (f33.wr W34)
    have f38 := ((Fw12.other W17 (Or.inr (slot_ne (Or.inr (hw _ (own_m 19 rfl))) (Or.inr (hw _ (own_m 21 rfl))) (by decide) (t := .boolean) (t' := .long) (by decide) (by decide)))).other W34 (Or.inr (slot_ne (Or.inr (hw _ (own_m 19 rfl))) (Or.inr (hw _ (own_m 28 rfl))) (by decide) (t := .boolean) (t' := .long) (by decide) (by decide))))
    obtain ⟨fs, hr, hrun, hended, hW, hsame⟩ := X34.leave (v := none) (fun _ => rfl)
    refine ⟨_, _, pre23 _ ?_, hrun, hended, _, _, rfl, ?_, ⟨_, rfl⟩, hW, hsame.mono (by decide) (by decide)⟩
    · show Steps p.tables e below (T21.setTop (mkF m 66 #[rv a, .val (.long it), .second, iv rc, iv 1, rv w] [(.long ((9223372036854775807 : Int64) / it)), (.long 1), (.ref a)])) _
      refine XS.lcmp X21.here hx rfl (hb hby own_d1_66) rfl ?_
      show Steps p.tables e below (T21.setTop (mkF m 67 #[rv a, .val (.long it), .second, iv rc, iv 1, rv w] [(.int (lcmpW (1 : Int64) ((9223372036854775807 : Int64) / it))), (.ref a)])) _
      refine XS.ifYes X21.here hx rfl (pc0 := 67) (pc' := 76) rfl (hb hby own_d1_67) rfl ((if0 _ _).trans (flt (fun q => hc22 ((lw_gt _ _).mp q))).2.2.2) (by decide) (by decide) ?_
      show Steps p.tables e below (T21.setTop (mkF m 76 #[rv a, .val (.long it), .second, iv rc, iv 1, rv w] [(.ref a)])) _
      refine XS.aloadN X21.here hx rfl (hb hby own_d1_76) rfl rfl ?_
      show Steps p.tables e below (T21.setTop (mkF m 77 #[rv a, .val (.long it), .second, iv rc, iv 1, rv w] [(.ref a), (.ref a)])) _
      refine st31 _ ?_
      show Steps p.tables e below (T31.setTop (mkF m 80 #[rv a, .val (.long it), .second, iv rc, iv 1, rv w] [(.long 1), (.ref a)])) _
      refine XS.lloadN X31.here hx rfl (hb hby own_d1_80) rfl ?_
      show Steps p.tables e below (T31.setTop (mkF m 81 #[rv a, .val (.long it), .second, iv rc, iv 1, rv w] [(.long it), (.long 1), (.ref a)])) _
      refine XS.lmul X31.here hx rfl (hb hby own_d1_81) rfl ?_
      show Steps p.tables e below (T31.setTop (mkF m 82 #[rv a, .val (.long it), .second, iv rc, iv 1, rv w] [(.long ((1 : Int64) * it)), (.ref a)])) _
      refine st34 _ ?_
      show Steps p.tables e below (T34.setTop (mkF m 85 #[rv a, .val (.long it), .second, iv rc, iv 1, rv w] [])) _
      exact X34.returnOut hx Bd.returns (hb hby own_d1_85) hr
    · show own_mk11_Q Z w_A w_B a it rc w h0 n0 _ T34.heap _
      rw [e34]
      exact ⟨rfl, N34, kp36, _, (if_neg hc22).symm, f37, f38, Fw34⟩
theorem own_ovE0_ef (m : MethodId) (a : Addr) (pz : Int64) : entryFrame m #[(.ref a), (.long pz), (.int 0)] 4 = mkF m 0 #[rv a, .val (.long pz), .second, iv 0] [] := by first | (simp [entryFrame, mkF, argsToLocals, Value.category]; done) | rfl
def own_ovE0_Q (Z : State) (w_A : Addr) (w_B : Addr) (a : Addr) (pz : Int64) (tz : Int64) (h0 : Heap) (n0 : Nat) (v : Option Value) (h : Heap) (L : List Loc) : Prop := v = some (.int 0) ∧ Fr n0 L ∧ h = h0
set_option maxRecDepth 65536 in
set_option maxHeartbeats 40000000 in
theorem own_ovE0 (l : Launch) (Z : State) (a0 : Array Value) (hw : ∀ d ∈ tables_1, d.before a0 Z = true) (ws : List Jvm.Cond) (w_A : Addr) (w_B : Addr) (a : Addr) (pz : Int64) (tz : Int64) (h0 : Heap) (n0 : Nat) (O0 : Old Z n0 h0) (S_A : Sta Z Z.heap "com/example/vsyncopate/vsyncopate/animation/RepeatMode" "RESTART" "Lcom/example/vsyncopate/vsyncopate/animation/RepeatMode;" (.ref w_A)) (S_B : Sta Z Z.heap "com/example/vsyncopate/vsyncopate/animation/RepeatMode" "REVERSE" "Lcom/example/vsyncopate/vsyncopate/animation/RepeatMode;" (.ref w_B)) (F_e : Fld Z h0 a "com/example/vsyncopate/vsyncopate/animation/Timeline" "endless" "Z" (.int 1)) (F_t : Fld Z h0 a "com/example/vsyncopate/vsyncopate/animation/Timeline" "totalNanos" "J" (.long tz)) :
    MetFree l (⟨"com/example/vsyncopate/vsyncopate/animation/Timeline", "isOver", "(JZ)Z"⟩ : MethodName) (head1 (Jvm.Cond.code (⟨"com/example/vsyncopate/vsyncopate/animation/Timeline", "isOver", "(JZ)Z"⟩ : MethodName) prog_9_method_5_code 4 (some .boolean) :: ws) ({ frames := 0, cells := 0, slots := 0, locals := 0 } : Room)) (fun ar U => ar = #[(.ref a), (.long pz), (.int 0)] ∧ Z.Warmed39 U.vm ∧ U.heap = h0) (fun _ _ _ _ _ => True) (fun _ U oc U' => ∃ v L, oc = .returned v ∧ own_ovE0_Q Z w_A w_B a pz tz h0 n0 v U'.heap L ∧ FrameEnd U oc U' L ({ frames := 0, cells := 0, slots := 0, locals := 0 } : Room).cells ({ frames := 0, cells := 0, slots := 0, locals := 0 } : Room).slots) := by
  refine MetFree.of_bodySF (plainFor_of_name own_pn0) hisR ?_
  intro p e s m args below meth c s₁ Bd hml0 hP hK
  obtain ⟨rfl, hZ, hh⟩ := hP
  have hx := Bd.exec
  have hby := Bd.bytes
  have hml : c.maxLocals = 4 := hml0
  have hown : s.vm.findClass "com/example/vsyncopate/vsyncopate/animation/Timeline" = some m.cls := findClass_of_methodNamed Bd.named
  have hnm := (name_of_methodNamed Bd.named Bd.method).1
  have X0 : Stand p l e ({ frames := 0, cells := 0, slots := 0, locals := 0 } : Room) s m #[(.ref a), (.long pz), (.int 0)] below meth c s₁ [] 0 0 := Stand.of_body Bd
  have e0 : s₁.heap = h0 := by rw [← hh, Bd.state]; rfl
  have N0 := Fr.nil n0
  have pre0 : ∀ t, Steps p.tables e below (s₁.setTop (mkF m 0 #[rv a, .val (.long pz), .second, iv 0] [])) t → Steps p.tables e below (s₁.setTop (entryFrame m #[(.ref a), (.long pz), (.int 0)] 4)) t := fun t k => castTop (own_ovE0_ef m a pz) k
  obtain ⟨T1, X1, e1, st1⟩ := getF X0 hx hZ hown (host := "") (Or.inl (hw _ (own_m 18 rfl))) Via.refl e0 F_e (g := (mkF m 1 #[rv a, .val (.long pz), .second, iv 0] [(.ref a)])) rfl rfl (hb hby own_d4_1)
  obtain ⟨fs, hr, hrun, hended, hW, hsame⟩ := X1.leave (v := some (.int 0)) (fun h => by rw [Bd.returns] at h; cases h)
  refine ⟨_, _, pre0 _ ?_, hrun, hended, _, _, rfl, ?_, ⟨_, rfl⟩, hW, hsame.mono (by decide) (by decide)⟩
  · show Steps p.tables e below (s₁.setTop (mkF m 0 #[rv a, .val (.long pz), .second, iv 0] [])) _
    refine XS.aloadN X0.here hx rfl (hb hby own_d4_0) rfl rfl ?_
    show Steps p.tables e below (s₁.setTop (mkF m 1 #[rv a, .val (.long pz), .second, iv 0] [(.ref a)])) _
    refine st1 _ ?_
    show Steps p.tables e below (T1.setTop (mkF m 4 #[rv a, .val (.long pz), .second, iv 0] [(.int 1)])) _
    refine XS.ifYes X1.here hx rfl (pc0 := 4) (pc' := 33) rfl (hb hby own_d4_4) rfl ((if0 _ _).trans (feq (by decide)).2) (by decide) (by decide) ?_
    show Steps p.tables e below (T1.setTop (mkF m 33 #[rv a, .val (.long pz), .second, iv 0] [])) _
    refine XS.iconst X1.here hx rfl (hb hby own_d4_33) ?_
    show Steps p.tables e below (T1.setTop (mkF m 34 #[rv a, .val (.long pz), .second, iv 0] [(.int 0)])) _
    exact retN X1 hx (t := .boolean) Bd.returns (by simp) (hb hby own_d4_34) hr
  · show own_ovE0_Q Z w_A w_B a pz tz h0 n0 _ T1.heap _
    rw [e1]
    exact ⟨rfl, N0, rfl⟩
theorem own_ovE1_ef (m : MethodId) (a : Addr) (pz : Int64) : entryFrame m #[(.ref a), (.long pz), (.int 1)] 4 = mkF m 0 #[rv a, .val (.long pz), .second, iv 1] [] := by first | (simp [entryFrame, mkF, argsToLocals, Value.category]; done) | rfl
def own_ovE1_Q (Z : State) (w_A : Addr) (w_B : Addr) (a : Addr) (pz : Int64) (tz : Int64) (h0 : Heap) (n0 : Nat) (v : Option Value) (h : Heap) (L : List Loc) : Prop := v = some (.int 0) ∧ Fr n0 L ∧ h = h0
set_option maxRecDepth 65536 in
set_option maxHeartbeats 40000000 in
theorem own_ovE1 (l : Launch) (Z : State) (a0 : Array Value) (hw : ∀ d ∈ tables_1, d.before a0 Z = true) (ws : List Jvm.Cond) (w_A : Addr) (w_B : Addr) (a : Addr) (pz : Int64) (tz : Int64) (h0 : Heap) (n0 : Nat) (O0 : Old Z n0 h0) (S_A : Sta Z Z.heap "com/example/vsyncopate/vsyncopate/animation/RepeatMode" "RESTART" "Lcom/example/vsyncopate/vsyncopate/animation/RepeatMode;" (.ref w_A)) (S_B : Sta Z Z.heap "com/example/vsyncopate/vsyncopate/animation/RepeatMode" "REVERSE" "Lcom/example/vsyncopate/vsyncopate/animation/RepeatMode;" (.ref w_B)) (F_e : Fld Z h0 a "com/example/vsyncopate/vsyncopate/animation/Timeline" "endless" "Z" (.int 1)) (F_t : Fld Z h0 a "com/example/vsyncopate/vsyncopate/animation/Timeline" "totalNanos" "J" (.long tz)) :
    MetFree l (⟨"com/example/vsyncopate/vsyncopate/animation/Timeline", "isOver", "(JZ)Z"⟩ : MethodName) (head1 (Jvm.Cond.code (⟨"com/example/vsyncopate/vsyncopate/animation/Timeline", "isOver", "(JZ)Z"⟩ : MethodName) prog_9_method_5_code 4 (some .boolean) :: ws) ({ frames := 0, cells := 0, slots := 0, locals := 0 } : Room)) (fun ar U => ar = #[(.ref a), (.long pz), (.int 1)] ∧ Z.Warmed39 U.vm ∧ U.heap = h0) (fun _ _ _ _ _ => True) (fun _ U oc U' => ∃ v L, oc = .returned v ∧ own_ovE1_Q Z w_A w_B a pz tz h0 n0 v U'.heap L ∧ FrameEnd U oc U' L ({ frames := 0, cells := 0, slots := 0, locals := 0 } : Room).cells ({ frames := 0, cells := 0, slots := 0, locals := 0 } : Room).slots) := by
  refine MetFree.of_bodySF (plainFor_of_name own_pn0) hisR ?_
  intro p e s m args below meth c s₁ Bd hml0 hP hK
  obtain ⟨rfl, hZ, hh⟩ := hP
  have hx := Bd.exec
  have hby := Bd.bytes
  have hml : c.maxLocals = 4 := hml0
  have hown : s.vm.findClass "com/example/vsyncopate/vsyncopate/animation/Timeline" = some m.cls := findClass_of_methodNamed Bd.named
  have hnm := (name_of_methodNamed Bd.named Bd.method).1
  have X0 : Stand p l e ({ frames := 0, cells := 0, slots := 0, locals := 0 } : Room) s m #[(.ref a), (.long pz), (.int 1)] below meth c s₁ [] 0 0 := Stand.of_body Bd
  have e0 : s₁.heap = h0 := by rw [← hh, Bd.state]; rfl
  have N0 := Fr.nil n0
  have pre0 : ∀ t, Steps p.tables e below (s₁.setTop (mkF m 0 #[rv a, .val (.long pz), .second, iv 1] [])) t → Steps p.tables e below (s₁.setTop (entryFrame m #[(.ref a), (.long pz), (.int 1)] 4)) t := fun t k => castTop (own_ovE1_ef m a pz) k
  obtain ⟨T1, X1, e1, st1⟩ := getF X0 hx hZ hown (host := "") (Or.inl (hw _ (own_m 18 rfl))) Via.refl e0 F_e (g := (mkF m 1 #[rv a, .val (.long pz), .second, iv 1] [(.ref a)])) rfl rfl (hb hby own_d4_1)
  obtain ⟨fs, hr, hrun, hended, hW, hsame⟩ := X1.leave (v := some (.int 0)) (fun h => by rw [Bd.returns] at h; cases h)
  refine ⟨_, _, pre0 _ ?_, hrun, hended, _, _, rfl, ?_, ⟨_, rfl⟩, hW, hsame.mono (by decide) (by decide)⟩
  · show Steps p.tables e below (s₁.setTop (mkF m 0 #[rv a, .val (.long pz), .second, iv 1] [])) _
    refine XS.aloadN X0.here hx rfl (hb hby own_d4_0) rfl rfl ?_
    show Steps p.tables e below (s₁.setTop (mkF m 1 #[rv a, .val (.long pz), .second, iv 1] [(.ref a)])) _
    refine st1 _ ?_
    show Steps p.tables e below (T1.setTop (mkF m 4 #[rv a, .val (.long pz), .second, iv 1] [(.int 1)])) _
    refine XS.ifYes X1.here hx rfl (pc0 := 4) (pc' := 33) rfl (hb hby own_d4_4) rfl ((if0 _ _).trans (feq (by decide)).2) (by decide) (by decide) ?_
    show Steps p.tables e below (T1.setTop (mkF m 33 #[rv a, .val (.long pz), .second, iv 1] [])) _
    refine XS.iconst X1.here hx rfl (hb hby own_d4_33) ?_
    show Steps p.tables e below (T1.setTop (mkF m 34 #[rv a, .val (.long pz), .second, iv 1] [(.int 0)])) _
    exact retN X1 hx (t := .boolean) Bd.returns (by simp) (hb hby own_d4_34) hr
  · show own_ovE1_Q Z w_A w_B a pz tz h0 n0 _ T1.heap _
    rw [e1]
    exact ⟨rfl, N0, rfl⟩
theorem own_ovR0_ef (m : MethodId) (a : Addr) (pz : Int64) : entryFrame m #[(.ref a), (.long pz), (.int 1)] 4 = mkF m 0 #[rv a, .val (.long pz), .second, iv 1] [] := by first | (simp [entryFrame, mkF, argsToLocals, Value.category]; done) | rfl
def own_ovR0_Q (Z : State) (w_A : Addr) (w_B : Addr) (a : Addr) (pz : Int64) (tz : Int64) (h0 : Heap) (n0 : Nat) (v : Option Value) (h : Heap) (L : List Loc) : Prop := v = some (.int 0) ∧ Fr n0 L ∧ h = h0
set_option maxRecDepth 65536 in
set_option maxHeartbeats 40000000 in
theorem own_ovR0 (l : Launch) (Z : State) (a0 : Array Value) (hw : ∀ d ∈ tables_1, d.before a0 Z = true) (ws : List Jvm.Cond) (w_A : Addr) (w_B : Addr) (a : Addr) (pz : Int64) (tz : Int64) (h0 : Heap) (n0 : Nat) (O0 : Old Z n0 h0) (S_A : Sta Z Z.heap "com/example/vsyncopate/vsyncopate/animation/RepeatMode" "RESTART" "Lcom/example/vsyncopate/vsyncopate/animation/RepeatMode;" (.ref w_A)) (S_B : Sta Z Z.heap "com/example/vsyncopate/vsyncopate/animation/RepeatMode" "REVERSE" "Lcom/example/vsyncopate/vsyncopate/animation/RepeatMode;" (.ref w_B)) (F_e : Fld Z h0 a "com/example/vsyncopate/vsyncopate/animation/Timeline" "endless" "Z" (.int 0)) (F_t : Fld Z h0 a "com/example/vsyncopate/vsyncopate/animation/Timeline" "totalNanos" "J" (.long tz)) (hp1 : (0 : Int64) < pz) :
    MetFree l (⟨"com/example/vsyncopate/vsyncopate/animation/Timeline", "isOver", "(JZ)Z"⟩ : MethodName) (head1 (Jvm.Cond.code (⟨"com/example/vsyncopate/vsyncopate/animation/Timeline", "isOver", "(JZ)Z"⟩ : MethodName) prog_9_method_5_code 4 (some .boolean) :: ws) ({ frames := 0, cells := 0, slots := 0, locals := 0 } : Room)) (fun ar U => ar = #[(.ref a), (.long pz), (.int 1)] ∧ Z.Warmed39 U.vm ∧ U.heap = h0) (fun _ _ _ _ _ => True) (fun _ U oc U' => ∃ v L, oc = .returned v ∧ own_ovR0_Q Z w_A w_B a pz tz h0 n0 v U'.heap L ∧ FrameEnd U oc U' L ({ frames := 0, cells := 0, slots := 0, locals := 0 } : Room).cells ({ frames := 0, cells := 0, slots := 0, locals := 0 } : Room).slots) := by
  refine MetFree.of_bodySF (plainFor_of_name own_pn0) hisR ?_
  intro p e s m args below meth c s₁ Bd hml0 hP hK
  obtain ⟨rfl, hZ, hh⟩ := hP
  have hx := Bd.exec
  have hby := Bd.bytes
  have hml : c.maxLocals = 4 := hml0
  have hown : s.vm.findClass "com/example/vsyncopate/vsyncopate/animation/Timeline" = some m.cls := findClass_of_methodNamed Bd.named
  have hnm := (name_of_methodNamed Bd.named Bd.method).1
  have X0 : Stand p l e ({ frames := 0, cells := 0, slots := 0, locals := 0 } : Room) s m #[(.ref a), (.long pz), (.int 1)] below meth c s₁ [] 0 0 := Stand.of_body Bd
  have e0 : s₁.heap = h0 := by rw [← hh, Bd.state]; rfl
  have N0 := Fr.nil n0
  have pre0 : ∀ t, Steps p.tables e below (s₁.setTop (mkF m 0 #[rv a, .val (.long pz), .second, iv 1] [])) t → Steps p.tables e below (s₁.setTop (entryFrame m #[(.ref a), (.long pz), (.int 1)] 4)) t := fun t k => castTop (own_ovR0_ef m a pz) k
  obtain ⟨T1, X1, e1, st1⟩ := getF X0 hx hZ hown (host := "") (Or.inl (hw _ (own_m 18 rfl))) Via.refl e0 F_e (g := (mkF m 1 #[rv a, .val (.long pz), .second, iv 1] [(.ref a)])) rfl rfl (hb hby own_d4_1)
  obtain ⟨fs, hr, hrun, hended, hW, hsame⟩ := X1.leave (v := some (.int 0)) (fun h => by rw [Bd.returns] at h; cases h)
  refine ⟨_, _, pre0 _ ?_, hrun, hended, _, _, rfl, ?_, ⟨_, rfl⟩, hW, hsame.mono (by decide) (by decide)⟩
  · show Steps p.tables e below (s₁.setTop (mkF m 0 #[rv a, .val (.long pz), .second, iv 1] [])) _
    refine XS.aloadN X0.here hx rfl (hb hby own_d4_0) rfl rfl ?_
    show Steps p.tables e below (s₁.setTop (mkF m 1 #[rv a, .val (.long pz), .second, iv 1] [(.ref a)])) _
    refine st1 _ ?_
    show Steps p.tables e below (T1.setTop (mkF m 4 #[rv a, .val (.long pz), .second, iv 1] [(.int 0)])) _
    refine XS.ifNo X1.here hx rfl (hb hby own_d4_4) rfl ((if0 _ _).trans (teq (by decide)).2) ?_
    show Steps p.tables e below (T1.setTop (mkF m 7 #[rv a, .val (.long pz), .second, iv 1] [])) _
    refine XS.iloadN X1.here hx rfl (hb hby own_d4_7) rfl ?_
    show Steps p.tables e below (T1.setTop (mkF m 8 #[rv a, .val (.long pz), .second, iv 1] [(.int 1)])) _
    refine XS.ifNo X1.here hx rfl (hb hby own_d4_8) rfl ((if0 _ _).trans (feq (by decide)).1) ?_
    show Steps p.tables e below (T1.setTop (mkF m 11 #[rv a, .val (.long pz), .second, iv 1] [])) _
    refine XS.lloadN X1.here hx rfl (hb hby own_d4_11) rfl ?_
    show Steps p.tables e below (T1.setTop (mkF m 12 #[rv a, .val (.long pz), .second, iv 1] [(.long pz)])) _
    refine XS.lconst X1.here hx rfl (hb hby own_d4_12) ?_
    show Steps p.tables e below (T1.setTop (mkF m 13 #[rv a, .val (.long pz), .second, iv 1] [(.long 0), (.long pz)])) _
    refine XS.lcmp X1.here hx rfl (hb hby own_d4_13) rfl ?_
    show Steps p.tables e below (T1.setTop (mkF m 14 #[rv a, .val (.long pz), .second, iv 1] [(.int (lcmpW pz (0 : Int64)))])) _
    refine XS.ifYes X1.here hx rfl (pc0 := 14) (pc' := 33) rfl (hb hby own_d4_14) rfl ((if0 _ _).trans (tlt ((lw_gt _ _).mpr hp1)).2.2.1) (by decide) (by decide) ?_
    show Steps p.tables e below (T1.setTop (mkF m 33 #[rv a, .val (.long pz), .second, iv 1] [])) _
    refine XS.iconst X1.here hx rfl (hb hby own_d4_33) ?_
    show Steps p.tables e below (T1.setTop (mkF m 34 #[rv a, .val (.long pz), .second, iv 1] [(.int 0)])) _
    exact retN X1 hx (t := .boolean) Bd.returns (by simp) (hb hby own_d4_34) hr
  · show own_ovR0_Q Z w_A w_B a pz tz h0 n0 _ T1.heap _
    rw [e1]
    exact ⟨rfl, N0, rfl⟩
theorem own_ovR1_ef (m : MethodId) (a : Addr) (pz : Int64) : entryFrame m #[(.ref a), (.long pz), (.int 1)] 4 = mkF m 0 #[rv a, .val (.long pz), .second, iv 1] [] := by first | (simp [entryFrame, mkF, argsToLocals, Value.category]; done) | rfl
def own_ovR1_Q (Z : State) (w_A : Addr) (w_B : Addr) (a : Addr) (pz : Int64) (tz : Int64) (h0 : Heap) (n0 : Nat) (v : Option Value) (h : Heap) (L : List Loc) : Prop := v = some (.int 1) ∧ Fr n0 L ∧ h = h0
set_option maxRecDepth 65536 in
set_option maxHeartbeats 40000000 in
theorem own_ovR1 (l : Launch) (Z : State) (a0 : Array Value) (hw : ∀ d ∈ tables_1, d.before a0 Z = true) (ws : List Jvm.Cond) (w_A : Addr) (w_B : Addr) (a : Addr) (pz : Int64) (tz : Int64) (h0 : Heap) (n0 : Nat) (O0 : Old Z n0 h0) (S_A : Sta Z Z.heap "com/example/vsyncopate/vsyncopate/animation/RepeatMode" "RESTART" "Lcom/example/vsyncopate/vsyncopate/animation/RepeatMode;" (.ref w_A)) (S_B : Sta Z Z.heap "com/example/vsyncopate/vsyncopate/animation/RepeatMode" "REVERSE" "Lcom/example/vsyncopate/vsyncopate/animation/RepeatMode;" (.ref w_B)) (F_e : Fld Z h0 a "com/example/vsyncopate/vsyncopate/animation/Timeline" "endless" "Z" (.int 0)) (F_t : Fld Z h0 a "com/example/vsyncopate/vsyncopate/animation/Timeline" "totalNanos" "J" (.long tz)) (hp1 : ¬ (0 : Int64) < pz) :
    MetFree l (⟨"com/example/vsyncopate/vsyncopate/animation/Timeline", "isOver", "(JZ)Z"⟩ : MethodName) (head1 (Jvm.Cond.code (⟨"com/example/vsyncopate/vsyncopate/animation/Timeline", "isOver", "(JZ)Z"⟩ : MethodName) prog_9_method_5_code 4 (some .boolean) :: ws) ({ frames := 0, cells := 0, slots := 0, locals := 0 } : Room)) (fun ar U => ar = #[(.ref a), (.long pz), (.int 1)] ∧ Z.Warmed39 U.vm ∧ U.heap = h0) (fun _ _ _ _ _ => True) (fun _ U oc U' => ∃ v L, oc = .returned v ∧ own_ovR1_Q Z w_A w_B a pz tz h0 n0 v U'.heap L ∧ FrameEnd U oc U' L ({ frames := 0, cells := 0, slots := 0, locals := 0 } : Room).cells ({ frames := 0, cells := 0, slots := 0, locals := 0 } : Room).slots) := by
  refine MetFree.of_bodySF (plainFor_of_name own_pn0) hisR ?_
  intro p e s m args below meth c s₁ Bd hml0 hP hK
  obtain ⟨rfl, hZ, hh⟩ := hP
  have hx := Bd.exec
  have hby := Bd.bytes
  have hml : c.maxLocals = 4 := hml0
  have hown : s.vm.findClass "com/example/vsyncopate/vsyncopate/animation/Timeline" = some m.cls := findClass_of_methodNamed Bd.named
  have hnm := (name_of_methodNamed Bd.named Bd.method).1
  have X0 : Stand p l e ({ frames := 0, cells := 0, slots := 0, locals := 0 } : Room) s m #[(.ref a), (.long pz), (.int 1)] below meth c s₁ [] 0 0 := Stand.of_body Bd
  have e0 : s₁.heap = h0 := by rw [← hh, Bd.state]; rfl
  have N0 := Fr.nil n0
  have pre0 : ∀ t, Steps p.tables e below (s₁.setTop (mkF m 0 #[rv a, .val (.long pz), .second, iv 1] [])) t → Steps p.tables e below (s₁.setTop (entryFrame m #[(.ref a), (.long pz), (.int 1)] 4)) t := fun t k => castTop (own_ovR1_ef m a pz) k
  obtain ⟨T1, X1, e1, st1⟩ := getF X0 hx hZ hown (host := "") (Or.inl (hw _ (own_m 18 rfl))) Via.refl e0 F_e (g := (mkF m 1 #[rv a, .val (.long pz), .second, iv 1] [(.ref a)])) rfl rfl (hb hby own_d4_1)
  obtain ⟨fs, hr, hrun, hended, hW, hsame⟩ := X1.leave (v := some (.int 1)) (fun h => by rw [Bd.returns] at h; cases h)
  refine ⟨_, _, pre0 _ ?_, hrun, hended, _, _, rfl, ?_, ⟨_, rfl⟩, hW, hsame.mono (by decide) (by decide)⟩
  · show Steps p.tables e below (s₁.setTop (mkF m 0 #[rv a, .val (.long pz), .second, iv 1] [])) _
    refine XS.aloadN X0.here hx rfl (hb hby own_d4_0) rfl rfl ?_
    show Steps p.tables e below (s₁.setTop (mkF m 1 #[rv a, .val (.long pz), .second, iv 1] [(.ref a)])) _
    refine st1 _ ?_
    show Steps p.tables e below (T1.setTop (mkF m 4 #[rv a, .val (.long pz), .second, iv 1] [(.int 0)])) _
    refine XS.ifNo X1.here hx rfl (hb hby own_d4_4) rfl ((if0 _ _).trans (teq (by decide)).2) ?_
    show Steps p.tables e below (T1.setTop (mkF m 7 #[rv a, .val (.long pz), .second, iv 1] [])) _
    refine XS.iloadN X1.here hx rfl (hb hby own_d4_7) rfl ?_
    show Steps p.tables e below (T1.setTop (mkF m 8 #[rv a, .val (.long pz), .second, iv 1] [(.int 1)])) _
    refine XS.ifNo X1.here hx rfl (hb hby own_d4_8) rfl ((if0 _ _).trans (feq (by decide)).1) ?_
    show Steps p.tables e below (T1.setTop (mkF m 11 #[rv a, .val (.long pz), .second, iv 1] [])) _
    refine XS.lloadN X1.here hx rfl (hb hby own_d4_11) rfl ?_
    show Steps p.tables e below (T1.setTop (mkF m 12 #[rv a, .val (.long pz), .second, iv 1] [(.long pz)])) _
    refine XS.lconst X1.here hx rfl (hb hby own_d4_12) ?_
    show Steps p.tables e below (T1.setTop (mkF m 13 #[rv a, .val (.long pz), .second, iv 1] [(.long 0), (.long pz)])) _
    refine XS.lcmp X1.here hx rfl (hb hby own_d4_13) rfl ?_
    show Steps p.tables e below (T1.setTop (mkF m 14 #[rv a, .val (.long pz), .second, iv 1] [(.int (lcmpW pz (0 : Int64)))])) _
    refine XS.ifNo X1.here hx rfl (hb hby own_d4_14) rfl ((if0 _ _).trans (flt (fun q => hp1 ((lw_gt _ _).mp q))).2.2.1) ?_
    show Steps p.tables e below (T1.setTop (mkF m 17 #[rv a, .val (.long pz), .second, iv 1] [])) _
    refine XS.goto X1.here hx rfl (pc0 := 17) (pc' := 29) rfl (hb hby own_d4_17) (by decide) (by decide) ?_
    show Steps p.tables e below (T1.setTop (mkF m 29 #[rv a, .val (.long pz), .second, iv 1] [])) _
    refine XS.iconst X1.here hx rfl (hb hby own_d4_29) ?_
    show Steps p.tables e below (T1.setTop (mkF m 30 #[rv a, .val (.long pz), .second, iv 1] [(.int 1)])) _
    refine XS.goto X1.here hx rfl (pc0 := 30) (pc' := 34) rfl (hb hby own_d4_30) (by decide) (by decide) ?_
    show Steps p.tables e below (T1.setTop (mkF m 34 #[rv a, .val (.long pz), .second, iv 1] [(.int 1)])) _
    exact retN X1 hx (t := .boolean) Bd.returns (by simp) (hb hby own_d4_34) hr
  · show own_ovR1_Q Z w_A w_B a pz tz h0 n0 _ T1.heap _
    rw [e1]
    exact ⟨rfl, N0, rfl⟩
theorem own_ovF0_ef (m : MethodId) (a : Addr) (pz : Int64) : entryFrame m #[(.ref a), (.long pz), (.int 0)] 4 = mkF m 0 #[rv a, .val (.long pz), .second, iv 0] [] := by first | (simp [entryFrame, mkF, argsToLocals, Value.category]; done) | rfl
def own_ovF0_Q (Z : State) (w_A : Addr) (w_B : Addr) (a : Addr) (pz : Int64) (tz : Int64) (h0 : Heap) (n0 : Nat) (v : Option Value) (h : Heap) (L : List Loc) : Prop := v = some (.int 0) ∧ Fr n0 L ∧ h = h0
set_option maxRecDepth 65536 in
set_option maxHeartbeats 40000000 in
theorem own_ovF0 (l : Launch) (Z : State) (a0 : Array Value) (hw : ∀ d ∈ tables_1, d.before a0 Z = true) (ws : List Jvm.Cond) (w_A : Addr) (w_B : Addr) (a : Addr) (pz : Int64) (tz : Int64) (h0 : Heap) (n0 : Nat) (O0 : Old Z n0 h0) (S_A : Sta Z Z.heap "com/example/vsyncopate/vsyncopate/animation/RepeatMode" "RESTART" "Lcom/example/vsyncopate/vsyncopate/animation/RepeatMode;" (.ref w_A)) (S_B : Sta Z Z.heap "com/example/vsyncopate/vsyncopate/animation/RepeatMode" "REVERSE" "Lcom/example/vsyncopate/vsyncopate/animation/RepeatMode;" (.ref w_B)) (F_e : Fld Z h0 a "com/example/vsyncopate/vsyncopate/animation/Timeline" "endless" "Z" (.int 0)) (F_t : Fld Z h0 a "com/example/vsyncopate/vsyncopate/animation/Timeline" "totalNanos" "J" (.long tz)) (hp1 : pz < tz) :
    MetFree l (⟨"com/example/vsyncopate/vsyncopate/animation/Timeline", "isOver", "(JZ)Z"⟩ : MethodName) (head1 (Jvm.Cond.code (⟨"com/example/vsyncopate/vsyncopate/animation/Timeline", "isOver", "(JZ)Z"⟩ : MethodName) prog_9_method_5_code 4 (some .boolean) :: ws) ({ frames := 0, cells := 0, slots := 0, locals := 0 } : Room)) (fun ar U => ar = #[(.ref a), (.long pz), (.int 0)] ∧ Z.Warmed39 U.vm ∧ U.heap = h0) (fun _ _ _ _ _ => True) (fun _ U oc U' => ∃ v L, oc = .returned v ∧ own_ovF0_Q Z w_A w_B a pz tz h0 n0 v U'.heap L ∧ FrameEnd U oc U' L ({ frames := 0, cells := 0, slots := 0, locals := 0 } : Room).cells ({ frames := 0, cells := 0, slots := 0, locals := 0 } : Room).slots) := by
  refine MetFree.of_bodySF (plainFor_of_name own_pn0) hisR ?_
  intro p e s m args below meth c s₁ Bd hml0 hP hK
  obtain ⟨rfl, hZ, hh⟩ := hP
  have hx := Bd.exec
  have hby := Bd.bytes
  have hml : c.maxLocals = 4 := hml0
  have hown : s.vm.findClass "com/example/vsyncopate/vsyncopate/animation/Timeline" = some m.cls := findClass_of_methodNamed Bd.named
  have hnm := (name_of_methodNamed Bd.named Bd.method).1
  have X0 : Stand p l e ({ frames := 0, cells := 0, slots := 0, locals := 0 } : Room) s m #[(.ref a), (.long pz), (.int 0)] below meth c s₁ [] 0 0 := Stand.of_body Bd
  have e0 : s₁.heap = h0 := by rw [← hh, Bd.state]; rfl
  have N0 := Fr.nil n0
  have pre0 : ∀ t, Steps p.tables e below (s₁.setTop (mkF m 0 #[rv a, .val (.long pz), .second, iv 0] [])) t → Steps p.tables e below (s₁.setTop (entryFrame m #[(.ref a), (.long pz), (.int 0)] 4)) t := fun t k => castTop (own_ovF0_ef m a pz) k
  obtain ⟨T1, X1, e1, st1⟩ := getF X0 hx hZ hown (host := "") (Or.inl (hw _ (own_m 18 rfl))) Via.refl e0 F_e (g := (mkF m 1 #[rv a, .val (.long pz), .second, iv 0] [(.ref a)])) rfl rfl (hb hby own_d4_1)
  obtain ⟨T2, X2, e2, st2⟩ := getF X1 hx hZ hown (host := "") (Or.inl (hw _ (own_m 27 rfl))) Via.refl e1 F_t (g := (mkF m 22 #[rv a, .val (.long pz), .second, iv 0] [(.ref a), (.long pz)])) rfl rfl (hb hby own_d4_22)
  obtain ⟨fs, hr, hrun, hended, hW, hsame⟩ := X2.leave (v := some (.int 0)) (fun h => by rw [Bd.returns] at h; cases h)
  refine ⟨_, _, pre0 _ ?_, hrun, hended, _, _, rfl, ?_, ⟨_, rfl⟩, hW, hsame.mono (by decide) (by decide)⟩
  · show Steps p.tables e below (s₁.setTop (mkF m 0 #[rv a, .val (.long pz), .second, iv 0] [])) _
    refine XS.aloadN X0.here hx rfl (hb hby own_d4_0) rfl rfl ?_
    show Steps p.tables e below (s₁.setTop (mkF m 1 #[rv a, .val (.long pz), .second, iv 0] [(.ref a)])) _
    refine st1 _ ?_
    show Steps p.tables e below (T1.setTop (mkF m 4 #[rv a, .val (.long pz), .second, iv 0] [(.int 0)])) _
    refine XS.ifNo X1.here hx rfl (hb hby own_d4_4) rfl ((if0 _ _).trans (teq (by decide)).2) ?_
    show Steps p.tables e below (T1.setTop (mkF m 7 #[rv a, .val (.long pz), .second, iv 0] [])) _
    refine XS.iloadN X1.here hx rfl (hb hby own_d4_7) rfl ?_
    show Steps p.tables e below (T1.setTop (mkF m 8 #[rv a, .val (.long pz), .second, iv 0] [(.int 0)])) _
    refine XS.ifYes X1.here hx rfl (pc0 := 8) (pc' := 20) rfl (hb hby own_d4_8) rfl ((if0 _ _).trans (teq (by decide)).1) (by decide) (by decide) ?_
    show Steps p.tables e below (T1.setTop (mkF m 20 #[rv a, .val (.long pz), .second, iv 0] [])) _
    refine XS.lloadN X1.here hx rfl (hb hby own_d4_20) rfl ?_
    show Steps p.tables e below (T1.setTop (mkF m 21 #[rv a, .val (.long pz), .second, iv 0] [(.long pz)])) _
    refine XS.aloadN X1.here hx rfl (hb hby own_d4_21) rfl rfl ?_
    show Steps p.tables e below (T1.setTop (mkF m 22 #[rv a, .val (.long pz), .second, iv 0] [(.ref a), (.long pz)])) _
    refine st2 _ ?_
    show Steps p.tables e below (T2.setTop (mkF m 25 #[rv a, .val (.long pz), .second, iv 0] [(.long tz), (.long pz)])) _
    refine XS.lcmp X2.here hx rfl (hb hby own_d4_25) rfl ?_
    show Steps p.tables e below (T2.setTop (mkF m 26 #[rv a, .val (.long pz), .second, iv 0] [(.int (lcmpW pz tz))])) _
    refine XS.ifYes X2.here hx rfl (pc0 := 26) (pc' := 33) rfl (hb hby own_d4_26) rfl ((if0 _ _).trans (tlt ((lw_lt _ _).mpr hp1)).1) (by decide) (by decide) ?_
    show Steps p.tables e below (T2.setTop (mkF m 33 #[rv a, .val (.long pz), .second, iv 0] [])) _
    refine XS.iconst X2.here hx rfl (hb hby own_d4_33) ?_
    show Steps p.tables e below (T2.setTop (mkF m 34 #[rv a, .val (.long pz), .second, iv 0] [(.int 0)])) _
    exact retN X2 hx (t := .boolean) Bd.returns (by simp) (hb hby own_d4_34) hr
  · show own_ovF0_Q Z w_A w_B a pz tz h0 n0 _ T2.heap _
    rw [e2]
    exact ⟨rfl, N0, rfl⟩
theorem own_ovF1_ef (m : MethodId) (a : Addr) (pz : Int64) : entryFrame m #[(.ref a), (.long pz), (.int 0)] 4 = mkF m 0 #[rv a, .val (.long pz), .second, iv 0] [] := by first | (simp [entryFrame, mkF, argsToLocals, Value.category]; done) | rfl
def own_ovF1_Q (Z : State) (w_A : Addr) (w_B : Addr) (a : Addr) (pz : Int64) (tz : Int64) (h0 : Heap) (n0 : Nat) (v : Option Value) (h : Heap) (L : List Loc) : Prop := v = some (.int 1) ∧ Fr n0 L ∧ h = h0
set_option maxRecDepth 65536 in
set_option maxHeartbeats 40000000 in
theorem own_ovF1 (l : Launch) (Z : State) (a0 : Array Value) (hw : ∀ d ∈ tables_1, d.before a0 Z = true) (ws : List Jvm.Cond) (w_A : Addr) (w_B : Addr) (a : Addr) (pz : Int64) (tz : Int64) (h0 : Heap) (n0 : Nat) (O0 : Old Z n0 h0) (S_A : Sta Z Z.heap "com/example/vsyncopate/vsyncopate/animation/RepeatMode" "RESTART" "Lcom/example/vsyncopate/vsyncopate/animation/RepeatMode;" (.ref w_A)) (S_B : Sta Z Z.heap "com/example/vsyncopate/vsyncopate/animation/RepeatMode" "REVERSE" "Lcom/example/vsyncopate/vsyncopate/animation/RepeatMode;" (.ref w_B)) (F_e : Fld Z h0 a "com/example/vsyncopate/vsyncopate/animation/Timeline" "endless" "Z" (.int 0)) (F_t : Fld Z h0 a "com/example/vsyncopate/vsyncopate/animation/Timeline" "totalNanos" "J" (.long tz)) (hp1 : ¬ pz < tz) :
    MetFree l (⟨"com/example/vsyncopate/vsyncopate/animation/Timeline", "isOver", "(JZ)Z"⟩ : MethodName) (head1 (Jvm.Cond.code (⟨"com/example/vsyncopate/vsyncopate/animation/Timeline", "isOver", "(JZ)Z"⟩ : MethodName) prog_9_method_5_code 4 (some .boolean) :: ws) ({ frames := 0, cells := 0, slots := 0, locals := 0 } : Room)) (fun ar U => ar = #[(.ref a), (.long pz), (.int 0)] ∧ Z.Warmed39 U.vm ∧ U.heap = h0) (fun _ _ _ _ _ => True) (fun _ U oc U' => ∃ v L, oc = .returned v ∧ own_ovF1_Q Z w_A w_B a pz tz h0 n0 v U'.heap L ∧ FrameEnd U oc U' L ({ frames := 0, cells := 0, slots := 0, locals := 0 } : Room).cells ({ frames := 0, cells := 0, slots := 0, locals := 0 } : Room).slots) := by
  refine MetFree.of_bodySF (plainFor_of_name own_pn0) hisR ?_
  intro p e s m args below meth c s₁ Bd hml0 hP hK
  obtain ⟨rfl, hZ, hh⟩ := hP
  have hx := Bd.exec
  have hby := Bd.bytes
  have hml : c.maxLocals = 4 := hml0
  have hown : s.vm.findClass "com/example/vsyncopate/vsyncopate/animation/Timeline" = some m.cls := findClass_of_methodNamed Bd.named
  have hnm := (name_of_methodNamed Bd.named Bd.method).1
  have X0 : Stand p l e ({ frames := 0, cells := 0, slots := 0, locals := 0 } : Room) s m #[(.ref a), (.long pz), (.int 0)] below meth c s₁ [] 0 0 := Stand.of_body Bd
  have e0 : s₁.heap = h0 := by rw [← hh, Bd.state]; rfl
  have N0 := Fr.nil n0
  have pre0 : ∀ t, Steps p.tables e below (s₁.setTop (mkF m 0 #[rv a, .val (.long pz), .second, iv 0] [])) t → Steps p.tables e below (s₁.setTop (entryFrame m #[(.ref a), (.long pz), (.int 0)] 4)) t := fun t k => castTop (own_ovF1_ef m a pz) k
  obtain ⟨T1, X1, e1, st1⟩ := getF X0 hx hZ hown (host := "") (Or.inl (hw _ (own_m 18 rfl))) Via.refl e0 F_e (g := (mkF m 1 #[rv a, .val (.long pz), .second, iv 0] [(.ref a)])) rfl rfl (hb hby own_d4_1)
  obtain ⟨T2, X2, e2, st2⟩ := getF X1 hx hZ hown (host := "") (Or.inl (hw _ (own_m 27 rfl))) Via.refl e1 F_t (g := (mkF m 22 #[rv a, .val (.long pz), .second, iv 0] [(.ref a), (.long pz)])) rfl rfl (hb hby own_d4_22)
  obtain ⟨fs, hr, hrun, hended, hW, hsame⟩ := X2.leave (v := some (.int 1)) (fun h => by rw [Bd.returns] at h; cases h)
  refine ⟨_, _, pre0 _ ?_, hrun, hended, _, _, rfl, ?_, ⟨_, rfl⟩, hW, hsame.mono (by decide) (by decide)⟩
  · show Steps p.tables e below (s₁.setTop (mkF m 0 #[rv a, .val (.long pz), .second, iv 0] [])) _
    refine XS.aloadN X0.here hx rfl (hb hby own_d4_0) rfl rfl ?_
    show Steps p.tables e below (s₁.setTop (mkF m 1 #[rv a, .val (.long pz), .second, iv 0] [(.ref a)])) _
    refine st1 _ ?_
    show Steps p.tables e below (T1.setTop (mkF m 4 #[rv a, .val (.long pz), .second, iv 0] [(.int 0)])) _
    refine XS.ifNo X1.here hx rfl (hb hby own_d4_4) rfl ((if0 _ _).trans (teq (by decide)).2) ?_
    show Steps p.tables e below (T1.setTop (mkF m 7 #[rv a, .val (.long pz), .second, iv 0] [])) _
    refine XS.iloadN X1.here hx rfl (hb hby own_d4_7) rfl ?_
    show Steps p.tables e below (T1.setTop (mkF m 8 #[rv a, .val (.long pz), .second, iv 0] [(.int 0)])) _
    refine XS.ifYes X1.here hx rfl (pc0 := 8) (pc' := 20) rfl (hb hby own_d4_8) rfl ((if0 _ _).trans (teq (by decide)).1) (by decide) (by decide) ?_
    show Steps p.tables e below (T1.setTop (mkF m 20 #[rv a, .val (.long pz), .second, iv 0] [])) _
    refine XS.lloadN X1.here hx rfl (hb hby own_d4_20) rfl ?_
    show Steps p.tables e below (T1.setTop (mkF m 21 #[rv a, .val (.long pz), .second, iv 0] [(.long pz)])) _
    refine XS.aloadN X1.here hx rfl (hb hby own_d4_21) rfl rfl ?_
    show Steps p.tables e below (T1.setTop (mkF m 22 #[rv a, .val (.long pz), .second, iv 0] [(.ref a), (.long pz)])) _
    refine st2 _ ?_
    show Steps p.tables e below (T2.setTop (mkF m 25 #[rv a, .val (.long pz), .second, iv 0] [(.long tz), (.long pz)])) _
    refine XS.lcmp X2.here hx rfl (hb hby own_d4_25) rfl ?_
    show Steps p.tables e below (T2.setTop (mkF m 26 #[rv a, .val (.long pz), .second, iv 0] [(.int (lcmpW pz tz))])) _
    refine XS.ifNo X2.here hx rfl (hb hby own_d4_26) rfl ((if0 _ _).trans (flt (fun q => hp1 ((lw_lt _ _).mp q))).1) ?_
    show Steps p.tables e below (T2.setTop (mkF m 29 #[rv a, .val (.long pz), .second, iv 0] [])) _
    refine XS.iconst X2.here hx rfl (hb hby own_d4_29) ?_
    show Steps p.tables e below (T2.setTop (mkF m 30 #[rv a, .val (.long pz), .second, iv 0] [(.int 1)])) _
    refine XS.goto X2.here hx rfl (pc0 := 30) (pc' := 34) rfl (hb hby own_d4_30) (by decide) (by decide) ?_
    show Steps p.tables e below (T2.setTop (mkF m 34 #[rv a, .val (.long pz), .second, iv 0] [(.int 1)])) _
    exact retN X2 hx (t := .boolean) Bd.returns (by simp) (hb hby own_d4_34) hr
  · show own_ovF1_Q Z w_A w_B a pz tz h0 n0 _ T2.heap _
    rw [e2]
    exact ⟨rfl, N0, rfl⟩
set_option maxRecDepth 65536 in
set_option maxHeartbeats 40000000 in
theorem own_mode {p : Program} {l : Launch} {e : Env} {R : Room} {s : State} {m : MethodId} {args : Array Value} {below : List Frame} {meth : Method} {c : Code} {T0 : State} {locs : List Loc} {cells slots : Nat} {Z : State} {a0 : Array Value} {h0 : Heap} {n0 : Nat} (w_A : Addr) (w_B : Addr) (s0 : Slot) (s1 : Slot) (s2 : Slot) (s4 : Slot) (s5 : Slot) (s6 : Slot) (s7 : Slot) (s8 : Slot) (s9 : Slot) (s10 : Slot) (s11 : Slot) (s12 : Slot) (s13 : Slot) (s14 : Slot) (s15 : Slot) (s16 : Slot) (s17 : Slot) (s18 : Slot) (s19 : Slot) (s20 : Slot) (s21 : Slot) (s22 : Slot) (p2 : Int32)
    (X0 : Stand p l e R s m args below meth c T0 locs cells slots) (hx : p.tables.exec = Jvm.exec) (hZ : Z.Warmed39 s.vm) (hw : ∀ d ∈ tables_1, d.before a0 Z = true) (hby : c.code = code) (hml : c.maxLocals = 23) (hown : s.vm.findClass "com/example/vsyncopate/vsyncopate/animation/TimelineIsOverPinLaw" = some m.cls) (e0 : T0.heap = h0) (N0 : Fr n0 locs) (O0 : Old Z n0 h0) (S_A : Sta Z Z.heap "com/example/vsyncopate/vsyncopate/animation/RepeatMode" "RESTART" "Lcom/example/vsyncopate/vsyncopate/animation/RepeatMode;" (.ref w_A)) (S_B : Sta Z Z.heap "com/example/vsyncopate/vsyncopate/animation/RepeatMode" "REVERSE" "Lcom/example/vsyncopate/vsyncopate/animation/RepeatMode;" (.ref w_B)) :
    ∃ (wm : Addr) (T' : State) (L' : List Loc), (True) ∧ Stand p l e R s m args below meth c T' L' cells slots ∧ Fr n0 L' ∧ T'.heap = h0 ∧ ∀ target, Steps p.tables e below (T'.setTop (mkF m 54 #[s0, s1, s2, iv p2, s4, s5, s6, s7, s8, s9, s10, s11, s12, s13, s14, s15, s16, s17, s18, s19, s20, s21, s22] [(.ref wm)])) target → Steps p.tables e below (T0.setTop (mkF m 39 #[s0, s1, s2, iv p2, s4, s5, s6, s7, s8, s9, s10, s11, s12, s13, s14, s15, s16, s17, s18, s19, s20, s21, s22] [])) target := by
  by_cases hc1 : (p2 &&& (4 : Int32)) = (0 : Int32)
  · obtain ⟨T2, X2, e2, st2⟩ := getS2 X0 hx hZ hown (host := "") (Or.inl (hw _ (own_m 2 rfl))) Via.refl e0 (S_A.ext O0.2) (g := (mkF m 51 #[s0, s1, s2, iv p2, s4, s5, s6, s7, s8, s9, s10, s11, s12, s13, s14, s15, s16, s17, s18, s19, s20, s21, s22] [])) rfl (hb hby at_51)
    refine ⟨w_A, T2, _, trivial, X2, N0, e2, fun target kt => ?_⟩
    show Steps p.tables e below (T0.setTop (mkF m 39 #[s0, s1, s2, iv p2, s4, s5, s6, s7, s8, s9, s10, s11, s12, s13, s14, s15, s16, s17, s18, s19, s20, s21, s22] [])) _
    refine XS.iloadN X0.here hx rfl (hb hby at_39) rfl ?_
    show Steps p.tables e below (T0.setTop (mkF m 40 #[s0, s1, s2, iv p2, s4, s5, s6, s7, s8, s9, s10, s11, s12, s13, s14, s15, s16, s17, s18, s19, s20, s21, s22] [(.int p2)])) _
    refine XS.iconst X0.here hx rfl (hb hby at_40) ?_
    show Steps p.tables e below (T0.setTop (mkF m 41 #[s0, s1, s2, iv p2, s4, s5, s6, s7, s8, s9, s10, s11, s12, s13, s14, s15, s16, s17, s18, s19, s20, s21, s22] [(.int 4), (.int p2)])) _
    refine XS.iand X0.here hx rfl (hb hby at_41) rfl ?_
    show Steps p.tables e below (T0.setTop (mkF m 42 #[s0, s1, s2, iv p2, s4, s5, s6, s7, s8, s9, s10, s11, s12, s13, s14, s15, s16, s17, s18, s19, s20, s21, s22] [(.int (p2 &&& (4 : Int32)))])) _
    refine XS.ifYes X0.here hx rfl (pc0 := 42) (pc' := 51) rfl (hb hby at_42) rfl ((if0 _ _).trans (teq hc1).1) (by decide) (by decide) ?_
    show Steps p.tables e below (T0.setTop (mkF m 51 #[s0, s1, s2, iv p2, s4, s5, s6, s7, s8, s9, s10, s11, s12, s13, s14, s15, s16, s17, s18, s19, s20, s21, s22] [])) _
    refine st2 _ ?_
    show Steps p.tables e below (T2.setTop (mkF m 54 #[s0, s1, s2, iv p2, s4, s5, s6, s7, s8, s9, s10, s11, s12, s13, s14, s15, s16, s17, s18, s19, s20, s21, s22] [(.ref w_A)])) _
    exact kt
  · obtain ⟨T3, X3, e3, st3⟩ := getS2 X0 hx hZ hown (host := "") (Or.inl (hw _ (own_m 34 rfl))) Via.refl e0 (S_B.ext O0.2) (g := (mkF m 45 #[s0, s1, s2, iv p2, s4, s5, s6, s7, s8, s9, s10, s11, s12, s13, s14, s15, s16, s17, s18, s19, s20, s21, s22] [])) rfl (hb hby at_45)
    refine ⟨w_B, T3, _, trivial, X3, N0, e3, fun target kt => ?_⟩
    show Steps p.tables e below (T0.setTop (mkF m 39 #[s0, s1, s2, iv p2, s4, s5, s6, s7, s8, s9, s10, s11, s12, s13, s14, s15, s16, s17, s18, s19, s20, s21, s22] [])) _
    refine XS.iloadN X0.here hx rfl (hb hby at_39) rfl ?_
    show Steps p.tables e below (T0.setTop (mkF m 40 #[s0, s1, s2, iv p2, s4, s5, s6, s7, s8, s9, s10, s11, s12, s13, s14, s15, s16, s17, s18, s19, s20, s21, s22] [(.int p2)])) _
    refine XS.iconst X0.here hx rfl (hb hby at_40) ?_
    show Steps p.tables e below (T0.setTop (mkF m 41 #[s0, s1, s2, iv p2, s4, s5, s6, s7, s8, s9, s10, s11, s12, s13, s14, s15, s16, s17, s18, s19, s20, s21, s22] [(.int 4), (.int p2)])) _
    refine XS.iand X0.here hx rfl (hb hby at_41) rfl ?_
    show Steps p.tables e below (T0.setTop (mkF m 42 #[s0, s1, s2, iv p2, s4, s5, s6, s7, s8, s9, s10, s11, s12, s13, s14, s15, s16, s17, s18, s19, s20, s21, s22] [(.int (p2 &&& (4 : Int32)))])) _
    refine XS.ifNo X0.here hx rfl (hb hby at_42) rfl ((if0 _ _).trans (feq hc1).1) ?_
    show Steps p.tables e below (T0.setTop (mkF m 45 #[s0, s1, s2, iv p2, s4, s5, s6, s7, s8, s9, s10, s11, s12, s13, s14, s15, s16, s17, s18, s19, s20, s21, s22] [])) _
    refine st3 _ ?_
    show Steps p.tables e below (T3.setTop (mkF m 48 #[s0, s1, s2, iv p2, s4, s5, s6, s7, s8, s9, s10, s11, s12, s13, s14, s15, s16, s17, s18, s19, s20, s21, s22] [(.ref w_B)])) _
    refine XS.goto X3.here hx rfl (pc0 := 48) (pc' := 54) rfl (hb hby at_48) (by decide) (by decide) ?_
    show Steps p.tables e below (T3.setTop (mkF m 54 #[s0, s1, s2, iv p2, s4, s5, s6, s7, s8, s9, s10, s11, s12, s13, s14, s15, s16, s17, s18, s19, s20, s21, s22] [(.ref w_B)])) _
    exact kt
set_option maxRecDepth 65536 in
set_option maxHeartbeats 40000000 in
theorem own_pp0 {p : Program} {l : Launch} {e : Env} {R : Room} {s : State} {m : MethodId} {args : Array Value} {below : List Frame} {meth : Method} {c : Code} {T0 : State} {locs : List Loc} {cells slots : Nat} {Z : State} {a0 : Array Value} {h0 : Heap} {n0 : Nat} (w_A : Addr) (w_B : Addr) (s0 : Slot) (s1 : Slot) (s2 : Slot) (s3 : Slot) (s7 : Slot) (s8 : Slot) (s9 : Slot) (s10 : Slot) (s11 : Slot) (s12 : Slot) (s13 : Slot) (s14 : Slot) (s15 : Slot) (s16 : Slot) (q3 : Int64) (p3 : Int32) (tt : Int64)
    (X0 : Stand p l e R s m args below meth c T0 locs cells slots) (hx : p.tables.exec = Jvm.exec) (hZ : Z.Warmed39 s.vm) (hw : ∀ d ∈ tables_1, d.before a0 Z = true) (hby : c.code = code) (hml : c.maxLocals = 23) (hown : s.vm.findClass "com/example/vsyncopate/vsyncopate/animation/TimelineIsOverPinLaw" = some m.cls) (e0 : T0.heap = h0) (N0 : Fr n0 locs) (O0 : Old Z n0 h0) (S_A : Sta Z Z.heap "com/example/vsyncopate/vsyncopate/animation/RepeatMode" "RESTART" "Lcom/example/vsyncopate/vsyncopate/animation/RepeatMode;" (.ref w_A)) (S_B : Sta Z Z.heap "com/example/vsyncopate/vsyncopate/animation/RepeatMode" "REVERSE" "Lcom/example/vsyncopate/vsyncopate/animation/RepeatMode;" (.ref w_B)) :
    ∃ (pp : Int64) (T' : State) (L' : List Loc), (True) ∧ Stand p l e R s m args below meth c T' L' cells slots ∧ Fr n0 L' ∧ T'.heap = h0 ∧ ∀ target, Steps p.tables e below (T'.setTop (mkF m 257 #[s0, s1, s2, s3, .val (.long q3), .second, iv p3, s7, s8, s9, s10, s11, s12, s13, s14, s15, s16, .val (.long tt), .second, .val (.int ((p3 &&& (2147483647 : Int32)) % (7 : Int32))), .val (.long pp), .second, .unset] [])) target → Steps p.tables e below (T0.setTop (mkF m 149 #[s0, s1, s2, s3, .val (.long q3), .second, iv p3, s7, s8, s9, s10, s11, s12, s13, s14, s15, s16, .val (.long tt), .second, .unset, .unset, .unset, .unset] [])) target := by
  by_cases hc1 : ((p3 &&& (2147483647 : Int32)) % (7 : Int32)) = (0 : Int32)
  · refine ⟨q3, T0, _, trivial, X0, N0, e0, fun target kt => ?_⟩
    show Steps p.tables e below (T0.setTop (mkF m 149 #[s0, s1, s2, s3, .val (.long q3), .second, iv p3, s7, s8, s9, s10, s11, s12, s13, s14, s15, s16, .val (.long tt), .second, .unset, .unset, .unset, .unset] [])) _
    refine XS.iload X0.here hx rfl (hb hby at_149) rfl ?_
    show Steps p.tables e below (T0.setTop (mkF m 151 #[s0, s1, s2, s3, .val (.long q3), .second, iv p3, s7, s8, s9, s10, s11, s12, s13, s14, s15, s16, .val (.long tt), .second, .unset, .unset, .unset, .unset] [(.int p3)])) _
    refine X0.ldcInt hx hown (mvT hZ (hw _ (own_m 1 rfl))) (g := (mkF m 151 #[s0, s1, s2, s3, .val (.long q3), .second, iv p3, s7, s8, s9, s10, s11, s12, s13, s14, s15, s16, .val (.long tt), .second, .unset, .unset, .unset, .unset] [(.int p3)])) rfl (hb hby at_151) _ ?_
    show Steps p.tables e below (T0.setTop (mkF m 153 #[s0, s1, s2, s3, .val (.long q3), .second, iv p3, s7, s8, s9, s10, s11, s12, s13, s14, s15, s16, .val (.long tt), .second, .unset, .unset, .unset, .unset] [(.int 2147483647), (.int p3)])) _
    refine XS.iand X0.here hx rfl (hb hby at_153) rfl ?_
    show Steps p.tables e below (T0.setTop (mkF m 154 #[s0, s1, s2, s3, .val (.long q3), .second, iv p3, s7, s8, s9, s10, s11, s12, s13, s14, s15, s16, .val (.long tt), .second, .unset, .unset, .unset, .unset] [(.int (p3 &&& (2147483647 : Int32)))])) _
    refine XS.bipush X0.here hx rfl (hb hby at_154) ?_
    show Steps p.tables e below (T0.setTop (mkF m 156 #[s0, s1, s2, s3, .val (.long q3), .second, iv p3, s7, s8, s9, s10, s11, s12, s13, s14, s15, s16, .val (.long tt), .second, .unset, .unset, .unset, .unset] [(.int 7), (.int (p3 &&& (2147483647 : Int32)))])) _
    refine iremM X0 hx rfl (hb hby at_156) rfl (by decide) ?_
    show Steps p.tables e below (T0.setTop (mkF m 157 #[s0, s1, s2, s3, .val (.long q3), .second, iv p3, s7, s8, s9, s10, s11, s12, s13, s14, s15, s16, .val (.long tt), .second, .unset, .unset, .unset, .unset] [(.int ((p3 &&& (2147483647 : Int32)) % (7 : Int32)))])) _
    refine XS.istore X0.here hx rfl (hb hby at_157) rfl (l' := #[s0, s1, s2, s3, .val (.long q3), .second, iv p3, s7, s8, s9, s10, s11, s12, s13, s14, s15, s16, .val (.long tt), .second, .val (.int ((p3 &&& (2147483647 : Int32)) % (7 : Int32))), .unset, .unset, .unset]) rfl ?_
    show Steps p.tables e below (T0.setTop (mkF m 159 #[s0, s1, s2, s3, .val (.long q3), .second, iv p3, s7, s8, s9, s10, s11, s12, s13, s14, s15, s16, .val (.long tt), .second, .val (.int ((p3 &&& (2147483647 : Int32)) % (7 : Int32))), .unset, .unset, .unset] [])) _
    refine XS.iload X0.here hx rfl (hb hby at_159) rfl ?_
    show Steps p.tables e below (T0.setTop (mkF m 161 #[s0, s1, s2, s3, .val (.long q3), .second, iv p3, s7, s8, s9, s10, s11, s12, s13, s14, s15, s16, .val (.long tt), .second, .val (.int ((p3 &&& (2147483647 : Int32)) % (7 : Int32))), .unset, .unset, .unset] [(.int ((p3 &&& (2147483647 : Int32)) % (7 : Int32)))])) _
    refine XS.ifNo X0.here hx rfl (hb hby at_161) rfl ((if0 _ _).trans (teq hc1).2) ?_
    show Steps p.tables e below (T0.setTop (mkF m 164 #[s0, s1, s2, s3, .val (.long q3), .second, iv p3, s7, s8, s9, s10, s11, s12, s13, s14, s15, s16, .val (.long tt), .second, .val (.int ((p3 &&& (2147483647 : Int32)) % (7 : Int32))), .unset, .unset, .unset] [])) _
    refine XS.lload X0.here hx rfl (hb hby at_164) rfl ?_
    show Steps p.tables e below (T0.setTop (mkF m 166 #[s0, s1, s2, s3, .val (.long q3), .second, iv p3, s7, s8, s9, s10, s11, s12, s13, s14, s15, s16, .val (.long tt), .second, .val (.int ((p3 &&& (2147483647 : Int32)) % (7 : Int32))), .unset, .unset, .unset] [(.long q3)])) _
    refine XS.lstore X0.here hx rfl (hb hby at_166) rfl (l' := #[s0, s1, s2, s3, .val (.long q3), .second, iv p3, s7, s8, s9, s10, s11, s12, s13, s14, s15, s16, .val (.long tt), .second, .val (.int ((p3 &&& (2147483647 : Int32)) % (7 : Int32))), .val (.long q3), .second, .unset]) rfl ?_
    show Steps p.tables e below (T0.setTop (mkF m 168 #[s0, s1, s2, s3, .val (.long q3), .second, iv p3, s7, s8, s9, s10, s11, s12, s13, s14, s15, s16, .val (.long tt), .second, .val (.int ((p3 &&& (2147483647 : Int32)) % (7 : Int32))), .val (.long q3), .second, .unset] [])) _
    refine XS.goto X0.here hx rfl (pc0 := 168) (pc' := 257) rfl (hb hby at_168) (by decide) (by decide) ?_
    show Steps p.tables e below (T0.setTop (mkF m 257 #[s0, s1, s2, s3, .val (.long q3), .second, iv p3, s7, s8, s9, s10, s11, s12, s13, s14, s15, s16, .val (.long tt), .second, .val (.int ((p3 &&& (2147483647 : Int32)) % (7 : Int32))), .val (.long q3), .second, .unset] [])) _
    exact kt
  · by_cases hc2 : ((p3 &&& (2147483647 : Int32)) % (7 : Int32)) = (1 : Int32)
    · refine ⟨(tt - (1 : Int64)), T0, _, trivial, X0, N0, e0, fun target kt => ?_⟩
      show Steps p.tables e below (T0.setTop (mkF m 149 #[s0, s1, s2, s3, .val (.long q3), .second, iv p3, s7, s8, s9, s10, s11, s12, s13, s14, s15, s16, .val (.long tt), .second, .unset, .unset, .unset, .unset] [])) _
      refine XS.iload X0.here hx rfl (hb hby at_149) rfl ?_
      show Steps p.tables e below (T0.setTop (mkF m 151 #[s0, s1, s2, s3, .val (.long q3), .second, iv p3, s7, s8, s9, s10, s11, s12, s13, s14, s15, s16, .val (.long tt), .second, .unset, .unset, .unset, .unset] [(.int p3)])) _
      refine X0.ldcInt hx hown (mvT hZ (hw _ (own_m 1 rfl))) (g := (mkF m 151 #[s0, s1, s2, s3, .val (.long q3), .second, iv p3, s7, s8, s9, s10, s11, s12, s13, s14, s15, s16, .val (.long tt), .second, .unset, .unset, .unset, .unset] [(.int p3)])) rfl (hb hby at_151) _ ?_
      show Steps p.tables e below (T0.setTop (mkF m 153 #[s0, s1, s2, s3, .val (.long q3), .second, iv p3, s7, s8, s9, s10, s11, s12, s13, s14, s15, s16, .val (.long tt), .second, .unset, .unset, .unset, .unset] [(.int 2147483647), (.int p3)])) _
      refine XS.iand X0.here hx rfl (hb hby at_153) rfl ?_
      show Steps p.tables e below (T0.setTop (mkF m 154 #[s0, s1, s2, s3, .val (.long q3), .second, iv p3, s7, s8, s9, s10, s11, s12, s13, s14, s15, s16, .val (.long tt), .second, .unset, .unset, .unset, .unset] [(.int (p3 &&& (2147483647 : Int32)))])) _
      refine XS.bipush X0.here hx rfl (hb hby at_154) ?_
      show Steps p.tables e below (T0.setTop (mkF m 156 #[s0, s1, s2, s3, .val (.long q3), .second, iv p3, s7, s8, s9, s10, s11, s12, s13, s14, s15, s16, .val (.long tt), .second, .unset, .unset, .unset, .unset] [(.int 7), (.int (p3 &&& (2147483647 : Int32)))])) _
      refine iremM X0 hx rfl (hb hby at_156) rfl (by decide) ?_
      show Steps p.tables e below (T0.setTop (mkF m 157 #[s0, s1, s2, s3, .val (.long q3), .second, iv p3, s7, s8, s9, s10, s11, s12, s13, s14, s15, s16, .val (.long tt), .second, .unset, .unset, .unset, .unset] [(.int ((p3 &&& (2147483647 : Int32)) % (7 : Int32)))])) _
      refine XS.istore X0.here hx rfl (hb hby at_157) rfl (l' := #[s0, s1, s2, s3, .val (.long q3), .second, iv p3, s7, s8, s9, s10, s11, s12, s13, s14, s15, s16, .val (.long tt), .second, .val (.int ((p3 &&& (2147483647 : Int32)) % (7 : Int32))), .unset, .unset, .unset]) rfl ?_
      show Steps p.tables e below (T0.setTop (mkF m 159 #[s0, s1, s2, s3, .val (.long q3), .second, iv p3, s7, s8, s9, s10, s11, s12, s13, s14, s15, s16, .val (.long tt), .second, .val (.int ((p3 &&& (2147483647 : Int32)) % (7 : Int32))), .unset, .unset, .unset] [])) _
      refine XS.iload X0.here hx rfl (hb hby at_159) rfl ?_
      show Steps p.tables e below (T0.setTop (mkF m 161 #[s0, s1, s2, s3, .val (.long q3), .second, iv p3, s7, s8, s9, s10, s11, s12, s13, s14, s15, s16, .val (.long tt), .second, .val (.int ((p3 &&& (2147483647 : Int32)) % (7 : Int32))), .unset, .unset, .unset] [(.int ((p3 &&& (2147483647 : Int32)) % (7 : Int32)))])) _
      refine XS.ifYes X0.here hx rfl (pc0 := 161) (pc' := 171) rfl (hb hby at_161) rfl ((if0 _ _).trans (feq hc1).2) (by decide) (by decide) ?_
      show Steps p.tables e below (T0.setTop (mkF m 171 #[s0, s1, s2, s3, .val (.long q3), .second, iv p3, s7, s8, s9, s10, s11, s12, s13, s14, s15, s16, .val (.long tt), .second, .val (.int ((p3 &&& (2147483647 : Int32)) % (7 : Int32))), .unset, .unset, .unset] [])) _
      refine XS.iload X0.here hx rfl (hb hby at_171) rfl ?_
      show Steps p.tables e below (T0.setTop (mkF m 173 #[s0, s1, s2, s3, .val (.long q3), .second, iv p3, s7, s8, s9, s10, s11, s12, s13, s14, s15, s16, .val (.long tt), .second, .val (.int ((p3 &&& (2147483647 : Int32)) % (7 : Int32))), .unset, .unset, .unset] [(.int ((p3 &&& (2147483647 : Int32)) % (7 : Int32)))])) _
      refine XS.iconst X0.here hx rfl (hb hby at_173) ?_
      show Steps p.tables e below (T0.setTop (mkF m 174 #[s0, s1, s2, s3, .val (.long q3), .second, iv p3, s7, s8, s9, s10, s11, s12, s13, s14, s15, s16, .val (.long tt), .second, .val (.int ((p3 &&& (2147483647 : Int32)) % (7 : Int32))), .unset, .unset, .unset] [(.int 1), (.int ((p3 &&& (2147483647 : Int32)) % (7 : Int32)))])) _
      refine XS.icmpNo X0.here hx rfl (hb hby at_174) rfl (teq hc2).2 ?_
      show Steps p.tables e below (T0.setTop (mkF m 177 #[s0, s1, s2, s3, .val (.long q3), .second, iv p3, s7, s8, s9, s10, s11, s12, s13, s14, s15, s16, .val (.long tt), .second, .val (.int ((p3 &&& (2147483647 : Int32)) % (7 : Int32))), .unset, .unset, .unset] [])) _
      refine XS.lload X0.here hx rfl (hb hby at_177) rfl ?_
      show Steps p.tables e below (T0.setTop (mkF m 179 #[s0, s1, s2, s3, .val (.long q3), .second, iv p3, s7, s8, s9, s10, s11, s12, s13, s14, s15, s16, .val (.long tt), .second, .val (.int ((p3 &&& (2147483647 : Int32)) % (7 : Int32))), .unset, .unset, .unset] [(.long tt)])) _
      refine XS.lconst X0.here hx rfl (hb hby at_179) ?_
      show Steps p.tables e below (T0.setTop (mkF m 180 #[s0, s1, s2, s3, .val (.long q3), .second, iv p3, s7, s8, s9, s10, s11, s12, s13, s14, s15, s16, .val (.long tt), .second, .val (.int ((p3 &&& (2147483647 : Int32)) % (7 : Int32))), .unset, .unset, .unset] [(.long 1), (.long tt)])) _
      refine XS.lsub X0.here hx rfl (hb hby at_180) rfl ?_
      show Steps p.tables e below (T0.setTop (mkF m 181 #[s0, s1, s2, s3, .val (.long q3), .second, iv p3, s7, s8, s9, s10, s11, s12, s13, s14, s15, s16, .val (.long tt), .second, .val (.int ((p3 &&& (2147483647 : Int32)) % (7 : Int32))), .unset, .unset, .unset] [(.long (tt - (1 : Int64)))])) _
      refine XS.lstore X0.here hx rfl (hb hby at_181) rfl (l' := #[s0, s1, s2, s3, .val (.long q3), .second, iv p3, s7, s8, s9, s10, s11, s12, s13, s14, s15, s16, .val (.long tt), .second, .val (.int ((p3 &&& (2147483647 : Int32)) % (7 : Int32))), .val (.long (tt - (1 : Int64))), .second, .unset]) rfl ?_
      show Steps p.tables e below (T0.setTop (mkF m 183 #[s0, s1, s2, s3, .val (.long q3), .second, iv p3, s7, s8, s9, s10, s11, s12, s13, s14, s15, s16, .val (.long tt), .second, .val (.int ((p3 &&& (2147483647 : Int32)) % (7 : Int32))), .val (.long (tt - (1 : Int64))), .second, .unset] [])) _
      refine XS.goto X0.here hx rfl (pc0 := 183) (pc' := 257) rfl (hb hby at_183) (by decide) (by decide) ?_
      show Steps p.tables e below (T0.setTop (mkF m 257 #[s0, s1, s2, s3, .val (.long q3), .second, iv p3, s7, s8, s9, s10, s11, s12, s13, s14, s15, s16, .val (.long tt), .second, .val (.int ((p3 &&& (2147483647 : Int32)) % (7 : Int32))), .val (.long (tt - (1 : Int64))), .second, .unset] [])) _
      exact kt
    · by_cases hc3 : ((p3 &&& (2147483647 : Int32)) % (7 : Int32)) = (2 : Int32)
      · refine ⟨tt, T0, _, trivial, X0, N0, e0, fun target kt => ?_⟩
        show Steps p.tables e below (T0.setTop (mkF m 149 #[s0, s1, s2, s3, .val (.long q3), .second, iv p3, s7, s8, s9, s10, s11, s12, s13, s14, s15, s16, .val (.long tt), .second, .unset, .unset, .unset, .unset] [])) _
        refine XS.iload X0.here hx rfl (hb hby at_149) rfl ?_
        show Steps p.tables e below (T0.setTop (mkF m 151 #[s0, s1, s2, s3, .val (.long q3), .second, iv p3, s7, s8, s9, s10, s11, s12, s13, s14, s15, s16, .val (.long tt), .second, .unset, .unset, .unset, .unset] [(.int p3)])) _
        refine X0.ldcInt hx hown (mvT hZ (hw _ (own_m 1 rfl))) (g := (mkF m 151 #[s0, s1, s2, s3, .val (.long q3), .second, iv p3, s7, s8, s9, s10, s11, s12, s13, s14, s15, s16, .val (.long tt), .second, .unset, .unset, .unset, .unset] [(.int p3)])) rfl (hb hby at_151) _ ?_
        show Steps p.tables e below (T0.setTop (mkF m 153 #[s0, s1, s2, s3, .val (.long q3), .second, iv p3, s7, s8, s9, s10, s11, s12, s13, s14, s15, s16, .val (.long tt), .second, .unset, .unset, .unset, .unset] [(.int 2147483647), (.int p3)])) _
        refine XS.iand X0.here hx rfl (hb hby at_153) rfl ?_
        show Steps p.tables e below (T0.setTop (mkF m 154 #[s0, s1, s2, s3, .val (.long q3), .second, iv p3, s7, s8, s9, s10, s11, s12, s13, s14, s15, s16, .val (.long tt), .second, .unset, .unset, .unset, .unset] [(.int (p3 &&& (2147483647 : Int32)))])) _
        refine XS.bipush X0.here hx rfl (hb hby at_154) ?_
        show Steps p.tables e below (T0.setTop (mkF m 156 #[s0, s1, s2, s3, .val (.long q3), .second, iv p3, s7, s8, s9, s10, s11, s12, s13, s14, s15, s16, .val (.long tt), .second, .unset, .unset, .unset, .unset] [(.int 7), (.int (p3 &&& (2147483647 : Int32)))])) _
        refine iremM X0 hx rfl (hb hby at_156) rfl (by decide) ?_
        show Steps p.tables e below (T0.setTop (mkF m 157 #[s0, s1, s2, s3, .val (.long q3), .second, iv p3, s7, s8, s9, s10, s11, s12, s13, s14, s15, s16, .val (.long tt), .second, .unset, .unset, .unset, .unset] [(.int ((p3 &&& (2147483647 : Int32)) % (7 : Int32)))])) _
        refine XS.istore X0.here hx rfl (hb hby at_157) rfl (l' := #[s0, s1, s2, s3, .val (.long q3), .second, iv p3, s7, s8, s9, s10, s11, s12, s13, s14, s15, s16, .val (.long tt), .second, .val (.int ((p3 &&& (2147483647 : Int32)) % (7 : Int32))), .unset, .unset, .unset]) rfl ?_
        show Steps p.tables e below (T0.setTop (mkF m 159 #[s0, s1, s2, s3, .val (.long q3), .second, iv p3, s7, s8, s9, s10, s11, s12, s13, s14, s15, s16, .val (.long tt), .second, .val (.int ((p3 &&& (2147483647 : Int32)) % (7 : Int32))), .unset, .unset, .unset] [])) _
        refine XS.iload X0.here hx rfl (hb hby at_159) rfl ?_
        show Steps p.tables e below (T0.setTop (mkF m 161 #[s0, s1, s2, s3, .val (.long q3), .second, iv p3, s7, s8, s9, s10, s11, s12, s13, s14, s15, s16, .val (.long tt), .second, .val (.int ((p3 &&& (2147483647 : Int32)) % (7 : Int32))), .unset, .unset, .unset] [(.int ((p3 &&& (2147483647 : Int32)) % (7 : Int32)))])) _
        refine XS.ifYes X0.here hx rfl (pc0 := 161) (pc' := 171) rfl (hb hby at_161) rfl ((if0 _ _).trans (feq hc1).2) (by decide) (by decide) ?_
        show Steps p.tables e below (T0.setTop (mkF m 171 #[s0, s1, s2, s3, .val (.long q3), .second, iv p3, s7, s8, s9, s10, s11, s12, s13, s14, s15, s16, .val (.long tt), .second, .val (.int ((p3 &&& (2147483647 : Int32)) % (7 : Int32))), .unset, .unset, .unset] [])) _
        refine XS.iload X0.here hx rfl (hb hby at_171) rfl ?_
        show Steps p.tables e below (T0.setTop (mkF m 173 #[s0, s1, s2, s3, .val (.long q3), .second, iv p3, s7, s8, s9, s10, s11, s12, s13, s14, s15, s16, .val (.long tt), .second, .val (.int ((p3 &&& (2147483647 : Int32)) % (7 : Int32))), .unset, .unset, .unset] [(.int ((p3 &&& (2147483647 : Int32)) % (7 : Int32)))])) _
        refine XS.iconst X0.here hx rfl (hb hby at_173) ?_
        show Steps p.tables e below (T0.setTop (mkF m 174 #[s0, s1, s2, s3, .val (.long q3), .second, iv p3, s7, s8, s9, s10, s11, s12, s13, s14, s15, s16, .val (.long tt), .second, .val (.int ((p3 &&& (2147483647 : Int32)) % (7 : Int32))), .unset, .unset, .unset] [(.int 1), (.int ((p3 &&& (2147483647 : Int32)) % (7 : Int32)))])) _
        refine XS.icmpYes X0.here hx rfl (pc0 := 174) (pc' := 186) rfl (hb hby at_174) rfl (feq hc2).2 (by decide) (by decide) ?_
        show Steps p.tables e below (T0.setTop (mkF m 186 #[s0, s1, s2, s3, .val (.long q3), .second, iv p3, s7, s8, s9, s10, s11, s12, s13, s14, s15, s16, .val (.long tt), .second, .val (.int ((p3 &&& (2147483647 : Int32)) % (7 : Int32))), .unset, .unset, .unset] [])) _
        refine XS.iload X0.here hx rfl (hb hby at_186) rfl ?_
        show Steps p.tables e below (T0.setTop (mkF m 188 #[s0, s1, s2, s3, .val (.long q3), .second, iv p3, s7, s8, s9, s10, s11, s12, s13, s14, s15, s16, .val (.long tt), .second, .val (.int ((p3 &&& (2147483647 : Int32)) % (7 : Int32))), .unset, .unset, .unset] [(.int ((p3 &&& (2147483647 : Int32)) % (7 : Int32)))])) _
        refine XS.iconst X0.here hx rfl (hb hby at_188) ?_
        show Steps p.tables e below (T0.setTop (mkF m 189 #[s0, s1, s2, s3, .val (.long q3), .second, iv p3, s7, s8, s9, s10, s11, s12, s13, s14, s15, s16, .val (.long tt), .second, .val (.int ((p3 &&& (2147483647 : Int32)) % (7 : Int32))), .unset, .unset, .unset] [(.int 2), (.int ((p3 &&& (2147483647 : Int32)) % (7 : Int32)))])) _
        refine XS.icmpNo X0.here hx rfl (hb hby at_189) rfl (teq hc3).2 ?_
        show Steps p.tables e below (T0.setTop (mkF m 192 #[s0, s1, s2, s3, .val (.long q3), .second, iv p3, s7, s8, s9, s10, s11, s12, s13, s14, s15, s16, .val (.long tt), .second, .val (.int ((p3 &&& (2147483647 : Int32)) % (7 : Int32))), .unset, .unset, .unset] [])) _
        refine XS.lload X0.here hx rfl (hb hby at_192) rfl ?_
        show Steps p.tables e below (T0.setTop (mkF m 194 #[s0, s1, s2, s3, .val (.long q3), .second, iv p3, s7, s8, s9, s10, s11, s12, s13, s14, s15, s16, .val (.long tt), .second, .val (.int ((p3 &&& (2147483647 : Int32)) % (7 : Int32))), .unset, .unset, .unset] [(.long tt)])) _
        refine XS.lstore X0.here hx rfl (hb hby at_194) rfl (l' := #[s0, s1, s2, s3, .val (.long q3), .second, iv p3, s7, s8, s9, s10, s11, s12, s13, s14, s15, s16, .val (.long tt), .second, .val (.int ((p3 &&& (2147483647 : Int32)) % (7 : Int32))), .val (.long tt), .second, .unset]) rfl ?_
        show Steps p.tables e below (T0.setTop (mkF m 196 #[s0, s1, s2, s3, .val (.long q3), .second, iv p3, s7, s8, s9, s10, s11, s12, s13, s14, s15, s16, .val (.long tt), .second, .val (.int ((p3 &&& (2147483647 : Int32)) % (7 : Int32))), .val (.long tt), .second, .unset] [])) _
        refine XS.goto X0.here hx rfl (pc0 := 196) (pc' := 257) rfl (hb hby at_196) (by decide) (by decide) ?_
        show Steps p.tables e below (T0.setTop (mkF m 257 #[s0, s1, s2, s3, .val (.long q3), .second, iv p3, s7, s8, s9, s10, s11, s12, s13, s14, s15, s16, .val (.long tt), .second, .val (.int ((p3 &&& (2147483647 : Int32)) % (7 : Int32))), .val (.long tt), .second, .unset] [])) _
        exact kt
      · by_cases hc4 : ((p3 &&& (2147483647 : Int32)) % (7 : Int32)) = (3 : Int32)
        · by_cases hc5 : tt < (9223372036854775807 : Int64)
          · refine ⟨(tt + (1 : Int64)), T0, _, trivial, X0, N0, e0, fun target kt => ?_⟩
            show Steps p.tables e below (T0.setTop (mkF m 149 #[s0, s1, s2, s3, .val (.long q3), .second, iv p3, s7, s8, s9, s10, s11, s12, s13, s14, s15, s16, .val (.long tt), .second, .unset, .unset, .unset, .unset] [])) _
            refine XS.iload X0.here hx rfl (hb hby at_149) rfl ?_
            show Steps p.tables e below (T0.setTop (mkF m 151 #[s0, s1, s2, s3, .val (.long q3), .second, iv p3, s7, s8, s9, s10, s11, s12, s13, s14, s15, s16, .val (.long tt), .second, .unset, .unset, .unset, .unset] [(.int p3)])) _
            refine X0.ldcInt hx hown (mvT hZ (hw _ (own_m 1 rfl))) (g := (mkF m 151 #[s0, s1, s2, s3, .val (.long q3), .second, iv p3, s7, s8, s9, s10, s11, s12, s13, s14, s15, s16, .val (.long tt), .second, .unset, .unset, .unset, .unset] [(.int p3)])) rfl (hb hby at_151) _ ?_
            show Steps p.tables e below (T0.setTop (mkF m 153 #[s0, s1, s2, s3, .val (.long q3), .second, iv p3, s7, s8, s9, s10, s11, s12, s13, s14, s15, s16, .val (.long tt), .second, .unset, .unset, .unset, .unset] [(.int 2147483647), (.int p3)])) _
            refine XS.iand X0.here hx rfl (hb hby at_153) rfl ?_
            show Steps p.tables e below (T0.setTop (mkF m 154 #[s0, s1, s2, s3, .val (.long q3), .second, iv p3, s7, s8, s9, s10, s11, s12, s13, s14, s15, s16, .val (.long tt), .second, .unset, .unset, .unset, .unset] [(.int (p3 &&& (2147483647 : Int32)))])) _
            refine XS.bipush X0.here hx rfl (hb hby at_154) ?_
            show Steps p.tables e below (T0.setTop (mkF m 156 #[s0, s1, s2, s3, .val (.long q3), .second, iv p3, s7, s8, s9, s10, s11, s12, s13, s14, s15, s16, .val (.long tt), .second, .unset, .unset, .unset, .unset] [(.int 7), (.int (p3 &&& (2147483647 : Int32)))])) _
            refine iremM X0 hx rfl (hb hby at_156) rfl (by decide) ?_
            show Steps p.tables e below (T0.setTop (mkF m 157 #[s0, s1, s2, s3, .val (.long q3), .second, iv p3, s7, s8, s9, s10, s11, s12, s13, s14, s15, s16, .val (.long tt), .second, .unset, .unset, .unset, .unset] [(.int ((p3 &&& (2147483647 : Int32)) % (7 : Int32)))])) _
            refine XS.istore X0.here hx rfl (hb hby at_157) rfl (l' := #[s0, s1, s2, s3, .val (.long q3), .second, iv p3, s7, s8, s9, s10, s11, s12, s13, s14, s15, s16, .val (.long tt), .second, .val (.int ((p3 &&& (2147483647 : Int32)) % (7 : Int32))), .unset, .unset, .unset]) rfl ?_
            show Steps p.tables e below (T0.setTop (mkF m 159 #[s0, s1, s2, s3, .val (.long q3), .second, iv p3, s7, s8, s9, s10, s11, s12, s13, s14, s15, s16, .val (.long tt), .second, .val (.int ((p3 &&& (2147483647 : Int32)) % (7 : Int32))), .unset, .unset, .unset] [])) _
            refine XS.iload X0.here hx rfl (hb hby at_159) rfl ?_
            show Steps p.tables e below (T0.setTop (mkF m 161 #[s0, s1, s2, s3, .val (.long q3), .second, iv p3, s7, s8, s9, s10, s11, s12, s13, s14, s15, s16, .val (.long tt), .second, .val (.int ((p3 &&& (2147483647 : Int32)) % (7 : Int32))), .unset, .unset, .unset] [(.int ((p3 &&& (2147483647 : Int32)) % (7 : Int32)))])) _
            refine XS.ifYes X0.here hx rfl (pc0 := 161) (pc' := 171) rfl (hb hby at_161) rfl ((if0 _ _).trans (feq hc1).2) (by decide) (by decide) ?_
            show Steps p.tables e below (T0.setTop (mkF m 171 #[s0, s1, s2, s3, .val (.long q3), .second, iv p3, s7, s8, s9, s10, s11, s12, s13, s14, s15, s16, .val (.long tt), .second, .val (.int ((p3 &&& (2147483647 : Int32)) % (7 : Int32))), .unset, .unset, .unset] [])) _
            refine XS.iload X0.here hx rfl (hb hby at_171) rfl ?_
            show Steps p.tables e below (T0.setTop (mkF m 173 #[s0, s1, s2, s3, .val (.long q3), .second, iv p3, s7, s8, s9, s10, s11, s12, s13, s14, s15, s16, .val (.long tt), .second, .val (.int ((p3 &&& (2147483647 : Int32)) % (7 : Int32))), .unset, .unset, .unset] [(.int ((p3 &&& (2147483647 : Int32)) % (7 : Int32)))])) _
            refine XS.iconst X0.here hx rfl (hb hby at_173) ?_
            show Steps p.tables e below (T0.setTop (mkF m 174 #[s0, s1, s2, s3, .val (.long q3), .second, iv p3, s7, s8, s9, s10, s11, s12, s13, s14, s15, s16, .val (.long tt), .second, .val (.int ((p3 &&& (2147483647 : Int32)) % (7 : Int32))), .unset, .unset, .unset] [(.int 1), (.int ((p3 &&& (2147483647 : Int32)) % (7 : Int32)))])) _
            refine XS.icmpYes X0.here hx rfl (pc0 := 174) (pc' := 186) rfl (hb hby at_174) rfl (feq hc2).2 (by decide) (by decide) ?_
            show Steps p.tables e below (T0.setTop (mkF m 186 #[s0, s1, s2, s3, .val (.long q3), .second, iv p3, s7, s8, s9, s10, s11, s12, s13, s14, s15, s16, .val (.long tt), .second, .val (.int ((p3 &&& (2147483647 : Int32)) % (7 : Int32))), .unset, .unset, .unset] [])) _
            refine XS.iload X0.here hx rfl (hb hby at_186) rfl ?_
            show Steps p.tables e below (T0.setTop (mkF m 188 #[s0, s1, s2, s3, .val (.long q3), .second, iv p3, s7, s8, s9, s10, s11, s12, s13, s14, s15, s16, .val (.long tt), .second, .val (.int ((p3 &&& (2147483647 : Int32)) % (7 : Int32))), .unset, .unset, .unset] [(.int ((p3 &&& (2147483647 : Int32)) % (7 : Int32)))])) _
            refine XS.iconst X0.here hx rfl (hb hby at_188) ?_
            show Steps p.tables e below (T0.setTop (mkF m 189 #[s0, s1, s2, s3, .val (.long q3), .second, iv p3, s7, s8, s9, s10, s11, s12, s13, s14, s15, s16, .val (.long tt), .second, .val (.int ((p3 &&& (2147483647 : Int32)) % (7 : Int32))), .unset, .unset, .unset] [(.int 2), (.int ((p3 &&& (2147483647 : Int32)) % (7 : Int32)))])) _
            refine XS.icmpYes X0.here hx rfl (pc0 := 189) (pc' := 199) rfl (hb hby at_189) rfl (feq hc3).2 (by decide) (by decide) ?_
            show Steps p.tables e below (T0.setTop (mkF m 199 #[s0, s1, s2, s3, .val (.long q3), .second, iv p3, s7, s8, s9, s10, s11, s12, s13, s14, s15, s16, .val (.long tt), .second, .val (.int ((p3 &&& (2147483647 : Int32)) % (7 : Int32))), .unset, .unset, .unset] [])) _
            refine XS.iload X0.here hx rfl (hb hby at_199) rfl ?_
            show Steps p.tables e below (T0.setTop (mkF m 201 #[s0, s1, s2, s3, .val (.long q3), .second, iv p3, s7, s8, s9, s10, s11, s12, s13, s14, s15, s16, .val (.long tt), .second, .val (.int ((p3 &&& (2147483647 : Int32)) % (7 : Int32))), .unset, .unset, .unset] [(.int ((p3 &&& (2147483647 : Int32)) % (7 : Int32)))])) _
            refine XS.iconst X0.here hx rfl (hb hby at_201) ?_
            show Steps p.tables e below (T0.setTop (mkF m 202 #[s0, s1, s2, s3, .val (.long q3), .second, iv p3, s7, s8, s9, s10, s11, s12, s13, s14, s15, s16, .val (.long tt), .second, .val (.int ((p3 &&& (2147483647 : Int32)) % (7 : Int32))), .unset, .unset, .unset] [(.int 3), (.int ((p3 &&& (2147483647 : Int32)) % (7 : Int32)))])) _
            refine XS.icmpNo X0.here hx rfl (hb hby at_202) rfl (teq hc4).2 ?_
            show Steps p.tables e below (T0.setTop (mkF m 205 #[s0, s1, s2, s3, .val (.long q3), .second, iv p3, s7, s8, s9, s10, s11, s12, s13, s14, s15, s16, .val (.long tt), .second, .val (.int ((p3 &&& (2147483647 : Int32)) % (7 : Int32))), .unset, .unset, .unset] [])) _
            refine XS.lload X0.here hx rfl (hb hby at_205) rfl ?_
            show Steps p.tables e below (T0.setTop (mkF m 207 #[s0, s1, s2, s3, .val (.long q3), .second, iv p3, s7, s8, s9, s10, s11, s12, s13, s14, s15, s16, .val (.long tt), .second, .val (.int ((p3 &&& (2147483647 : Int32)) % (7 : Int32))), .unset, .unset, .unset] [(.long tt)])) _
            refine X0.ldc2Long hx hown (mvT hZ (hw _ (own_m 0 rfl))) (g := (mkF m 207 #[s0, s1, s2, s3, .val (.long q3), .second, iv p3, s7, s8, s9, s10, s11, s12, s13, s14, s15, s16, .val (.long tt), .second, .val (.int ((p3 &&& (2147483647 : Int32)) % (7 : Int32))), .unset, .unset, .unset] [(.long tt)])) rfl (hb hby at_207) _ ?_
            show Steps p.tables e below (T0.setTop (mkF m 210 #[s0, s1, s2, s3, .val (.long q3), .second, iv p3, s7, s8, s9, s10, s11, s12, s13, s14, s15, s16, .val (.long tt), .second, .val (.int ((p3 &&& (2147483647 : Int32)) % (7 : Int32))), .unset, .unset, .unset] [(.long 9223372036854775807), (.long tt)])) _
            refine XS.lcmp X0.here hx rfl (hb hby at_210) rfl ?_
            show Steps p.tables e below (T0.setTop (mkF m 211 #[s0, s1, s2, s3, .val (.long q3), .second, iv p3, s7, s8, s9, s10, s11, s12, s13, s14, s15, s16, .val (.long tt), .second, .val (.int ((p3 &&& (2147483647 : Int32)) % (7 : Int32))), .unset, .unset, .unset] [(.int (lcmpW tt (9223372036854775807 : Int64)))])) _
            refine XS.ifNo X0.here hx rfl (hb hby at_211) rfl ((if0 _ _).trans (tlt ((lw_lt _ _).mpr hc5)).2.1) ?_
            show Steps p.tables e below (T0.setTop (mkF m 214 #[s0, s1, s2, s3, .val (.long q3), .second, iv p3, s7, s8, s9, s10, s11, s12, s13, s14, s15, s16, .val (.long tt), .second, .val (.int ((p3 &&& (2147483647 : Int32)) % (7 : Int32))), .unset, .unset, .unset] [])) _
            refine XS.lload X0.here hx rfl (hb hby at_214) rfl ?_
            show Steps p.tables e below (T0.setTop (mkF m 216 #[s0, s1, s2, s3, .val (.long q3), .second, iv p3, s7, s8, s9, s10, s11, s12, s13, s14, s15, s16, .val (.long tt), .second, .val (.int ((p3 &&& (2147483647 : Int32)) % (7 : Int32))), .unset, .unset, .unset] [(.long tt)])) _
            refine XS.lconst X0.here hx rfl (hb hby at_216) ?_
            show Steps p.tables e below (T0.setTop (mkF m 217 #[s0, s1, s2, s3, .val (.long q3), .second, iv p3, s7, s8, s9, s10, s11, s12, s13, s14, s15, s16, .val (.long tt), .second, .val (.int ((p3 &&& (2147483647 : Int32)) % (7 : Int32))), .unset, .unset, .unset] [(.long 1), (.long tt)])) _
            refine XS.ladd X0.here hx rfl (hb hby at_217) rfl ?_
            show Steps p.tables e below (T0.setTop (mkF m 218 #[s0, s1, s2, s3, .val (.long q3), .second, iv p3, s7, s8, s9, s10, s11, s12, s13, s14, s15, s16, .val (.long tt), .second, .val (.int ((p3 &&& (2147483647 : Int32)) % (7 : Int32))), .unset, .unset, .unset] [(.long (tt + (1 : Int64)))])) _
            refine XS.goto X0.here hx rfl (pc0 := 218) (pc' := 223) rfl (hb hby at_218) (by decide) (by decide) ?_
            show Steps p.tables e below (T0.setTop (mkF m 223 #[s0, s1, s2, s3, .val (.long q3), .second, iv p3, s7, s8, s9, s10, s11, s12, s13, s14, s15, s16, .val (.long tt), .second, .val (.int ((p3 &&& (2147483647 : Int32)) % (7 : Int32))), .unset, .unset, .unset] [(.long (tt + (1 : Int64)))])) _
            refine XS.lstore X0.here hx rfl (hb hby at_223) rfl (l' := #[s0, s1, s2, s3, .val (.long q3), .second, iv p3, s7, s8, s9, s10, s11, s12, s13, s14, s15, s16, .val (.long tt), .second, .val (.int ((p3 &&& (2147483647 : Int32)) % (7 : Int32))), .val (.long (tt + (1 : Int64))), .second, .unset]) rfl ?_
            show Steps p.tables e below (T0.setTop (mkF m 225 #[s0, s1, s2, s3, .val (.long q3), .second, iv p3, s7, s8, s9, s10, s11, s12, s13, s14, s15, s16, .val (.long tt), .second, .val (.int ((p3 &&& (2147483647 : Int32)) % (7 : Int32))), .val (.long (tt + (1 : Int64))), .second, .unset] [])) _
            refine XS.goto X0.here hx rfl (pc0 := 225) (pc' := 257) rfl (hb hby at_225) (by decide) (by decide) ?_
            show Steps p.tables e below (T0.setTop (mkF m 257 #[s0, s1, s2, s3, .val (.long q3), .second, iv p3, s7, s8, s9, s10, s11, s12, s13, s14, s15, s16, .val (.long tt), .second, .val (.int ((p3 &&& (2147483647 : Int32)) % (7 : Int32))), .val (.long (tt + (1 : Int64))), .second, .unset] [])) _
            exact kt
          · refine ⟨q3, T0, _, trivial, X0, N0, e0, fun target kt => ?_⟩
            show Steps p.tables e below (T0.setTop (mkF m 149 #[s0, s1, s2, s3, .val (.long q3), .second, iv p3, s7, s8, s9, s10, s11, s12, s13, s14, s15, s16, .val (.long tt), .second, .unset, .unset, .unset, .unset] [])) _
            refine XS.iload X0.here hx rfl (hb hby at_149) rfl ?_
            show Steps p.tables e below (T0.setTop (mkF m 151 #[s0, s1, s2, s3, .val (.long q3), .second, iv p3, s7, s8, s9, s10, s11, s12, s13, s14, s15, s16, .val (.long tt), .second, .unset, .unset, .unset, .unset] [(.int p3)])) _
            refine X0.ldcInt hx hown (mvT hZ (hw _ (own_m 1 rfl))) (g := (mkF m 151 #[s0, s1, s2, s3, .val (.long q3), .second, iv p3, s7, s8, s9, s10, s11, s12, s13, s14, s15, s16, .val (.long tt), .second, .unset, .unset, .unset, .unset] [(.int p3)])) rfl (hb hby at_151) _ ?_
            show Steps p.tables e below (T0.setTop (mkF m 153 #[s0, s1, s2, s3, .val (.long q3), .second, iv p3, s7, s8, s9, s10, s11, s12, s13, s14, s15, s16, .val (.long tt), .second, .unset, .unset, .unset, .unset] [(.int 2147483647), (.int p3)])) _
            refine XS.iand X0.here hx rfl (hb hby at_153) rfl ?_
            show Steps p.tables e below (T0.setTop (mkF m 154 #[s0, s1, s2, s3, .val (.long q3), .second, iv p3, s7, s8, s9, s10, s11, s12, s13, s14, s15, s16, .val (.long tt), .second, .unset, .unset, .unset, .unset] [(.int (p3 &&& (2147483647 : Int32)))])) _
            refine XS.bipush X0.here hx rfl (hb hby at_154) ?_
            show Steps p.tables e below (T0.setTop (mkF m 156 #[s0, s1, s2, s3, .val (.long q3), .second, iv p3, s7, s8, s9, s10, s11, s12, s13, s14, s15, s16, .val (.long tt), .second, .unset, .unset, .unset, .unset] [(.int 7), (.int (p3 &&& (2147483647 : Int32)))])) _
            refine iremM X0 hx rfl (hb hby at_156) rfl (by decide) ?_
            show Steps p.tables e below (T0.setTop (mkF m 157 #[s0, s1, s2, s3, .val (.long q3), .second, iv p3, s7, s8, s9, s10, s11, s12, s13, s14, s15, s16, .val (.long tt), .second, .unset, .unset, .unset, .unset] [(.int ((p3 &&& (2147483647 : Int32)) % (7 : Int32)))])) _
            refine XS.istore X0.here hx rfl (hb hby at_157) rfl (l' := #[s0, s1, s2, s3, .val (.long q3), .second, iv p3, s7, s8, s9, s10, s11, s12, s13, s14, s15, s16, .val (.long tt), .second, .val (.int ((p3 &&& (2147483647 : Int32)) % (7 : Int32))), .unset, .unset, .unset]) rfl ?_
            show Steps p.tables e below (T0.setTop (mkF m 159 #[s0, s1, s2, s3, .val (.long q3), .second, iv p3, s7, s8, s9, s10, s11, s12, s13, s14, s15, s16, .val (.long tt), .second, .val (.int ((p3 &&& (2147483647 : Int32)) % (7 : Int32))), .unset, .unset, .unset] [])) _
            refine XS.iload X0.here hx rfl (hb hby at_159) rfl ?_
            show Steps p.tables e below (T0.setTop (mkF m 161 #[s0, s1, s2, s3, .val (.long q3), .second, iv p3, s7, s8, s9, s10, s11, s12, s13, s14, s15, s16, .val (.long tt), .second, .val (.int ((p3 &&& (2147483647 : Int32)) % (7 : Int32))), .unset, .unset, .unset] [(.int ((p3 &&& (2147483647 : Int32)) % (7 : Int32)))])) _
            refine XS.ifYes X0.here hx rfl (pc0 := 161) (pc' := 171) rfl (hb hby at_161) rfl ((if0 _ _).trans (feq hc1).2) (by decide) (by decide) ?_
            show Steps p.tables e below (T0.setTop (mkF m 171 #[s0, s1, s2, s3, .val (.long q3), .second, iv p3, s7, s8, s9, s10, s11, s12, s13, s14, s15, s16, .val (.long tt), .second, .val (.int ((p3 &&& (2147483647 : Int32)) % (7 : Int32))), .unset, .unset, .unset] [])) _
            refine XS.iload X0.here hx rfl (hb hby at_171) rfl ?_
            show Steps p.tables e below (T0.setTop (mkF m 173 #[s0, s1, s2, s3, .val (.long q3), .second, iv p3, s7, s8, s9, s10, s11, s12, s13, s14, s15, s16, .val (.long tt), .second, .val (.int ((p3 &&& (2147483647 : Int32)) % (7 : Int32))), .unset, .unset, .unset] [(.int ((p3 &&& (2147483647 : Int32)) % (7 : Int32)))])) _
            refine XS.iconst X0.here hx rfl (hb hby at_173) ?_
            show Steps p.tables e below (T0.setTop (mkF m 174 #[s0, s1, s2, s3, .val (.long q3), .second, iv p3, s7, s8, s9, s10, s11, s12, s13, s14, s15, s16, .val (.long tt), .second, .val (.int ((p3 &&& (2147483647 : Int32)) % (7 : Int32))), .unset, .unset, .unset] [(.int 1), (.int ((p3 &&& (2147483647 : Int32)) % (7 : Int32)))])) _
            refine XS.icmpYes X0.here hx rfl (pc0 := 174) (pc' := 186) rfl (hb hby at_174) rfl (feq hc2).2 (by decide) (by decide) ?_
            show Steps p.tables e below (T0.setTop (mkF m 186 #[s0, s1, s2, s3, .val (.long q3), .second, iv p3, s7, s8, s9, s10, s11, s12, s13, s14, s15, s16, .val (.long tt), .second, .val (.int ((p3 &&& (2147483647 : Int32)) % (7 : Int32))), .unset, .unset, .unset] [])) _
            refine XS.iload X0.here hx rfl (hb hby at_186) rfl ?_
            show Steps p.tables e below (T0.setTop (mkF m 188 #[s0, s1, s2, s3, .val (.long q3), .second, iv p3, s7, s8, s9, s10, s11, s12, s13, s14, s15, s16, .val (.long tt), .second, .val (.int ((p3 &&& (2147483647 : Int32)) % (7 : Int32))), .unset, .unset, .unset] [(.int ((p3 &&& (2147483647 : Int32)) % (7 : Int32)))])) _
            refine XS.iconst X0.here hx rfl (hb hby at_188) ?_
            show Steps p.tables e below (T0.setTop (mkF m 189 #[s0, s1, s2, s3, .val (.long q3), .second, iv p3, s7, s8, s9, s10, s11, s12, s13, s14, s15, s16, .val (.long tt), .second, .val (.int ((p3 &&& (2147483647 : Int32)) % (7 : Int32))), .unset, .unset, .unset] [(.int 2), (.int ((p3 &&& (2147483647 : Int32)) % (7 : Int32)))])) _
            refine XS.icmpYes X0.here hx rfl (pc0 := 189) (pc' := 199) rfl (hb hby at_189) rfl (feq hc3).2 (by decide) (by decide) ?_
            show Steps p.tables e below (T0.setTop (mkF m 199 #[s0, s1, s2, s3, .val (.long q3), .second, iv p3, s7, s8, s9, s10, s11, s12, s13, s14, s15, s16, .val (.long tt), .second, .val (.int ((p3 &&& (2147483647 : Int32)) % (7 : Int32))), .unset, .unset, .unset] [])) _
            refine XS.iload X0.here hx rfl (hb hby at_199) rfl ?_
            show Steps p.tables e below (T0.setTop (mkF m 201 #[s0, s1, s2, s3, .val (.long q3), .second, iv p3, s7, s8, s9, s10, s11, s12, s13, s14, s15, s16, .val (.long tt), .second, .val (.int ((p3 &&& (2147483647 : Int32)) % (7 : Int32))), .unset, .unset, .unset] [(.int ((p3 &&& (2147483647 : Int32)) % (7 : Int32)))])) _
            refine XS.iconst X0.here hx rfl (hb hby at_201) ?_
            show Steps p.tables e below (T0.setTop (mkF m 202 #[s0, s1, s2, s3, .val (.long q3), .second, iv p3, s7, s8, s9, s10, s11, s12, s13, s14, s15, s16, .val (.long tt), .second, .val (.int ((p3 &&& (2147483647 : Int32)) % (7 : Int32))), .unset, .unset, .unset] [(.int 3), (.int ((p3 &&& (2147483647 : Int32)) % (7 : Int32)))])) _
            refine XS.icmpNo X0.here hx rfl (hb hby at_202) rfl (teq hc4).2 ?_
            show Steps p.tables e below (T0.setTop (mkF m 205 #[s0, s1, s2, s3, .val (.long q3), .second, iv p3, s7, s8, s9, s10, s11, s12, s13, s14, s15, s16, .val (.long tt), .second, .val (.int ((p3 &&& (2147483647 : Int32)) % (7 : Int32))), .unset, .unset, .unset] [])) _
            refine XS.lload X0.here hx rfl (hb hby at_205) rfl ?_
            show Steps p.tables e below (T0.setTop (mkF m 207 #[s0, s1, s2, s3, .val (.long q3), .second, iv p3, s7, s8, s9, s10, s11, s12, s13, s14, s15, s16, .val (.long tt), .second, .val (.int ((p3 &&& (2147483647 : Int32)) % (7 : Int32))), .unset, .unset, .unset] [(.long tt)])) _
            refine X0.ldc2Long hx hown (mvT hZ (hw _ (own_m 0 rfl))) (g := (mkF m 207 #[s0, s1, s2, s3, .val (.long q3), .second, iv p3, s7, s8, s9, s10, s11, s12, s13, s14, s15, s16, .val (.long tt), .second, .val (.int ((p3 &&& (2147483647 : Int32)) % (7 : Int32))), .unset, .unset, .unset] [(.long tt)])) rfl (hb hby at_207) _ ?_
            show Steps p.tables e below (T0.setTop (mkF m 210 #[s0, s1, s2, s3, .val (.long q3), .second, iv p3, s7, s8, s9, s10, s11, s12, s13, s14, s15, s16, .val (.long tt), .second, .val (.int ((p3 &&& (2147483647 : Int32)) % (7 : Int32))), .unset, .unset, .unset] [(.long 9223372036854775807), (.long tt)])) _
            refine XS.lcmp X0.here hx rfl (hb hby at_210) rfl ?_
            show Steps p.tables e below (T0.setTop (mkF m 211 #[s0, s1, s2, s3, .val (.long q3), .second, iv p3, s7, s8, s9, s10, s11, s12, s13, s14, s15, s16, .val (.long tt), .second, .val (.int ((p3 &&& (2147483647 : Int32)) % (7 : Int32))), .unset, .unset, .unset] [(.int (lcmpW tt (9223372036854775807 : Int64)))])) _
            refine XS.ifYes X0.here hx rfl (pc0 := 211) (pc' := 221) rfl (hb hby at_211) rfl ((if0 _ _).trans (flt (fun q => hc5 ((lw_lt _ _).mp q))).2.1) (by decide) (by decide) ?_
            show Steps p.tables e below (T0.setTop (mkF m 221 #[s0, s1, s2, s3, .val (.long q3), .second, iv p3, s7, s8, s9, s10, s11, s12, s13, s14, s15, s16, .val (.long tt), .second, .val (.int ((p3 &&& (2147483647 : Int32)) % (7 : Int32))), .unset, .unset, .unset] [])) _
            refine XS.lload X0.here hx rfl (hb hby at_221) rfl ?_
            show Steps p.tables e below (T0.setTop (mkF m 223 #[s0, s1, s2, s3, .val (.long q3), .second, iv p3, s7, s8, s9, s10, s11, s12, s13, s14, s15, s16, .val (.long tt), .second, .val (.int ((p3 &&& (2147483647 : Int32)) % (7 : Int32))), .unset, .unset, .unset] [(.long q3)])) _
            refine XS.lstore X0.here hx rfl (hb hby at_223) rfl (l' := #[s0, s1, s2, s3, .val (.long q3), .second, iv p3, s7, s8, s9, s10, s11, s12, s13, s14, s15, s16, .val (.long tt), .second, .val (.int ((p3 &&& (2147483647 : Int32)) % (7 : Int32))), .val (.long q3), .second, .unset]) rfl ?_
            show Steps p.tables e below (T0.setTop (mkF m 225 #[s0, s1, s2, s3, .val (.long q3), .second, iv p3, s7, s8, s9, s10, s11, s12, s13, s14, s15, s16, .val (.long tt), .second, .val (.int ((p3 &&& (2147483647 : Int32)) % (7 : Int32))), .val (.long q3), .second, .unset] [])) _
            refine XS.goto X0.here hx rfl (pc0 := 225) (pc' := 257) rfl (hb hby at_225) (by decide) (by decide) ?_
            show Steps p.tables e below (T0.setTop (mkF m 257 #[s0, s1, s2, s3, .val (.long q3), .second, iv p3, s7, s8, s9, s10, s11, s12, s13, s14, s15, s16, .val (.long tt), .second, .val (.int ((p3 &&& (2147483647 : Int32)) % (7 : Int32))), .val (.long q3), .second, .unset] [])) _
            exact kt
        · by_cases hc6 : ((p3 &&& (2147483647 : Int32)) % (7 : Int32)) = (4 : Int32)
          · refine ⟨(0 : Int64), T0, _, trivial, X0, N0, e0, fun target kt => ?_⟩
            show Steps p.tables e below (T0.setTop (mkF m 149 #[s0, s1, s2, s3, .val (.long q3), .second, iv p3, s7, s8, s9, s10, s11, s12, s13, s14, s15, s16, .val (.long tt), .second, .unset, .unset, .unset, .unset] [])) _
            refine XS.iload X0.here hx rfl (hb hby at_149) rfl ?_
            show Steps p.tables e below (T0.setTop (mkF m 151 #[s0, s1, s2, s3, .val (.long q3), .second, iv p3, s7, s8, s9, s10, s11, s12, s13, s14, s15, s16, .val (.long tt), .second, .unset, .unset, .unset, .unset] [(.int p3)])) _
            refine X0.ldcInt hx hown (mvT hZ (hw _ (own_m 1 rfl))) (g := (mkF m 151 #[s0, s1, s2, s3, .val (.long q3), .second, iv p3, s7, s8, s9, s10, s11, s12, s13, s14, s15, s16, .val (.long tt), .second, .unset, .unset, .unset, .unset] [(.int p3)])) rfl (hb hby at_151) _ ?_
            show Steps p.tables e below (T0.setTop (mkF m 153 #[s0, s1, s2, s3, .val (.long q3), .second, iv p3, s7, s8, s9, s10, s11, s12, s13, s14, s15, s16, .val (.long tt), .second, .unset, .unset, .unset, .unset] [(.int 2147483647), (.int p3)])) _
            refine XS.iand X0.here hx rfl (hb hby at_153) rfl ?_
            show Steps p.tables e below (T0.setTop (mkF m 154 #[s0, s1, s2, s3, .val (.long q3), .second, iv p3, s7, s8, s9, s10, s11, s12, s13, s14, s15, s16, .val (.long tt), .second, .unset, .unset, .unset, .unset] [(.int (p3 &&& (2147483647 : Int32)))])) _
            refine XS.bipush X0.here hx rfl (hb hby at_154) ?_
            show Steps p.tables e below (T0.setTop (mkF m 156 #[s0, s1, s2, s3, .val (.long q3), .second, iv p3, s7, s8, s9, s10, s11, s12, s13, s14, s15, s16, .val (.long tt), .second, .unset, .unset, .unset, .unset] [(.int 7), (.int (p3 &&& (2147483647 : Int32)))])) _
            refine iremM X0 hx rfl (hb hby at_156) rfl (by decide) ?_
            show Steps p.tables e below (T0.setTop (mkF m 157 #[s0, s1, s2, s3, .val (.long q3), .second, iv p3, s7, s8, s9, s10, s11, s12, s13, s14, s15, s16, .val (.long tt), .second, .unset, .unset, .unset, .unset] [(.int ((p3 &&& (2147483647 : Int32)) % (7 : Int32)))])) _
            refine XS.istore X0.here hx rfl (hb hby at_157) rfl (l' := #[s0, s1, s2, s3, .val (.long q3), .second, iv p3, s7, s8, s9, s10, s11, s12, s13, s14, s15, s16, .val (.long tt), .second, .val (.int ((p3 &&& (2147483647 : Int32)) % (7 : Int32))), .unset, .unset, .unset]) rfl ?_
            show Steps p.tables e below (T0.setTop (mkF m 159 #[s0, s1, s2, s3, .val (.long q3), .second, iv p3, s7, s8, s9, s10, s11, s12, s13, s14, s15, s16, .val (.long tt), .second, .val (.int ((p3 &&& (2147483647 : Int32)) % (7 : Int32))), .unset, .unset, .unset] [])) _
            refine XS.iload X0.here hx rfl (hb hby at_159) rfl ?_
            show Steps p.tables e below (T0.setTop (mkF m 161 #[s0, s1, s2, s3, .val (.long q3), .second, iv p3, s7, s8, s9, s10, s11, s12, s13, s14, s15, s16, .val (.long tt), .second, .val (.int ((p3 &&& (2147483647 : Int32)) % (7 : Int32))), .unset, .unset, .unset] [(.int ((p3 &&& (2147483647 : Int32)) % (7 : Int32)))])) _
            refine XS.ifYes X0.here hx rfl (pc0 := 161) (pc' := 171) rfl (hb hby at_161) rfl ((if0 _ _).trans (feq hc1).2) (by decide) (by decide) ?_
            show Steps p.tables e below (T0.setTop (mkF m 171 #[s0, s1, s2, s3, .val (.long q3), .second, iv p3, s7, s8, s9, s10, s11, s12, s13, s14, s15, s16, .val (.long tt), .second, .val (.int ((p3 &&& (2147483647 : Int32)) % (7 : Int32))), .unset, .unset, .unset] [])) _
            refine XS.iload X0.here hx rfl (hb hby at_171) rfl ?_
            show Steps p.tables e below (T0.setTop (mkF m 173 #[s0, s1, s2, s3, .val (.long q3), .second, iv p3, s7, s8, s9, s10, s11, s12, s13, s14, s15, s16, .val (.long tt), .second, .val (.int ((p3 &&& (2147483647 : Int32)) % (7 : Int32))), .unset, .unset, .unset] [(.int ((p3 &&& (2147483647 : Int32)) % (7 : Int32)))])) _
            refine XS.iconst X0.here hx rfl (hb hby at_173) ?_
            show Steps p.tables e below (T0.setTop (mkF m 174 #[s0, s1, s2, s3, .val (.long q3), .second, iv p3, s7, s8, s9, s10, s11, s12, s13, s14, s15, s16, .val (.long tt), .second, .val (.int ((p3 &&& (2147483647 : Int32)) % (7 : Int32))), .unset, .unset, .unset] [(.int 1), (.int ((p3 &&& (2147483647 : Int32)) % (7 : Int32)))])) _
            refine XS.icmpYes X0.here hx rfl (pc0 := 174) (pc' := 186) rfl (hb hby at_174) rfl (feq hc2).2 (by decide) (by decide) ?_
            show Steps p.tables e below (T0.setTop (mkF m 186 #[s0, s1, s2, s3, .val (.long q3), .second, iv p3, s7, s8, s9, s10, s11, s12, s13, s14, s15, s16, .val (.long tt), .second, .val (.int ((p3 &&& (2147483647 : Int32)) % (7 : Int32))), .unset, .unset, .unset] [])) _
            refine XS.iload X0.here hx rfl (hb hby at_186) rfl ?_
            show Steps p.tables e below (T0.setTop (mkF m 188 #[s0, s1, s2, s3, .val (.long q3), .second, iv p3, s7, s8, s9, s10, s11, s12, s13, s14, s15, s16, .val (.long tt), .second, .val (.int ((p3 &&& (2147483647 : Int32)) % (7 : Int32))), .unset, .unset, .unset] [(.int ((p3 &&& (2147483647 : Int32)) % (7 : Int32)))])) _
            refine XS.iconst X0.here hx rfl (hb hby at_188) ?_
            show Steps p.tables e below (T0.setTop (mkF m 189 #[s0, s1, s2, s3, .val (.long q3), .second, iv p3, s7, s8, s9, s10, s11, s12, s13, s14, s15, s16, .val (.long tt), .second, .val (.int ((p3 &&& (2147483647 : Int32)) % (7 : Int32))), .unset, .unset, .unset] [(.int 2), (.int ((p3 &&& (2147483647 : Int32)) % (7 : Int32)))])) _
            refine XS.icmpYes X0.here hx rfl (pc0 := 189) (pc' := 199) rfl (hb hby at_189) rfl (feq hc3).2 (by decide) (by decide) ?_
            show Steps p.tables e below (T0.setTop (mkF m 199 #[s0, s1, s2, s3, .val (.long q3), .second, iv p3, s7, s8, s9, s10, s11, s12, s13, s14, s15, s16, .val (.long tt), .second, .val (.int ((p3 &&& (2147483647 : Int32)) % (7 : Int32))), .unset, .unset, .unset] [])) _
            refine XS.iload X0.here hx rfl (hb hby at_199) rfl ?_
            show Steps p.tables e below (T0.setTop (mkF m 201 #[s0, s1, s2, s3, .val (.long q3), .second, iv p3, s7, s8, s9, s10, s11, s12, s13, s14, s15, s16, .val (.long tt), .second, .val (.int ((p3 &&& (2147483647 : Int32)) % (7 : Int32))), .unset, .unset, .unset] [(.int ((p3 &&& (2147483647 : Int32)) % (7 : Int32)))])) _
            refine XS.iconst X0.here hx rfl (hb hby at_201) ?_
            show Steps p.tables e below (T0.setTop (mkF m 202 #[s0, s1, s2, s3, .val (.long q3), .second, iv p3, s7, s8, s9, s10, s11, s12, s13, s14, s15, s16, .val (.long tt), .second, .val (.int ((p3 &&& (2147483647 : Int32)) % (7 : Int32))), .unset, .unset, .unset] [(.int 3), (.int ((p3 &&& (2147483647 : Int32)) % (7 : Int32)))])) _
            refine XS.icmpYes X0.here hx rfl (pc0 := 202) (pc' := 228) rfl (hb hby at_202) rfl (feq hc4).2 (by decide) (by decide) ?_
            show Steps p.tables e below (T0.setTop (mkF m 228 #[s0, s1, s2, s3, .val (.long q3), .second, iv p3, s7, s8, s9, s10, s11, s12, s13, s14, s15, s16, .val (.long tt), .second, .val (.int ((p3 &&& (2147483647 : Int32)) % (7 : Int32))), .unset, .unset, .unset] [])) _
            refine XS.iload X0.here hx rfl (hb hby at_228) rfl ?_
            show Steps p.tables e below (T0.setTop (mkF m 230 #[s0, s1, s2, s3, .val (.long q3), .second, iv p3, s7, s8, s9, s10, s11, s12, s13, s14, s15, s16, .val (.long tt), .second, .val (.int ((p3 &&& (2147483647 : Int32)) % (7 : Int32))), .unset, .unset, .unset] [(.int ((p3 &&& (2147483647 : Int32)) % (7 : Int32)))])) _
            refine XS.iconst X0.here hx rfl (hb hby at_230) ?_
            show Steps p.tables e below (T0.setTop (mkF m 231 #[s0, s1, s2, s3, .val (.long q3), .second, iv p3, s7, s8, s9, s10, s11, s12, s13, s14, s15, s16, .val (.long tt), .second, .val (.int ((p3 &&& (2147483647 : Int32)) % (7 : Int32))), .unset, .unset, .unset] [(.int 4), (.int ((p3 &&& (2147483647 : Int32)) % (7 : Int32)))])) _
            refine XS.icmpNo X0.here hx rfl (hb hby at_231) rfl (teq hc6).2 ?_
            show Steps p.tables e below (T0.setTop (mkF m 234 #[s0, s1, s2, s3, .val (.long q3), .second, iv p3, s7, s8, s9, s10, s11, s12, s13, s14, s15, s16, .val (.long tt), .second, .val (.int ((p3 &&& (2147483647 : Int32)) % (7 : Int32))), .unset, .unset, .unset] [])) _
            refine XS.lconst X0.here hx rfl (hb hby at_234) ?_
            show Steps p.tables e below (T0.setTop (mkF m 235 #[s0, s1, s2, s3, .val (.long q3), .second, iv p3, s7, s8, s9, s10, s11, s12, s13, s14, s15, s16, .val (.long tt), .second, .val (.int ((p3 &&& (2147483647 : Int32)) % (7 : Int32))), .unset, .unset, .unset] [(.long 0)])) _
            refine XS.lstore X0.here hx rfl (hb hby at_235) rfl (l' := #[s0, s1, s2, s3, .val (.long q3), .second, iv p3, s7, s8, s9, s10, s11, s12, s13, s14, s15, s16, .val (.long tt), .second, .val (.int ((p3 &&& (2147483647 : Int32)) % (7 : Int32))), .val (.long 0), .second, .unset]) rfl ?_
            show Steps p.tables e below (T0.setTop (mkF m 237 #[s0, s1, s2, s3, .val (.long q3), .second, iv p3, s7, s8, s9, s10, s11, s12, s13, s14, s15, s16, .val (.long tt), .second, .val (.int ((p3 &&& (2147483647 : Int32)) % (7 : Int32))), .val (.long 0), .second, .unset] [])) _
            refine XS.goto X0.here hx rfl (pc0 := 237) (pc' := 257) rfl (hb hby at_237) (by decide) (by decide) ?_
            show Steps p.tables e below (T0.setTop (mkF m 257 #[s0, s1, s2, s3, .val (.long q3), .second, iv p3, s7, s8, s9, s10, s11, s12, s13, s14, s15, s16, .val (.long tt), .second, .val (.int ((p3 &&& (2147483647 : Int32)) % (7 : Int32))), .val (.long 0), .second, .unset] [])) _
            exact kt
          · by_cases hc7 : ((p3 &&& (2147483647 : Int32)) % (7 : Int32)) = (5 : Int32)
            · refine ⟨(-1 : Int64), T0, _, trivial, X0, N0, e0, fun target kt => ?_⟩
              show Steps p.tables e below (T0.setTop (mkF m 149 #[s0, s1, s2, s3, .val (.long q3), .second, iv p3, s7, s8, s9, s10, s11, s12, s13, s14, s15, s16, .val (.long tt), .second, .unset, .unset, .unset, .unset] [])) _
              refine XS.iload X0.here hx rfl (hb hby at_149) rfl ?_
              show Steps p.tables e below (T0.setTop (mkF m 151 #[s0, s1, s2, s3, .val (.long q3), .second, iv p3, s7, s8, s9, s10, s11, s12, s13, s14, s15, s16, .val (.long tt), .second, .unset, .unset, .unset, .unset] [(.int p3)])) _
              refine X0.ldcInt hx hown (mvT hZ (hw _ (own_m 1 rfl))) (g := (mkF m 151 #[s0, s1, s2, s3, .val (.long q3), .second, iv p3, s7, s8, s9, s10, s11, s12, s13, s14, s15, s16, .val (.long tt), .second, .unset, .unset, .unset, .unset] [(.int p3)])) rfl (hb hby at_151) _ ?_
              show Steps p.tables e below (T0.setTop (mkF m 153 #[s0, s1, s2, s3, .val (.long q3), .second, iv p3, s7, s8, s9, s10, s11, s12, s13, s14, s15, s16, .val (.long tt), .second, .unset, .unset, .unset, .unset] [(.int 2147483647), (.int p3)])) _
              refine XS.iand X0.here hx rfl (hb hby at_153) rfl ?_
              show Steps p.tables e below (T0.setTop (mkF m 154 #[s0, s1, s2, s3, .val (.long q3), .second, iv p3, s7, s8, s9, s10, s11, s12, s13, s14, s15, s16, .val (.long tt), .second, .unset, .unset, .unset, .unset] [(.int (p3 &&& (2147483647 : Int32)))])) _
              refine XS.bipush X0.here hx rfl (hb hby at_154) ?_
              show Steps p.tables e below (T0.setTop (mkF m 156 #[s0, s1, s2, s3, .val (.long q3), .second, iv p3, s7, s8, s9, s10, s11, s12, s13, s14, s15, s16, .val (.long tt), .second, .unset, .unset, .unset, .unset] [(.int 7), (.int (p3 &&& (2147483647 : Int32)))])) _
              refine iremM X0 hx rfl (hb hby at_156) rfl (by decide) ?_
              show Steps p.tables e below (T0.setTop (mkF m 157 #[s0, s1, s2, s3, .val (.long q3), .second, iv p3, s7, s8, s9, s10, s11, s12, s13, s14, s15, s16, .val (.long tt), .second, .unset, .unset, .unset, .unset] [(.int ((p3 &&& (2147483647 : Int32)) % (7 : Int32)))])) _
              refine XS.istore X0.here hx rfl (hb hby at_157) rfl (l' := #[s0, s1, s2, s3, .val (.long q3), .second, iv p3, s7, s8, s9, s10, s11, s12, s13, s14, s15, s16, .val (.long tt), .second, .val (.int ((p3 &&& (2147483647 : Int32)) % (7 : Int32))), .unset, .unset, .unset]) rfl ?_
              show Steps p.tables e below (T0.setTop (mkF m 159 #[s0, s1, s2, s3, .val (.long q3), .second, iv p3, s7, s8, s9, s10, s11, s12, s13, s14, s15, s16, .val (.long tt), .second, .val (.int ((p3 &&& (2147483647 : Int32)) % (7 : Int32))), .unset, .unset, .unset] [])) _
              refine XS.iload X0.here hx rfl (hb hby at_159) rfl ?_
              show Steps p.tables e below (T0.setTop (mkF m 161 #[s0, s1, s2, s3, .val (.long q3), .second, iv p3, s7, s8, s9, s10, s11, s12, s13, s14, s15, s16, .val (.long tt), .second, .val (.int ((p3 &&& (2147483647 : Int32)) % (7 : Int32))), .unset, .unset, .unset] [(.int ((p3 &&& (2147483647 : Int32)) % (7 : Int32)))])) _
              refine XS.ifYes X0.here hx rfl (pc0 := 161) (pc' := 171) rfl (hb hby at_161) rfl ((if0 _ _).trans (feq hc1).2) (by decide) (by decide) ?_
              show Steps p.tables e below (T0.setTop (mkF m 171 #[s0, s1, s2, s3, .val (.long q3), .second, iv p3, s7, s8, s9, s10, s11, s12, s13, s14, s15, s16, .val (.long tt), .second, .val (.int ((p3 &&& (2147483647 : Int32)) % (7 : Int32))), .unset, .unset, .unset] [])) _
              refine XS.iload X0.here hx rfl (hb hby at_171) rfl ?_
              show Steps p.tables e below (T0.setTop (mkF m 173 #[s0, s1, s2, s3, .val (.long q3), .second, iv p3, s7, s8, s9, s10, s11, s12, s13, s14, s15, s16, .val (.long tt), .second, .val (.int ((p3 &&& (2147483647 : Int32)) % (7 : Int32))), .unset, .unset, .unset] [(.int ((p3 &&& (2147483647 : Int32)) % (7 : Int32)))])) _
              refine XS.iconst X0.here hx rfl (hb hby at_173) ?_
              show Steps p.tables e below (T0.setTop (mkF m 174 #[s0, s1, s2, s3, .val (.long q3), .second, iv p3, s7, s8, s9, s10, s11, s12, s13, s14, s15, s16, .val (.long tt), .second, .val (.int ((p3 &&& (2147483647 : Int32)) % (7 : Int32))), .unset, .unset, .unset] [(.int 1), (.int ((p3 &&& (2147483647 : Int32)) % (7 : Int32)))])) _
              refine XS.icmpYes X0.here hx rfl (pc0 := 174) (pc' := 186) rfl (hb hby at_174) rfl (feq hc2).2 (by decide) (by decide) ?_
              show Steps p.tables e below (T0.setTop (mkF m 186 #[s0, s1, s2, s3, .val (.long q3), .second, iv p3, s7, s8, s9, s10, s11, s12, s13, s14, s15, s16, .val (.long tt), .second, .val (.int ((p3 &&& (2147483647 : Int32)) % (7 : Int32))), .unset, .unset, .unset] [])) _
              refine XS.iload X0.here hx rfl (hb hby at_186) rfl ?_
              show Steps p.tables e below (T0.setTop (mkF m 188 #[s0, s1, s2, s3, .val (.long q3), .second, iv p3, s7, s8, s9, s10, s11, s12, s13, s14, s15, s16, .val (.long tt), .second, .val (.int ((p3 &&& (2147483647 : Int32)) % (7 : Int32))), .unset, .unset, .unset] [(.int ((p3 &&& (2147483647 : Int32)) % (7 : Int32)))])) _
              refine XS.iconst X0.here hx rfl (hb hby at_188) ?_
              show Steps p.tables e below (T0.setTop (mkF m 189 #[s0, s1, s2, s3, .val (.long q3), .second, iv p3, s7, s8, s9, s10, s11, s12, s13, s14, s15, s16, .val (.long tt), .second, .val (.int ((p3 &&& (2147483647 : Int32)) % (7 : Int32))), .unset, .unset, .unset] [(.int 2), (.int ((p3 &&& (2147483647 : Int32)) % (7 : Int32)))])) _
              refine XS.icmpYes X0.here hx rfl (pc0 := 189) (pc' := 199) rfl (hb hby at_189) rfl (feq hc3).2 (by decide) (by decide) ?_
              show Steps p.tables e below (T0.setTop (mkF m 199 #[s0, s1, s2, s3, .val (.long q3), .second, iv p3, s7, s8, s9, s10, s11, s12, s13, s14, s15, s16, .val (.long tt), .second, .val (.int ((p3 &&& (2147483647 : Int32)) % (7 : Int32))), .unset, .unset, .unset] [])) _
              refine XS.iload X0.here hx rfl (hb hby at_199) rfl ?_
              show Steps p.tables e below (T0.setTop (mkF m 201 #[s0, s1, s2, s3, .val (.long q3), .second, iv p3, s7, s8, s9, s10, s11, s12, s13, s14, s15, s16, .val (.long tt), .second, .val (.int ((p3 &&& (2147483647 : Int32)) % (7 : Int32))), .unset, .unset, .unset] [(.int ((p3 &&& (2147483647 : Int32)) % (7 : Int32)))])) _
              refine XS.iconst X0.here hx rfl (hb hby at_201) ?_
              show Steps p.tables e below (T0.setTop (mkF m 202 #[s0, s1, s2, s3, .val (.long q3), .second, iv p3, s7, s8, s9, s10, s11, s12, s13, s14, s15, s16, .val (.long tt), .second, .val (.int ((p3 &&& (2147483647 : Int32)) % (7 : Int32))), .unset, .unset, .unset] [(.int 3), (.int ((p3 &&& (2147483647 : Int32)) % (7 : Int32)))])) _
              refine XS.icmpYes X0.here hx rfl (pc0 := 202) (pc' := 228) rfl (hb hby at_202) rfl (feq hc4).2 (by decide) (by decide) ?_
              show Steps p.tables e below (T0.setTop (mkF m 228 #[s0, s1, s2, s3, .val (.long q3), .second, iv p3, s7, s8, s9, s10, s11, s12, s13, s14, s15, s16, .val (.long tt), .second, .val (.int ((p3 &&& (2147483647 : Int32)) % (7 : Int32))), .unset, .unset, .unset] [])) _
              refine XS.iload X0.here hx rfl (hb hby at_228) rfl ?_
              show Steps p.tables e below (T0.setTop (mkF m 230 #[s0, s1, s2, s3, .val (.long q3), .second, iv p3, s7, s8, s9, s10, s11, s12, s13, s14, s15, s16, .val (.long tt), .second, .val (.int ((p3 &&& (2147483647 : Int32)) % (7 : Int32))), .unset, .unset, .unset] [(.int ((p3 &&& (2147483647 : Int32)) % (7 : Int32)))])) _
              refine XS.iconst X0.here hx rfl (hb hby at_230) ?_
              show Steps p.tables e below (T0.setTop (mkF m 231 #[s0, s1, s2, s3, .val (.long q3), .second, iv p3, s7, s8, s9, s10, s11, s12, s13, s14, s15, s16, .val (.long tt), .second, .val (.int ((p3 &&& (2147483647 : Int32)) % (7 : Int32))), .unset, .unset, .unset] [(.int 4), (.int ((p3 &&& (2147483647 : Int32)) % (7 : Int32)))])) _
              refine XS.icmpYes X0.here hx rfl (pc0 := 231) (pc' := 240) rfl (hb hby at_231) rfl (feq hc6).2 (by decide) (by decide) ?_
              show Steps p.tables e below (T0.setTop (mkF m 240 #[s0, s1, s2, s3, .val (.long q3), .second, iv p3, s7, s8, s9, s10, s11, s12, s13, s14, s15, s16, .val (.long tt), .second, .val (.int ((p3 &&& (2147483647 : Int32)) % (7 : Int32))), .unset, .unset, .unset] [])) _
              refine XS.iload X0.here hx rfl (hb hby at_240) rfl ?_
              show Steps p.tables e below (T0.setTop (mkF m 242 #[s0, s1, s2, s3, .val (.long q3), .second, iv p3, s7, s8, s9, s10, s11, s12, s13, s14, s15, s16, .val (.long tt), .second, .val (.int ((p3 &&& (2147483647 : Int32)) % (7 : Int32))), .unset, .unset, .unset] [(.int ((p3 &&& (2147483647 : Int32)) % (7 : Int32)))])) _
              refine XS.iconst X0.here hx rfl (hb hby at_242) ?_
              show Steps p.tables e below (T0.setTop (mkF m 243 #[s0, s1, s2, s3, .val (.long q3), .second, iv p3, s7, s8, s9, s10, s11, s12, s13, s14, s15, s16, .val (.long tt), .second, .val (.int ((p3 &&& (2147483647 : Int32)) % (7 : Int32))), .unset, .unset, .unset] [(.int 5), (.int ((p3 &&& (2147483647 : Int32)) % (7 : Int32)))])) _
              refine XS.icmpNo X0.here hx rfl (hb hby at_243) rfl (teq hc7).2 ?_
              show Steps p.tables e below (T0.setTop (mkF m 246 #[s0, s1, s2, s3, .val (.long q3), .second, iv p3, s7, s8, s9, s10, s11, s12, s13, s14, s15, s16, .val (.long tt), .second, .val (.int ((p3 &&& (2147483647 : Int32)) % (7 : Int32))), .unset, .unset, .unset] [])) _
              refine X0.ldc2Long hx hown (mvT hZ (hw _ (own_m 36 rfl))) (g := (mkF m 246 #[s0, s1, s2, s3, .val (.long q3), .second, iv p3, s7, s8, s9, s10, s11, s12, s13, s14, s15, s16, .val (.long tt), .second, .val (.int ((p3 &&& (2147483647 : Int32)) % (7 : Int32))), .unset, .unset, .unset] [])) rfl (hb hby at_246) _ ?_
              show Steps p.tables e below (T0.setTop (mkF m 249 #[s0, s1, s2, s3, .val (.long q3), .second, iv p3, s7, s8, s9, s10, s11, s12, s13, s14, s15, s16, .val (.long tt), .second, .val (.int ((p3 &&& (2147483647 : Int32)) % (7 : Int32))), .unset, .unset, .unset] [(.long (-1))])) _
              refine XS.lstore X0.here hx rfl (hb hby at_249) rfl (l' := #[s0, s1, s2, s3, .val (.long q3), .second, iv p3, s7, s8, s9, s10, s11, s12, s13, s14, s15, s16, .val (.long tt), .second, .val (.int ((p3 &&& (2147483647 : Int32)) % (7 : Int32))), .val (.long (-1)), .second, .unset]) rfl ?_
              show Steps p.tables e below (T0.setTop (mkF m 251 #[s0, s1, s2, s3, .val (.long q3), .second, iv p3, s7, s8, s9, s10, s11, s12, s13, s14, s15, s16, .val (.long tt), .second, .val (.int ((p3 &&& (2147483647 : Int32)) % (7 : Int32))), .val (.long (-1)), .second, .unset] [])) _
              refine XS.goto X0.here hx rfl (pc0 := 251) (pc' := 257) rfl (hb hby at_251) (by decide) (by decide) ?_
              show Steps p.tables e below (T0.setTop (mkF m 257 #[s0, s1, s2, s3, .val (.long q3), .second, iv p3, s7, s8, s9, s10, s11, s12, s13, s14, s15, s16, .val (.long tt), .second, .val (.int ((p3 &&& (2147483647 : Int32)) % (7 : Int32))), .val (.long (-1)), .second, .unset] [])) _
              exact kt
            · refine ⟨(1 : Int64), T0, _, trivial, X0, N0, e0, fun target kt => ?_⟩
              show Steps p.tables e below (T0.setTop (mkF m 149 #[s0, s1, s2, s3, .val (.long q3), .second, iv p3, s7, s8, s9, s10, s11, s12, s13, s14, s15, s16, .val (.long tt), .second, .unset, .unset, .unset, .unset] [])) _
              refine XS.iload X0.here hx rfl (hb hby at_149) rfl ?_
              show Steps p.tables e below (T0.setTop (mkF m 151 #[s0, s1, s2, s3, .val (.long q3), .second, iv p3, s7, s8, s9, s10, s11, s12, s13, s14, s15, s16, .val (.long tt), .second, .unset, .unset, .unset, .unset] [(.int p3)])) _
              refine X0.ldcInt hx hown (mvT hZ (hw _ (own_m 1 rfl))) (g := (mkF m 151 #[s0, s1, s2, s3, .val (.long q3), .second, iv p3, s7, s8, s9, s10, s11, s12, s13, s14, s15, s16, .val (.long tt), .second, .unset, .unset, .unset, .unset] [(.int p3)])) rfl (hb hby at_151) _ ?_
              show Steps p.tables e below (T0.setTop (mkF m 153 #[s0, s1, s2, s3, .val (.long q3), .second, iv p3, s7, s8, s9, s10, s11, s12, s13, s14, s15, s16, .val (.long tt), .second, .unset, .unset, .unset, .unset] [(.int 2147483647), (.int p3)])) _
              refine XS.iand X0.here hx rfl (hb hby at_153) rfl ?_
              show Steps p.tables e below (T0.setTop (mkF m 154 #[s0, s1, s2, s3, .val (.long q3), .second, iv p3, s7, s8, s9, s10, s11, s12, s13, s14, s15, s16, .val (.long tt), .second, .unset, .unset, .unset, .unset] [(.int (p3 &&& (2147483647 : Int32)))])) _
              refine XS.bipush X0.here hx rfl (hb hby at_154) ?_
              show Steps p.tables e below (T0.setTop (mkF m 156 #[s0, s1, s2, s3, .val (.long q3), .second, iv p3, s7, s8, s9, s10, s11, s12, s13, s14, s15, s16, .val (.long tt), .second, .unset, .unset, .unset, .unset] [(.int 7), (.int (p3 &&& (2147483647 : Int32)))])) _
              refine iremM X0 hx rfl (hb hby at_156) rfl (by decide) ?_
              show Steps p.tables e below (T0.setTop (mkF m 157 #[s0, s1, s2, s3, .val (.long q3), .second, iv p3, s7, s8, s9, s10, s11, s12, s13, s14, s15, s16, .val (.long tt), .second, .unset, .unset, .unset, .unset] [(.int ((p3 &&& (2147483647 : Int32)) % (7 : Int32)))])) _
              refine XS.istore X0.here hx rfl (hb hby at_157) rfl (l' := #[s0, s1, s2, s3, .val (.long q3), .second, iv p3, s7, s8, s9, s10, s11, s12, s13, s14, s15, s16, .val (.long tt), .second, .val (.int ((p3 &&& (2147483647 : Int32)) % (7 : Int32))), .unset, .unset, .unset]) rfl ?_
              show Steps p.tables e below (T0.setTop (mkF m 159 #[s0, s1, s2, s3, .val (.long q3), .second, iv p3, s7, s8, s9, s10, s11, s12, s13, s14, s15, s16, .val (.long tt), .second, .val (.int ((p3 &&& (2147483647 : Int32)) % (7 : Int32))), .unset, .unset, .unset] [])) _
              refine XS.iload X0.here hx rfl (hb hby at_159) rfl ?_
              show Steps p.tables e below (T0.setTop (mkF m 161 #[s0, s1, s2, s3, .val (.long q3), .second, iv p3, s7, s8, s9, s10, s11, s12, s13, s14, s15, s16, .val (.long tt), .second, .val (.int ((p3 &&& (2147483647 : Int32)) % (7 : Int32))), .unset, .unset, .unset] [(.int ((p3 &&& (2147483647 : Int32)) % (7 : Int32)))])) _
              refine XS.ifYes X0.here hx rfl (pc0 := 161) (pc' := 171) rfl (hb hby at_161) rfl ((if0 _ _).trans (feq hc1).2) (by decide) (by decide) ?_
              show Steps p.tables e below (T0.setTop (mkF m 171 #[s0, s1, s2, s3, .val (.long q3), .second, iv p3, s7, s8, s9, s10, s11, s12, s13, s14, s15, s16, .val (.long tt), .second, .val (.int ((p3 &&& (2147483647 : Int32)) % (7 : Int32))), .unset, .unset, .unset] [])) _
              refine XS.iload X0.here hx rfl (hb hby at_171) rfl ?_
              show Steps p.tables e below (T0.setTop (mkF m 173 #[s0, s1, s2, s3, .val (.long q3), .second, iv p3, s7, s8, s9, s10, s11, s12, s13, s14, s15, s16, .val (.long tt), .second, .val (.int ((p3 &&& (2147483647 : Int32)) % (7 : Int32))), .unset, .unset, .unset] [(.int ((p3 &&& (2147483647 : Int32)) % (7 : Int32)))])) _
              refine XS.iconst X0.here hx rfl (hb hby at_173) ?_
              show Steps p.tables e below (T0.setTop (mkF m 174 #[s0, s1, s2, s3, .val (.long q3), .second, iv p3, s7, s8, s9, s10, s11, s12, s13, s14, s15, s16, .val (.long tt), .second, .val (.int ((p3 &&& (2147483647 : Int32)) % (7 : Int32))), .unset, .unset, .unset] [(.int 1), (.int ((p3 &&& (2147483647 : Int32)) % (7 : Int32)))])) _
              refine XS.icmpYes X0.here hx rfl (pc0 := 174) (pc' := 186) rfl (hb hby at_174) rfl (feq hc2).2 (by decide) (by decide) ?_
              show Steps p.tables e below (T0.setTop (mkF m 186 #[s0, s1, s2, s3, .val (.long q3), .second, iv p3, s7, s8, s9, s10, s11, s12, s13, s14, s15, s16, .val (.long tt), .second, .val (.int ((p3 &&& (2147483647 : Int32)) % (7 : Int32))), .unset, .unset, .unset] [])) _
              refine XS.iload X0.here hx rfl (hb hby at_186) rfl ?_
              show Steps p.tables e below (T0.setTop (mkF m 188 #[s0, s1, s2, s3, .val (.long q3), .second, iv p3, s7, s8, s9, s10, s11, s12, s13, s14, s15, s16, .val (.long tt), .second, .val (.int ((p3 &&& (2147483647 : Int32)) % (7 : Int32))), .unset, .unset, .unset] [(.int ((p3 &&& (2147483647 : Int32)) % (7 : Int32)))])) _
              refine XS.iconst X0.here hx rfl (hb hby at_188) ?_
              show Steps p.tables e below (T0.setTop (mkF m 189 #[s0, s1, s2, s3, .val (.long q3), .second, iv p3, s7, s8, s9, s10, s11, s12, s13, s14, s15, s16, .val (.long tt), .second, .val (.int ((p3 &&& (2147483647 : Int32)) % (7 : Int32))), .unset, .unset, .unset] [(.int 2), (.int ((p3 &&& (2147483647 : Int32)) % (7 : Int32)))])) _
              refine XS.icmpYes X0.here hx rfl (pc0 := 189) (pc' := 199) rfl (hb hby at_189) rfl (feq hc3).2 (by decide) (by decide) ?_
              show Steps p.tables e below (T0.setTop (mkF m 199 #[s0, s1, s2, s3, .val (.long q3), .second, iv p3, s7, s8, s9, s10, s11, s12, s13, s14, s15, s16, .val (.long tt), .second, .val (.int ((p3 &&& (2147483647 : Int32)) % (7 : Int32))), .unset, .unset, .unset] [])) _
              refine XS.iload X0.here hx rfl (hb hby at_199) rfl ?_
              show Steps p.tables e below (T0.setTop (mkF m 201 #[s0, s1, s2, s3, .val (.long q3), .second, iv p3, s7, s8, s9, s10, s11, s12, s13, s14, s15, s16, .val (.long tt), .second, .val (.int ((p3 &&& (2147483647 : Int32)) % (7 : Int32))), .unset, .unset, .unset] [(.int ((p3 &&& (2147483647 : Int32)) % (7 : Int32)))])) _
              refine XS.iconst X0.here hx rfl (hb hby at_201) ?_
              show Steps p.tables e below (T0.setTop (mkF m 202 #[s0, s1, s2, s3, .val (.long q3), .second, iv p3, s7, s8, s9, s10, s11, s12, s13, s14, s15, s16, .val (.long tt), .second, .val (.int ((p3 &&& (2147483647 : Int32)) % (7 : Int32))), .unset, .unset, .unset] [(.int 3), (.int ((p3 &&& (2147483647 : Int32)) % (7 : Int32)))])) _
              refine XS.icmpYes X0.here hx rfl (pc0 := 202) (pc' := 228) rfl (hb hby at_202) rfl (feq hc4).2 (by decide) (by decide) ?_
              show Steps p.tables e below (T0.setTop (mkF m 228 #[s0, s1, s2, s3, .val (.long q3), .second, iv p3, s7, s8, s9, s10, s11, s12, s13, s14, s15, s16, .val (.long tt), .second, .val (.int ((p3 &&& (2147483647 : Int32)) % (7 : Int32))), .unset, .unset, .unset] [])) _
              refine XS.iload X0.here hx rfl (hb hby at_228) rfl ?_
              show Steps p.tables e below (T0.setTop (mkF m 230 #[s0, s1, s2, s3, .val (.long q3), .second, iv p3, s7, s8, s9, s10, s11, s12, s13, s14, s15, s16, .val (.long tt), .second, .val (.int ((p3 &&& (2147483647 : Int32)) % (7 : Int32))), .unset, .unset, .unset] [(.int ((p3 &&& (2147483647 : Int32)) % (7 : Int32)))])) _
              refine XS.iconst X0.here hx rfl (hb hby at_230) ?_
              show Steps p.tables e below (T0.setTop (mkF m 231 #[s0, s1, s2, s3, .val (.long q3), .second, iv p3, s7, s8, s9, s10, s11, s12, s13, s14, s15, s16, .val (.long tt), .second, .val (.int ((p3 &&& (2147483647 : Int32)) % (7 : Int32))), .unset, .unset, .unset] [(.int 4), (.int ((p3 &&& (2147483647 : Int32)) % (7 : Int32)))])) _
              refine XS.icmpYes X0.here hx rfl (pc0 := 231) (pc' := 240) rfl (hb hby at_231) rfl (feq hc6).2 (by decide) (by decide) ?_
              show Steps p.tables e below (T0.setTop (mkF m 240 #[s0, s1, s2, s3, .val (.long q3), .second, iv p3, s7, s8, s9, s10, s11, s12, s13, s14, s15, s16, .val (.long tt), .second, .val (.int ((p3 &&& (2147483647 : Int32)) % (7 : Int32))), .unset, .unset, .unset] [])) _
              refine XS.iload X0.here hx rfl (hb hby at_240) rfl ?_
              show Steps p.tables e below (T0.setTop (mkF m 242 #[s0, s1, s2, s3, .val (.long q3), .second, iv p3, s7, s8, s9, s10, s11, s12, s13, s14, s15, s16, .val (.long tt), .second, .val (.int ((p3 &&& (2147483647 : Int32)) % (7 : Int32))), .unset, .unset, .unset] [(.int ((p3 &&& (2147483647 : Int32)) % (7 : Int32)))])) _
              refine XS.iconst X0.here hx rfl (hb hby at_242) ?_
              show Steps p.tables e below (T0.setTop (mkF m 243 #[s0, s1, s2, s3, .val (.long q3), .second, iv p3, s7, s8, s9, s10, s11, s12, s13, s14, s15, s16, .val (.long tt), .second, .val (.int ((p3 &&& (2147483647 : Int32)) % (7 : Int32))), .unset, .unset, .unset] [(.int 5), (.int ((p3 &&& (2147483647 : Int32)) % (7 : Int32)))])) _
              refine XS.icmpYes X0.here hx rfl (pc0 := 243) (pc' := 254) rfl (hb hby at_243) rfl (feq hc7).2 (by decide) (by decide) ?_
              show Steps p.tables e below (T0.setTop (mkF m 254 #[s0, s1, s2, s3, .val (.long q3), .second, iv p3, s7, s8, s9, s10, s11, s12, s13, s14, s15, s16, .val (.long tt), .second, .val (.int ((p3 &&& (2147483647 : Int32)) % (7 : Int32))), .unset, .unset, .unset] [])) _
              refine XS.lconst X0.here hx rfl (hb hby at_254) ?_
              show Steps p.tables e below (T0.setTop (mkF m 255 #[s0, s1, s2, s3, .val (.long q3), .second, iv p3, s7, s8, s9, s10, s11, s12, s13, s14, s15, s16, .val (.long tt), .second, .val (.int ((p3 &&& (2147483647 : Int32)) % (7 : Int32))), .unset, .unset, .unset] [(.long 1)])) _
              refine XS.lstore X0.here hx rfl (hb hby at_255) rfl (l' := #[s0, s1, s2, s3, .val (.long q3), .second, iv p3, s7, s8, s9, s10, s11, s12, s13, s14, s15, s16, .val (.long tt), .second, .val (.int ((p3 &&& (2147483647 : Int32)) % (7 : Int32))), .val (.long 1), .second, .unset]) rfl ?_
              show Steps p.tables e below (T0.setTop (mkF m 257 #[s0, s1, s2, s3, .val (.long q3), .second, iv p3, s7, s8, s9, s10, s11, s12, s13, s14, s15, s16, .val (.long tt), .second, .val (.int ((p3 &&& (2147483647 : Int32)) % (7 : Int32))), .val (.long 1), .second, .unset] [])) _
              exact kt
set_option maxRecDepth 65536 in
set_option maxHeartbeats 40000000 in
theorem own_pp1 {p : Program} {l : Launch} {e : Env} {R : Room} {s : State} {m : MethodId} {args : Array Value} {below : List Frame} {meth : Method} {c : Code} {T0 : State} {locs : List Loc} {cells slots : Nat} {Z : State} {a0 : Array Value} {h0 : Heap} {n0 : Nat} (w_A : Addr) (w_B : Addr) (s0 : Slot) (s1 : Slot) (s2 : Slot) (s3 : Slot) (s7 : Slot) (s8 : Slot) (s9 : Slot) (s10 : Slot) (s11 : Slot) (s12 : Slot) (s13 : Slot) (s14 : Slot) (s15 : Slot) (s16 : Slot) (q3 : Int64) (p3 : Int32) (tt : Int64) (pr : Int64)
    (X0 : Stand p l e R s m args below meth c T0 locs cells slots) (hx : p.tables.exec = Jvm.exec) (hZ : Z.Warmed39 s.vm) (hw : ∀ d ∈ tables_1, d.before a0 Z = true) (hby : c.code = code) (hml : c.maxLocals = 23) (hown : s.vm.findClass "com/example/vsyncopate/vsyncopate/animation/TimelineIsOverPinLaw" = some m.cls) (e0 : T0.heap = h0) (N0 : Fr n0 locs) (O0 : Old Z n0 h0) (S_A : Sta Z Z.heap "com/example/vsyncopate/vsyncopate/animation/RepeatMode" "RESTART" "Lcom/example/vsyncopate/vsyncopate/animation/RepeatMode;" (.ref w_A)) (S_B : Sta Z Z.heap "com/example/vsyncopate/vsyncopate/animation/RepeatMode" "REVERSE" "Lcom/example/vsyncopate/vsyncopate/animation/RepeatMode;" (.ref w_B)) :
    ∃ (pp : Int64) (T' : State) (L' : List Loc), (True) ∧ Stand p l e R s m args below meth c T' L' cells slots ∧ Fr n0 L' ∧ T'.heap = h0 ∧ ∀ target, Steps p.tables e below (T'.setTop (mkF m 257 #[s0, s1, s2, s3, .val (.long q3), .second, iv p3, s7, s8, s9, s10, s11, s12, s13, s14, s15, s16, .val (.long tt), .second, .val (.int ((p3 &&& (2147483647 : Int32)) % (7 : Int32))), .val (.long pp), .second, .unset] [])) target → Steps p.tables e below (T0.setTop (mkF m 149 #[s0, s1, s2, s3, .val (.long q3), .second, iv p3, s7, s8, s9, s10, s11, s12, s13, s14, s15, s16, .val (.long tt), .second, .val (.long pr), .second, .unset, .unset] [])) target := by
  by_cases hc1 : ((p3 &&& (2147483647 : Int32)) % (7 : Int32)) = (0 : Int32)
  · refine ⟨q3, T0, _, trivial, X0, N0, e0, fun target kt => ?_⟩
    show Steps p.tables e below (T0.setTop (mkF m 149 #[s0, s1, s2, s3, .val (.long q3), .second, iv p3, s7, s8, s9, s10, s11, s12, s13, s14, s15, s16, .val (.long tt), .second, .val (.long pr), .second, .unset, .unset] [])) _
    refine XS.iload X0.here hx rfl (hb hby at_149) rfl ?_
    show Steps p.tables e below (T0.setTop (mkF m 151 #[s0, s1, s2, s3, .val (.long q3), .second, iv p3, s7, s8, s9, s10, s11, s12, s13, s14, s15, s16, .val (.long tt), .second, .val (.long pr), .second, .unset, .unset] [(.int p3)])) _
    refine X0.ldcInt hx hown (mvT hZ (hw _ (own_m 1 rfl))) (g := (mkF m 151 #[s0, s1, s2, s3, .val (.long q3), .second, iv p3, s7, s8, s9, s10, s11, s12, s13, s14, s15, s16, .val (.long tt), .second, .val (.long pr), .second, .unset, .unset] [(.int p3)])) rfl (hb hby at_151) _ ?_
    show Steps p.tables e below (T0.setTop (mkF m 153 #[s0, s1, s2, s3, .val (.long q3), .second, iv p3, s7, s8, s9, s10, s11, s12, s13, s14, s15, s16, .val (.long tt), .second, .val (.long pr), .second, .unset, .unset] [(.int 2147483647), (.int p3)])) _
    refine XS.iand X0.here hx rfl (hb hby at_153) rfl ?_
    show Steps p.tables e below (T0.setTop (mkF m 154 #[s0, s1, s2, s3, .val (.long q3), .second, iv p3, s7, s8, s9, s10, s11, s12, s13, s14, s15, s16, .val (.long tt), .second, .val (.long pr), .second, .unset, .unset] [(.int (p3 &&& (2147483647 : Int32)))])) _
    refine XS.bipush X0.here hx rfl (hb hby at_154) ?_
    show Steps p.tables e below (T0.setTop (mkF m 156 #[s0, s1, s2, s3, .val (.long q3), .second, iv p3, s7, s8, s9, s10, s11, s12, s13, s14, s15, s16, .val (.long tt), .second, .val (.long pr), .second, .unset, .unset] [(.int 7), (.int (p3 &&& (2147483647 : Int32)))])) _
    refine iremM X0 hx rfl (hb hby at_156) rfl (by decide) ?_
    show Steps p.tables e below (T0.setTop (mkF m 157 #[s0, s1, s2, s3, .val (.long q3), .second, iv p3, s7, s8, s9, s10, s11, s12, s13, s14, s15, s16, .val (.long tt), .second, .val (.long pr), .second, .unset, .unset] [(.int ((p3 &&& (2147483647 : Int32)) % (7 : Int32)))])) _
    refine XS.istore X0.here hx rfl (hb hby at_157) rfl (l' := #[s0, s1, s2, s3, .val (.long q3), .second, iv p3, s7, s8, s9, s10, s11, s12, s13, s14, s15, s16, .val (.long tt), .second, .val (.int ((p3 &&& (2147483647 : Int32)) % (7 : Int32))), .unset, .unset, .unset]) rfl ?_
    show Steps p.tables e below (T0.setTop (mkF m 159 #[s0, s1, s2, s3, .val (.long q3), .second, iv p3, s7, s8, s9, s10, s11, s12, s13, s14, s15, s16, .val (.long tt), .second, .val (.int ((p3 &&& (2147483647 : Int32)) % (7 : Int32))), .unset, .unset, .unset] [])) _
    refine XS.iload X0.here hx rfl (hb hby at_159) rfl ?_
    show Steps p.tables e below (T0.setTop (mkF m 161 #[s0, s1, s2, s3, .val (.long q3), .second, iv p3, s7, s8, s9, s10, s11, s12, s13, s14, s15, s16, .val (.long tt), .second, .val (.int ((p3 &&& (2147483647 : Int32)) % (7 : Int32))), .unset, .unset, .unset] [(.int ((p3 &&& (2147483647 : Int32)) % (7 : Int32)))])) _
    refine XS.ifNo X0.here hx rfl (hb hby at_161) rfl ((if0 _ _).trans (teq hc1).2) ?_
    show Steps p.tables e below (T0.setTop (mkF m 164 #[s0, s1, s2, s3, .val (.long q3), .second, iv p3, s7, s8, s9, s10, s11, s12, s13, s14, s15, s16, .val (.long tt), .second, .val (.int ((p3 &&& (2147483647 : Int32)) % (7 : Int32))), .unset, .unset, .unset] [])) _
    refine XS.lload X0.here hx rfl (hb hby at_164) rfl ?_
    show Steps p.tables e below (T0.setTop (mkF m 166 #[s0, s1, s2, s3, .val (.long q3), .second, iv p3, s7, s8, s9, s10, s11, s12, s13, s14, s15, s16, .val (.long tt), .second, .val (.int ((p3 &&& (2147483647 : Int32)) % (7 : Int32))), .unset, .unset, .unset] [(.long q3)])) _
    refine XS.lstore X0.here hx rfl (hb hby at_166) rfl (l' := #[s0, s1, s2, s3, .val (.long q3), .second, iv p3, s7, s8, s9, s10, s11, s12, s13, s14, s15, s16, .val (.long tt), .second, .val (.int ((p3 &&& (2147483647 : Int32)) % (7 : Int32))), .val (.long q3), .second, .unset]) rfl ?_
    show Steps p.tables e below (T0.setTop (mkF m 168 #[s0, s1, s2, s3, .val (.long q3), .second, iv p3, s7, s8, s9, s10, s11, s12, s13, s14, s15, s16, .val (.long tt), .second, .val (.int ((p3 &&& (2147483647 : Int32)) % (7 : Int32))), .val (.long q3), .second, .unset] [])) _
    refine XS.goto X0.here hx rfl (pc0 := 168) (pc' := 257) rfl (hb hby at_168) (by decide) (by decide) ?_
    show Steps p.tables e below (T0.setTop (mkF m 257 #[s0, s1, s2, s3, .val (.long q3), .second, iv p3, s7, s8, s9, s10, s11, s12, s13, s14, s15, s16, .val (.long tt), .second, .val (.int ((p3 &&& (2147483647 : Int32)) % (7 : Int32))), .val (.long q3), .second, .unset] [])) _
    exact kt
  · by_cases hc2 : ((p3 &&& (2147483647 : Int32)) % (7 : Int32)) = (1 : Int32)
    · refine ⟨(tt - (1 : Int64)), T0, _, trivial, X0, N0, e0, fun target kt => ?_⟩
      show Steps p.tables e below (T0.setTop (mkF m 149 #[s0, s1, s2, s3, .val (.long q3), .second, iv p3, s7, s8, s9, s10, s11, s12, s13, s14, s15, s16, .val (.long tt), .second, .val (.long pr), .second, .unset, .unset] [])) _
      refine XS.iload X0.here hx rfl (hb hby at_149) rfl ?_
      show Steps p.tables e below (T0.setTop (mkF m 151 #[s0, s1, s2, s3, .val (.long q3), .second, iv p3, s7, s8, s9, s10, s11, s12, s13, s14, s15, s16, .val (.long tt), .second, .val (.long pr), .second, .unset, .unset] [(.int p3)])) _
      refine X0.ldcInt hx hown (mvT hZ (hw _ (own_m 1 rfl))) (g := (mkF m 151 #[s0, s1, s2, s3, .val (.long q3), .second, iv p3, s7, s8, s9, s10, s11, s12, s13, s14, s15, s16, .val (.long tt), .second, .val (.long pr), .second, .unset, .unset] [(.int p3)])) rfl (hb hby at_151) _ ?_
      show Steps p.tables e below (T0.setTop (mkF m 153 #[s0, s1, s2, s3, .val (.long q3), .second, iv p3, s7, s8, s9, s10, s11, s12, s13, s14, s15, s16, .val (.long tt), .second, .val (.long pr), .second, .unset, .unset] [(.int 2147483647), (.int p3)])) _
      refine XS.iand X0.here hx rfl (hb hby at_153) rfl ?_
      show Steps p.tables e below (T0.setTop (mkF m 154 #[s0, s1, s2, s3, .val (.long q3), .second, iv p3, s7, s8, s9, s10, s11, s12, s13, s14, s15, s16, .val (.long tt), .second, .val (.long pr), .second, .unset, .unset] [(.int (p3 &&& (2147483647 : Int32)))])) _
      refine XS.bipush X0.here hx rfl (hb hby at_154) ?_
      show Steps p.tables e below (T0.setTop (mkF m 156 #[s0, s1, s2, s3, .val (.long q3), .second, iv p3, s7, s8, s9, s10, s11, s12, s13, s14, s15, s16, .val (.long tt), .second, .val (.long pr), .second, .unset, .unset] [(.int 7), (.int (p3 &&& (2147483647 : Int32)))])) _
      refine iremM X0 hx rfl (hb hby at_156) rfl (by decide) ?_
      show Steps p.tables e below (T0.setTop (mkF m 157 #[s0, s1, s2, s3, .val (.long q3), .second, iv p3, s7, s8, s9, s10, s11, s12, s13, s14, s15, s16, .val (.long tt), .second, .val (.long pr), .second, .unset, .unset] [(.int ((p3 &&& (2147483647 : Int32)) % (7 : Int32)))])) _
      refine XS.istore X0.here hx rfl (hb hby at_157) rfl (l' := #[s0, s1, s2, s3, .val (.long q3), .second, iv p3, s7, s8, s9, s10, s11, s12, s13, s14, s15, s16, .val (.long tt), .second, .val (.int ((p3 &&& (2147483647 : Int32)) % (7 : Int32))), .unset, .unset, .unset]) rfl ?_
      show Steps p.tables e below (T0.setTop (mkF m 159 #[s0, s1, s2, s3, .val (.long q3), .second, iv p3, s7, s8, s9, s10, s11, s12, s13, s14, s15, s16, .val (.long tt), .second, .val (.int ((p3 &&& (2147483647 : Int32)) % (7 : Int32))), .unset, .unset, .unset] [])) _
      refine XS.iload X0.here hx rfl (hb hby at_159) rfl ?_
      show Steps p.tables e below (T0.setTop (mkF m 161 #[s0, s1, s2, s3, .val (.long q3), .second, iv p3, s7, s8, s9, s10, s11, s12, s13, s14, s15, s16, .val (.long tt), .second, .val (.int ((p3 &&& (2147483647 : Int32)) % (7 : Int32))), .unset, .unset, .unset] [(.int ((p3 &&& (2147483647 : Int32)) % (7 : Int32)))])) _
      refine XS.ifYes X0.here hx rfl (pc0 := 161) (pc' := 171) rfl (hb hby at_161) rfl ((if0 _ _).trans (feq hc1).2) (by decide) (by decide) ?_
      show Steps p.tables e below (T0.setTop (mkF m 171 #[s0, s1, s2, s3, .val (.long q3), .second, iv p3, s7, s8, s9, s10, s11, s12, s13, s14, s15, s16, .val (.long tt), .second, .val (.int ((p3 &&& (2147483647 : Int32)) % (7 : Int32))), .unset, .unset, .unset] [])) _
      refine XS.iload X0.here hx rfl (hb hby at_171) rfl ?_
      show Steps p.tables e below (T0.setTop (mkF m 173 #[s0, s1, s2, s3, .val (.long q3), .second, iv p3, s7, s8, s9, s10, s11, s12, s13, s14, s15, s16, .val (.long tt), .second, .val (.int ((p3 &&& (2147483647 : Int32)) % (7 : Int32))), .unset, .unset, .unset] [(.int ((p3 &&& (2147483647 : Int32)) % (7 : Int32)))])) _
      refine XS.iconst X0.here hx rfl (hb hby at_173) ?_
      show Steps p.tables e below (T0.setTop (mkF m 174 #[s0, s1, s2, s3, .val (.long q3), .second, iv p3, s7, s8, s9, s10, s11, s12, s13, s14, s15, s16, .val (.long tt), .second, .val (.int ((p3 &&& (2147483647 : Int32)) % (7 : Int32))), .unset, .unset, .unset] [(.int 1), (.int ((p3 &&& (2147483647 : Int32)) % (7 : Int32)))])) _
      refine XS.icmpNo X0.here hx rfl (hb hby at_174) rfl (teq hc2).2 ?_
      show Steps p.tables e below (T0.setTop (mkF m 177 #[s0, s1, s2, s3, .val (.long q3), .second, iv p3, s7, s8, s9, s10, s11, s12, s13, s14, s15, s16, .val (.long tt), .second, .val (.int ((p3 &&& (2147483647 : Int32)) % (7 : Int32))), .unset, .unset, .unset] [])) _
      refine XS.lload X0.here hx rfl (hb hby at_177) rfl ?_
      show Steps p.tables e below (T0.setTop (mkF m 179 #[s0, s1, s2, s3, .val (.long q3), .second, iv p3, s7, s8, s9, s10, s11, s12, s13, s14, s15, s16, .val (.long tt), .second, .val (.int ((p3 &&& (2147483647 : Int32)) % (7 : Int32))), .unset, .unset, .unset] [(.long tt)])) _
      refine XS.lconst X0.here hx rfl (hb hby at_179) ?_
      show Steps p.tables e below (T0.setTop (mkF m 180 #[s0, s1, s2, s3, .val (.long q3), .second, iv p3, s7, s8, s9, s10, s11, s12, s13, s14, s15, s16, .val (.long tt), .second, .val (.int ((p3 &&& (2147483647 : Int32)) % (7 : Int32))), .unset, .unset, .unset] [(.long 1), (.long tt)])) _
      refine XS.lsub X0.here hx rfl (hb hby at_180) rfl ?_
      show Steps p.tables e below (T0.setTop (mkF m 181 #[s0, s1, s2, s3, .val (.long q3), .second, iv p3, s7, s8, s9, s10, s11, s12, s13, s14, s15, s16, .val (.long tt), .second, .val (.int ((p3 &&& (2147483647 : Int32)) % (7 : Int32))), .unset, .unset, .unset] [(.long (tt - (1 : Int64)))])) _
      refine XS.lstore X0.here hx rfl (hb hby at_181) rfl (l' := #[s0, s1, s2, s3, .val (.long q3), .second, iv p3, s7, s8, s9, s10, s11, s12, s13, s14, s15, s16, .val (.long tt), .second, .val (.int ((p3 &&& (2147483647 : Int32)) % (7 : Int32))), .val (.long (tt - (1 : Int64))), .second, .unset]) rfl ?_
      show Steps p.tables e below (T0.setTop (mkF m 183 #[s0, s1, s2, s3, .val (.long q3), .second, iv p3, s7, s8, s9, s10, s11, s12, s13, s14, s15, s16, .val (.long tt), .second, .val (.int ((p3 &&& (2147483647 : Int32)) % (7 : Int32))), .val (.long (tt - (1 : Int64))), .second, .unset] [])) _
      refine XS.goto X0.here hx rfl (pc0 := 183) (pc' := 257) rfl (hb hby at_183) (by decide) (by decide) ?_
      show Steps p.tables e below (T0.setTop (mkF m 257 #[s0, s1, s2, s3, .val (.long q3), .second, iv p3, s7, s8, s9, s10, s11, s12, s13, s14, s15, s16, .val (.long tt), .second, .val (.int ((p3 &&& (2147483647 : Int32)) % (7 : Int32))), .val (.long (tt - (1 : Int64))), .second, .unset] [])) _
      exact kt
    · by_cases hc3 : ((p3 &&& (2147483647 : Int32)) % (7 : Int32)) = (2 : Int32)
      · refine ⟨tt, T0, _, trivial, X0, N0, e0, fun target kt => ?_⟩
        show Steps p.tables e below (T0.setTop (mkF m 149 #[s0, s1, s2, s3, .val (.long q3), .second, iv p3, s7, s8, s9, s10, s11, s12, s13, s14, s15, s16, .val (.long tt), .second, .val (.long pr), .second, .unset, .unset] [])) _
        refine XS.iload X0.here hx rfl (hb hby at_149) rfl ?_
        show Steps p.tables e below (T0.setTop (mkF m 151 #[s0, s1, s2, s3, .val (.long q3), .second, iv p3, s7, s8, s9, s10, s11, s12, s13, s14, s15, s16, .val (.long tt), .second, .val (.long pr), .second, .unset, .unset] [(.int p3)])) _
        refine X0.ldcInt hx hown (mvT hZ (hw _ (own_m 1 rfl))) (g := (mkF m 151 #[s0, s1, s2, s3, .val (.long q3), .second, iv p3, s7, s8, s9, s10, s11, s12, s13, s14, s15, s16, .val (.long tt), .second, .val (.long pr), .second, .unset, .unset] [(.int p3)])) rfl (hb hby at_151) _ ?_
        show Steps p.tables e below (T0.setTop (mkF m 153 #[s0, s1, s2, s3, .val (.long q3), .second, iv p3, s7, s8, s9, s10, s11, s12, s13, s14, s15, s16, .val (.long tt), .second, .val (.long pr), .second, .unset, .unset] [(.int 2147483647), (.int p3)])) _
        refine XS.iand X0.here hx rfl (hb hby at_153) rfl ?_
        show Steps p.tables e below (T0.setTop (mkF m 154 #[s0, s1, s2, s3, .val (.long q3), .second, iv p3, s7, s8, s9, s10, s11, s12, s13, s14, s15, s16, .val (.long tt), .second, .val (.long pr), .second, .unset, .unset] [(.int (p3 &&& (2147483647 : Int32)))])) _
        refine XS.bipush X0.here hx rfl (hb hby at_154) ?_
        show Steps p.tables e below (T0.setTop (mkF m 156 #[s0, s1, s2, s3, .val (.long q3), .second, iv p3, s7, s8, s9, s10, s11, s12, s13, s14, s15, s16, .val (.long tt), .second, .val (.long pr), .second, .unset, .unset] [(.int 7), (.int (p3 &&& (2147483647 : Int32)))])) _
        refine iremM X0 hx rfl (hb hby at_156) rfl (by decide) ?_
        show Steps p.tables e below (T0.setTop (mkF m 157 #[s0, s1, s2, s3, .val (.long q3), .second, iv p3, s7, s8, s9, s10, s11, s12, s13, s14, s15, s16, .val (.long tt), .second, .val (.long pr), .second, .unset, .unset] [(.int ((p3 &&& (2147483647 : Int32)) % (7 : Int32)))])) _
        refine XS.istore X0.here hx rfl (hb hby at_157) rfl (l' := #[s0, s1, s2, s3, .val (.long q3), .second, iv p3, s7, s8, s9, s10, s11, s12, s13, s14, s15, s16, .val (.long tt), .second, .val (.int ((p3 &&& (2147483647 : Int32)) % (7 : Int32))), .unset, .unset, .unset]) rfl ?_
        show Steps p.tables e below (T0.setTop (mkF m 159 #[s0, s1, s2, s3, .val (.long q3), .second, iv p3, s7, s8, s9, s10, s11, s12, s13, s14, s15, s16, .val (.long tt), .second, .val (.int ((p3 &&& (2147483647 : Int32)) % (7 : Int32))), .unset, .unset, .unset] [])) _
        refine XS.iload X0.here hx rfl (hb hby at_159) rfl ?_
        show Steps p.tables e below (T0.setTop (mkF m 161 #[s0, s1, s2, s3, .val (.long q3), .second, iv p3, s7, s8, s9, s10, s11, s12, s13, s14, s15, s16, .val (.long tt), .second, .val (.int ((p3 &&& (2147483647 : Int32)) % (7 : Int32))), .unset, .unset, .unset] [(.int ((p3 &&& (2147483647 : Int32)) % (7 : Int32)))])) _
        refine XS.ifYes X0.here hx rfl (pc0 := 161) (pc' := 171) rfl (hb hby at_161) rfl ((if0 _ _).trans (feq hc1).2) (by decide) (by decide) ?_
        show Steps p.tables e below (T0.setTop (mkF m 171 #[s0, s1, s2, s3, .val (.long q3), .second, iv p3, s7, s8, s9, s10, s11, s12, s13, s14, s15, s16, .val (.long tt), .second, .val (.int ((p3 &&& (2147483647 : Int32)) % (7 : Int32))), .unset, .unset, .unset] [])) _
        refine XS.iload X0.here hx rfl (hb hby at_171) rfl ?_
        show Steps p.tables e below (T0.setTop (mkF m 173 #[s0, s1, s2, s3, .val (.long q3), .second, iv p3, s7, s8, s9, s10, s11, s12, s13, s14, s15, s16, .val (.long tt), .second, .val (.int ((p3 &&& (2147483647 : Int32)) % (7 : Int32))), .unset, .unset, .unset] [(.int ((p3 &&& (2147483647 : Int32)) % (7 : Int32)))])) _
        refine XS.iconst X0.here hx rfl (hb hby at_173) ?_
        show Steps p.tables e below (T0.setTop (mkF m 174 #[s0, s1, s2, s3, .val (.long q3), .second, iv p3, s7, s8, s9, s10, s11, s12, s13, s14, s15, s16, .val (.long tt), .second, .val (.int ((p3 &&& (2147483647 : Int32)) % (7 : Int32))), .unset, .unset, .unset] [(.int 1), (.int ((p3 &&& (2147483647 : Int32)) % (7 : Int32)))])) _
        refine XS.icmpYes X0.here hx rfl (pc0 := 174) (pc' := 186) rfl (hb hby at_174) rfl (feq hc2).2 (by decide) (by decide) ?_
        show Steps p.tables e below (T0.setTop (mkF m 186 #[s0, s1, s2, s3, .val (.long q3), .second, iv p3, s7, s8, s9, s10, s11, s12, s13, s14, s15, s16, .val (.long tt), .second, .val (.int ((p3 &&& (2147483647 : Int32)) % (7 : Int32))), .unset, .unset, .unset] [])) _
        refine XS.iload X0.here hx rfl (hb hby at_186) rfl ?_
        show Steps p.tables e below (T0.setTop (mkF m 188 #[s0, s1, s2, s3, .val (.long q3), .second, iv p3, s7, s8, s9, s10, s11, s12, s13, s14, s15, s16, .val (.long tt), .second, .val (.int ((p3 &&& (2147483647 : Int32)) % (7 : Int32))), .unset, .unset, .unset] [(.int ((p3 &&& (2147483647 : Int32)) % (7 : Int32)))])) _
        refine XS.iconst X0.here hx rfl (hb hby at_188) ?_
        show Steps p.tables e below (T0.setTop (mkF m 189 #[s0, s1, s2, s3, .val (.long q3), .second, iv p3, s7, s8, s9, s10, s11, s12, s13, s14, s15, s16, .val (.long tt), .second, .val (.int ((p3 &&& (2147483647 : Int32)) % (7 : Int32))), .unset, .unset, .unset] [(.int 2), (.int ((p3 &&& (2147483647 : Int32)) % (7 : Int32)))])) _
        refine XS.icmpNo X0.here hx rfl (hb hby at_189) rfl (teq hc3).2 ?_
        show Steps p.tables e below (T0.setTop (mkF m 192 #[s0, s1, s2, s3, .val (.long q3), .second, iv p3, s7, s8, s9, s10, s11, s12, s13, s14, s15, s16, .val (.long tt), .second, .val (.int ((p3 &&& (2147483647 : Int32)) % (7 : Int32))), .unset, .unset, .unset] [])) _
        refine XS.lload X0.here hx rfl (hb hby at_192) rfl ?_
        show Steps p.tables e below (T0.setTop (mkF m 194 #[s0, s1, s2, s3, .val (.long q3), .second, iv p3, s7, s8, s9, s10, s11, s12, s13, s14, s15, s16, .val (.long tt), .second, .val (.int ((p3 &&& (2147483647 : Int32)) % (7 : Int32))), .unset, .unset, .unset] [(.long tt)])) _
        refine XS.lstore X0.here hx rfl (hb hby at_194) rfl (l' := #[s0, s1, s2, s3, .val (.long q3), .second, iv p3, s7, s8, s9, s10, s11, s12, s13, s14, s15, s16, .val (.long tt), .second, .val (.int ((p3 &&& (2147483647 : Int32)) % (7 : Int32))), .val (.long tt), .second, .unset]) rfl ?_
        show Steps p.tables e below (T0.setTop (mkF m 196 #[s0, s1, s2, s3, .val (.long q3), .second, iv p3, s7, s8, s9, s10, s11, s12, s13, s14, s15, s16, .val (.long tt), .second, .val (.int ((p3 &&& (2147483647 : Int32)) % (7 : Int32))), .val (.long tt), .second, .unset] [])) _
        refine XS.goto X0.here hx rfl (pc0 := 196) (pc' := 257) rfl (hb hby at_196) (by decide) (by decide) ?_
        show Steps p.tables e below (T0.setTop (mkF m 257 #[s0, s1, s2, s3, .val (.long q3), .second, iv p3, s7, s8, s9, s10, s11, s12, s13, s14, s15, s16, .val (.long tt), .second, .val (.int ((p3 &&& (2147483647 : Int32)) % (7 : Int32))), .val (.long tt), .second, .unset] [])) _
        exact kt
      · by_cases hc4 : ((p3 &&& (2147483647 : Int32)) % (7 : Int32)) = (3 : Int32)
        · by_cases hc5 : tt < (9223372036854775807 : Int64)
          · refine ⟨(tt + (1 : Int64)), T0, _, trivial, X0, N0, e0, fun target kt => ?_⟩
            show Steps p.tables e below (T0.setTop (mkF m 149 #[s0, s1, s2, s3, .val (.long q3), .second, iv p3, s7, s8, s9, s10, s11, s12, s13, s14, s15, s16, .val (.long tt), .second, .val (.long pr), .second, .unset, .unset] [])) _
            refine XS.iload X0.here hx rfl (hb hby at_149) rfl ?_
            show Steps p.tables e below (T0.setTop (mkF m 151 #[s0, s1, s2, s3, .val (.long q3), .second, iv p3, s7, s8, s9, s10, s11, s12, s13, s14, s15, s16, .val (.long tt), .second, .val (.long pr), .second, .unset, .unset] [(.int p3)])) _
            refine X0.ldcInt hx hown (mvT hZ (hw _ (own_m 1 rfl))) (g := (mkF m 151 #[s0, s1, s2, s3, .val (.long q3), .second, iv p3, s7, s8, s9, s10, s11, s12, s13, s14, s15, s16, .val (.long tt), .second, .val (.long pr), .second, .unset, .unset] [(.int p3)])) rfl (hb hby at_151) _ ?_
            show Steps p.tables e below (T0.setTop (mkF m 153 #[s0, s1, s2, s3, .val (.long q3), .second, iv p3, s7, s8, s9, s10, s11, s12, s13, s14, s15, s16, .val (.long tt), .second, .val (.long pr), .second, .unset, .unset] [(.int 2147483647), (.int p3)])) _
            refine XS.iand X0.here hx rfl (hb hby at_153) rfl ?_
            show Steps p.tables e below (T0.setTop (mkF m 154 #[s0, s1, s2, s3, .val (.long q3), .second, iv p3, s7, s8, s9, s10, s11, s12, s13, s14, s15, s16, .val (.long tt), .second, .val (.long pr), .second, .unset, .unset] [(.int (p3 &&& (2147483647 : Int32)))])) _
            refine XS.bipush X0.here hx rfl (hb hby at_154) ?_
            show Steps p.tables e below (T0.setTop (mkF m 156 #[s0, s1, s2, s3, .val (.long q3), .second, iv p3, s7, s8, s9, s10, s11, s12, s13, s14, s15, s16, .val (.long tt), .second, .val (.long pr), .second, .unset, .unset] [(.int 7), (.int (p3 &&& (2147483647 : Int32)))])) _
            refine iremM X0 hx rfl (hb hby at_156) rfl (by decide) ?_
            show Steps p.tables e below (T0.setTop (mkF m 157 #[s0, s1, s2, s3, .val (.long q3), .second, iv p3, s7, s8, s9, s10, s11, s12, s13, s14, s15, s16, .val (.long tt), .second, .val (.long pr), .second, .unset, .unset] [(.int ((p3 &&& (2147483647 : Int32)) % (7 : Int32)))])) _
            refine XS.istore X0.here hx rfl (hb hby at_157) rfl (l' := #[s0, s1, s2, s3, .val (.long q3), .second, iv p3, s7, s8, s9, s10, s11, s12, s13, s14, s15, s16, .val (.long tt), .second, .val (.int ((p3 &&& (2147483647 : Int32)) % (7 : Int32))), .unset, .unset, .unset]) rfl ?_
            show Steps p.tables e below (T0.setTop (mkF m 159 #[s0, s1, s2, s3, .val (.long q3), .second, iv p3, s7, s8, s9, s10, s11, s12, s13, s14, s15, s16, .val (.long tt), .second, .val (.int ((p3 &&& (2147483647 : Int32)) % (7 : Int32))), .unset, .unset, .unset] [])) _
            refine XS.iload X0.here hx rfl (hb hby at_159) rfl ?_
            show Steps p.tables e below (T0.setTop (mkF m 161 #[s0, s1, s2, s3, .val (.long q3), .second, iv p3, s7, s8, s9, s10, s11, s12, s13, s14, s15, s16, .val (.long tt), .second, .val (.int ((p3 &&& (2147483647 : Int32)) % (7 : Int32))), .unset, .unset, .unset] [(.int ((p3 &&& (2147483647 : Int32)) % (7 : Int32)))])) _
            refine XS.ifYes X0.here hx rfl (pc0 := 161) (pc' := 171) rfl (hb hby at_161) rfl ((if0 _ _).trans (feq hc1).2) (by decide) (by decide) ?_
            show Steps p.tables e below (T0.setTop (mkF m 171 #[s0, s1, s2, s3, .val (.long q3), .second, iv p3, s7, s8, s9, s10, s11, s12, s13, s14, s15, s16, .val (.long tt), .second, .val (.int ((p3 &&& (2147483647 : Int32)) % (7 : Int32))), .unset, .unset, .unset] [])) _
            refine XS.iload X0.here hx rfl (hb hby at_171) rfl ?_
            show Steps p.tables e below (T0.setTop (mkF m 173 #[s0, s1, s2, s3, .val (.long q3), .second, iv p3, s7, s8, s9, s10, s11, s12, s13, s14, s15, s16, .val (.long tt), .second, .val (.int ((p3 &&& (2147483647 : Int32)) % (7 : Int32))), .unset, .unset, .unset] [(.int ((p3 &&& (2147483647 : Int32)) % (7 : Int32)))])) _
            refine XS.iconst X0.here hx rfl (hb hby at_173) ?_
            show Steps p.tables e below (T0.setTop (mkF m 174 #[s0, s1, s2, s3, .val (.long q3), .second, iv p3, s7, s8, s9, s10, s11, s12, s13, s14, s15, s16, .val (.long tt), .second, .val (.int ((p3 &&& (2147483647 : Int32)) % (7 : Int32))), .unset, .unset, .unset] [(.int 1), (.int ((p3 &&& (2147483647 : Int32)) % (7 : Int32)))])) _
            refine XS.icmpYes X0.here hx rfl (pc0 := 174) (pc' := 186) rfl (hb hby at_174) rfl (feq hc2).2 (by decide) (by decide) ?_
            show Steps p.tables e below (T0.setTop (mkF m 186 #[s0, s1, s2, s3, .val (.long q3), .second, iv p3, s7, s8, s9, s10, s11, s12, s13, s14, s15, s16, .val (.long tt), .second, .val (.int ((p3 &&& (2147483647 : Int32)) % (7 : Int32))), .unset, .unset, .unset] [])) _
            refine XS.iload X0.here hx rfl (hb hby at_186) rfl ?_
            show Steps p.tables e below (T0.setTop (mkF m 188 #[s0, s1, s2, s3, .val (.long q3), .second, iv p3, s7, s8, s9, s10, s11, s12, s13, s14, s15, s16, .val (.long tt), .second, .val (.int ((p3 &&& (2147483647 : Int32)) % (7 : Int32))), .unset, .unset, .unset] [(.int ((p3 &&& (2147483647 : Int32)) % (7 : Int32)))])) _
            refine XS.iconst X0.here hx rfl (hb hby at_188) ?_
            show Steps p.tables e below (T0.setTop (mkF m 189 #[s0, s1, s2, s3, .val (.long q3), .second, iv p3, s7, s8, s9, s10, s11, s12, s13, s14, s15, s16, .val (.long tt), .second, .val (.int ((p3 &&& (2147483647 : Int32)) % (7 : Int32))), .unset, .unset, .unset] [(.int 2), (.int ((p3 &&& (2147483647 : Int32)) % (7 : Int32)))])) _
            refine XS.icmpYes X0.here hx rfl (pc0 := 189) (pc' := 199) rfl (hb hby at_189) rfl (feq hc3).2 (by decide) (by decide) ?_
            show Steps p.tables e below (T0.setTop (mkF m 199 #[s0, s1, s2, s3, .val (.long q3), .second, iv p3, s7, s8, s9, s10, s11, s12, s13, s14, s15, s16, .val (.long tt), .second, .val (.int ((p3 &&& (2147483647 : Int32)) % (7 : Int32))), .unset, .unset, .unset] [])) _
            refine XS.iload X0.here hx rfl (hb hby at_199) rfl ?_
            show Steps p.tables e below (T0.setTop (mkF m 201 #[s0, s1, s2, s3, .val (.long q3), .second, iv p3, s7, s8, s9, s10, s11, s12, s13, s14, s15, s16, .val (.long tt), .second, .val (.int ((p3 &&& (2147483647 : Int32)) % (7 : Int32))), .unset, .unset, .unset] [(.int ((p3 &&& (2147483647 : Int32)) % (7 : Int32)))])) _
            refine XS.iconst X0.here hx rfl (hb hby at_201) ?_
            show Steps p.tables e below (T0.setTop (mkF m 202 #[s0, s1, s2, s3, .val (.long q3), .second, iv p3, s7, s8, s9, s10, s11, s12, s13, s14, s15, s16, .val (.long tt), .second, .val (.int ((p3 &&& (2147483647 : Int32)) % (7 : Int32))), .unset, .unset, .unset] [(.int 3), (.int ((p3 &&& (2147483647 : Int32)) % (7 : Int32)))])) _
            refine XS.icmpNo X0.here hx rfl (hb hby at_202) rfl (teq hc4).2 ?_
            show Steps p.tables e below (T0.setTop (mkF m 205 #[s0, s1, s2, s3, .val (.long q3), .second, iv p3, s7, s8, s9, s10, s11, s12, s13, s14, s15, s16, .val (.long tt), .second, .val (.int ((p3 &&& (2147483647 : Int32)) % (7 : Int32))), .unset, .unset, .unset] [])) _
            refine XS.lload X0.here hx rfl (hb hby at_205) rfl ?_
            show Steps p.tables e below (T0.setTop (mkF m 207 #[s0, s1, s2, s3, .val (.long q3), .second, iv p3, s7, s8, s9, s10, s11, s12, s13, s14, s15, s16, .val (.long tt), .second, .val (.int ((p3 &&& (2147483647 : Int32)) % (7 : Int32))), .unset, .unset, .unset] [(.long tt)])) _
            refine X0.ldc2Long hx hown (mvT hZ (hw _ (own_m 0 rfl))) (g := (mkF m 207 #[s0, s1, s2, s3, .val (.long q3), .second, iv p3, s7, s8, s9, s10, s11, s12, s13, s14, s15, s16, .val (.long tt), .second, .val (.int ((p3 &&& (2147483647 : Int32)) % (7 : Int32))), .unset, .unset, .unset] [(.long tt)])) rfl (hb hby at_207) _ ?_
            show Steps p.tables e below (T0.setTop (mkF m 210 #[s0, s1, s2, s3, .val (.long q3), .second, iv p3, s7, s8, s9, s10, s11, s12, s13, s14, s15, s16, .val (.long tt), .second, .val (.int ((p3 &&& (2147483647 : Int32)) % (7 : Int32))), .unset, .unset, .unset] [(.long 9223372036854775807), (.long tt)])) _
            refine XS.lcmp X0.here hx rfl (hb hby at_210) rfl ?_
            show Steps p.tables e below (T0.setTop (mkF m 211 #[s0, s1, s2, s3, .val (.long q3), .second, iv p3, s7, s8, s9, s10, s11, s12, s13, s14, s15, s16, .val (.long tt), .second, .val (.int ((p3 &&& (2147483647 : Int32)) % (7 : Int32))), .unset, .unset, .unset] [(.int (lcmpW tt (9223372036854775807 : Int64)))])) _
            refine XS.ifNo X0.here hx rfl (hb hby at_211) rfl ((if0 _ _).trans (tlt ((lw_lt _ _).mpr hc5)).2.1) ?_
            show Steps p.tables e below (T0.setTop (mkF m 214 #[s0, s1, s2, s3, .val (.long q3), .second, iv p3, s7, s8, s9, s10, s11, s12, s13, s14, s15, s16, .val (.long tt), .second, .val (.int ((p3 &&& (2147483647 : Int32)) % (7 : Int32))), .unset, .unset, .unset] [])) _
            refine XS.lload X0.here hx rfl (hb hby at_214) rfl ?_
            show Steps p.tables e below (T0.setTop (mkF m 216 #[s0, s1, s2, s3, .val (.long q3), .second, iv p3, s7, s8, s9, s10, s11, s12, s13, s14, s15, s16, .val (.long tt), .second, .val (.int ((p3 &&& (2147483647 : Int32)) % (7 : Int32))), .unset, .unset, .unset] [(.long tt)])) _
            refine XS.lconst X0.here hx rfl (hb hby at_216) ?_
            show Steps p.tables e below (T0.setTop (mkF m 217 #[s0, s1, s2, s3, .val (.long q3), .second, iv p3, s7, s8, s9, s10, s11, s12, s13, s14, s15, s16, .val (.long tt), .second, .val (.int ((p3 &&& (2147483647 : Int32)) % (7 : Int32))), .unset, .unset, .unset] [(.long 1), (.long tt)])) _
            refine XS.ladd X0.here hx rfl (hb hby at_217) rfl ?_
            show Steps p.tables e below (T0.setTop (mkF m 218 #[s0, s1, s2, s3, .val (.long q3), .second, iv p3, s7, s8, s9, s10, s11, s12, s13, s14, s15, s16, .val (.long tt), .second, .val (.int ((p3 &&& (2147483647 : Int32)) % (7 : Int32))), .unset, .unset, .unset] [(.long (tt + (1 : Int64)))])) _
            refine XS.goto X0.here hx rfl (pc0 := 218) (pc' := 223) rfl (hb hby at_218) (by decide) (by decide) ?_
            show Steps p.tables e below (T0.setTop (mkF m 223 #[s0, s1, s2, s3, .val (.long q3), .second, iv p3, s7, s8, s9, s10, s11, s12, s13, s14, s15, s16, .val (.long tt), .second, .val (.int ((p3 &&& (2147483647 : Int32)) % (7 : Int32))), .unset, .unset, .unset] [(.long (tt + (1 : Int64)))])) _
            refine XS.lstore X0.here hx rfl (hb hby at_223) rfl (l' := #[s0, s1, s2, s3, .val (.long q3), .second, iv p3, s7, s8, s9, s10, s11, s12, s13, s14, s15, s16, .val (.long tt), .second, .val (.int ((p3 &&& (2147483647 : Int32)) % (7 : Int32))), .val (.long (tt + (1 : Int64))), .second, .unset]) rfl ?_
            show Steps p.tables e below (T0.setTop (mkF m 225 #[s0, s1, s2, s3, .val (.long q3), .second, iv p3, s7, s8, s9, s10, s11, s12, s13, s14, s15, s16, .val (.long tt), .second, .val (.int ((p3 &&& (2147483647 : Int32)) % (7 : Int32))), .val (.long (tt + (1 : Int64))), .second, .unset] [])) _
            refine XS.goto X0.here hx rfl (pc0 := 225) (pc' := 257) rfl (hb hby at_225) (by decide) (by decide) ?_
            show Steps p.tables e below (T0.setTop (mkF m 257 #[s0, s1, s2, s3, .val (.long q3), .second, iv p3, s7, s8, s9, s10, s11, s12, s13, s14, s15, s16, .val (.long tt), .second, .val (.int ((p3 &&& (2147483647 : Int32)) % (7 : Int32))), .val (.long (tt + (1 : Int64))), .second, .unset] [])) _
            exact kt
          · refine ⟨q3, T0, _, trivial, X0, N0, e0, fun target kt => ?_⟩
            show Steps p.tables e below (T0.setTop (mkF m 149 #[s0, s1, s2, s3, .val (.long q3), .second, iv p3, s7, s8, s9, s10, s11, s12, s13, s14, s15, s16, .val (.long tt), .second, .val (.long pr), .second, .unset, .unset] [])) _
            refine XS.iload X0.here hx rfl (hb hby at_149) rfl ?_
            show Steps p.tables e below (T0.setTop (mkF m 151 #[s0, s1, s2, s3, .val (.long q3), .second, iv p3, s7, s8, s9, s10, s11, s12, s13, s14, s15, s16, .val (.long tt), .second, .val (.long pr), .second, .unset, .unset] [(.int p3)])) _
            refine X0.ldcInt hx hown (mvT hZ (hw _ (own_m 1 rfl))) (g := (mkF m 151 #[s0, s1, s2, s3, .val (.long q3), .second, iv p3, s7, s8, s9, s10, s11, s12, s13, s14, s15, s16, .val (.long tt), .second, .val (.long pr), .second, .unset, .unset] [(.int p3)])) rfl (hb hby at_151) _ ?_
            show Steps p.tables e below (T0.setTop (mkF m 153 #[s0, s1, s2, s3, .val (.long q3), .second, iv p3, s7, s8, s9, s10, s11, s12, s13, s14, s15, s16, .val (.long tt), .second, .val (.long pr), .second, .unset, .unset] [(.int 2147483647), (.int p3)])) _
            refine XS.iand X0.here hx rfl (hb hby at_153) rfl ?_
            show Steps p.tables e below (T0.setTop (mkF m 154 #[s0, s1, s2, s3, .val (.long q3), .second, iv p3, s7, s8, s9, s10, s11, s12, s13, s14, s15, s16, .val (.long tt), .second, .val (.long pr), .second, .unset, .unset] [(.int (p3 &&& (2147483647 : Int32)))])) _
            refine XS.bipush X0.here hx rfl (hb hby at_154) ?_
            show Steps p.tables e below (T0.setTop (mkF m 156 #[s0, s1, s2, s3, .val (.long q3), .second, iv p3, s7, s8, s9, s10, s11, s12, s13, s14, s15, s16, .val (.long tt), .second, .val (.long pr), .second, .unset, .unset] [(.int 7), (.int (p3 &&& (2147483647 : Int32)))])) _
            refine iremM X0 hx rfl (hb hby at_156) rfl (by decide) ?_
            show Steps p.tables e below (T0.setTop (mkF m 157 #[s0, s1, s2, s3, .val (.long q3), .second, iv p3, s7, s8, s9, s10, s11, s12, s13, s14, s15, s16, .val (.long tt), .second, .val (.long pr), .second, .unset, .unset] [(.int ((p3 &&& (2147483647 : Int32)) % (7 : Int32)))])) _
            refine XS.istore X0.here hx rfl (hb hby at_157) rfl (l' := #[s0, s1, s2, s3, .val (.long q3), .second, iv p3, s7, s8, s9, s10, s11, s12, s13, s14, s15, s16, .val (.long tt), .second, .val (.int ((p3 &&& (2147483647 : Int32)) % (7 : Int32))), .unset, .unset, .unset]) rfl ?_
            show Steps p.tables e below (T0.setTop (mkF m 159 #[s0, s1, s2, s3, .val (.long q3), .second, iv p3, s7, s8, s9, s10, s11, s12, s13, s14, s15, s16, .val (.long tt), .second, .val (.int ((p3 &&& (2147483647 : Int32)) % (7 : Int32))), .unset, .unset, .unset] [])) _
            refine XS.iload X0.here hx rfl (hb hby at_159) rfl ?_
            show Steps p.tables e below (T0.setTop (mkF m 161 #[s0, s1, s2, s3, .val (.long q3), .second, iv p3, s7, s8, s9, s10, s11, s12, s13, s14, s15, s16, .val (.long tt), .second, .val (.int ((p3 &&& (2147483647 : Int32)) % (7 : Int32))), .unset, .unset, .unset] [(.int ((p3 &&& (2147483647 : Int32)) % (7 : Int32)))])) _
            refine XS.ifYes X0.here hx rfl (pc0 := 161) (pc' := 171) rfl (hb hby at_161) rfl ((if0 _ _).trans (feq hc1).2) (by decide) (by decide) ?_
            show Steps p.tables e below (T0.setTop (mkF m 171 #[s0, s1, s2, s3, .val (.long q3), .second, iv p3, s7, s8, s9, s10, s11, s12, s13, s14, s15, s16, .val (.long tt), .second, .val (.int ((p3 &&& (2147483647 : Int32)) % (7 : Int32))), .unset, .unset, .unset] [])) _
            refine XS.iload X0.here hx rfl (hb hby at_171) rfl ?_
            show Steps p.tables e below (T0.setTop (mkF m 173 #[s0, s1, s2, s3, .val (.long q3), .second, iv p3, s7, s8, s9, s10, s11, s12, s13, s14, s15, s16, .val (.long tt), .second, .val (.int ((p3 &&& (2147483647 : Int32)) % (7 : Int32))), .unset, .unset, .unset] [(.int ((p3 &&& (2147483647 : Int32)) % (7 : Int32)))])) _
            refine XS.iconst X0.here hx rfl (hb hby at_173) ?_
            show Steps p.tables e below (T0.setTop (mkF m 174 #[s0, s1, s2, s3, .val (.long q3), .second, iv p3, s7, s8, s9, s10, s11, s12, s13, s14, s15, s16, .val (.long tt), .second, .val (.int ((p3 &&& (2147483647 : Int32)) % (7 : Int32))), .unset, .unset, .unset] [(.int 1), (.int ((p3 &&& (2147483647 : Int32)) % (7 : Int32)))])) _
            refine XS.icmpYes X0.here hx rfl (pc0 := 174) (pc' := 186) rfl (hb hby at_174) rfl (feq hc2).2 (by decide) (by decide) ?_
            show Steps p.tables e below (T0.setTop (mkF m 186 #[s0, s1, s2, s3, .val (.long q3), .second, iv p3, s7, s8, s9, s10, s11, s12, s13, s14, s15, s16, .val (.long tt), .second, .val (.int ((p3 &&& (2147483647 : Int32)) % (7 : Int32))), .unset, .unset, .unset] [])) _
            refine XS.iload X0.here hx rfl (hb hby at_186) rfl ?_
            show Steps p.tables e below (T0.setTop (mkF m 188 #[s0, s1, s2, s3, .val (.long q3), .second, iv p3, s7, s8, s9, s10, s11, s12, s13, s14, s15, s16, .val (.long tt), .second, .val (.int ((p3 &&& (2147483647 : Int32)) % (7 : Int32))), .unset, .unset, .unset] [(.int ((p3 &&& (2147483647 : Int32)) % (7 : Int32)))])) _
            refine XS.iconst X0.here hx rfl (hb hby at_188) ?_
            show Steps p.tables e below (T0.setTop (mkF m 189 #[s0, s1, s2, s3, .val (.long q3), .second, iv p3, s7, s8, s9, s10, s11, s12, s13, s14, s15, s16, .val (.long tt), .second, .val (.int ((p3 &&& (2147483647 : Int32)) % (7 : Int32))), .unset, .unset, .unset] [(.int 2), (.int ((p3 &&& (2147483647 : Int32)) % (7 : Int32)))])) _
            refine XS.icmpYes X0.here hx rfl (pc0 := 189) (pc' := 199) rfl (hb hby at_189) rfl (feq hc3).2 (by decide) (by decide) ?_
            show Steps p.tables e below (T0.setTop (mkF m 199 #[s0, s1, s2, s3, .val (.long q3), .second, iv p3, s7, s8, s9, s10, s11, s12, s13, s14, s15, s16, .val (.long tt), .second, .val (.int ((p3 &&& (2147483647 : Int32)) % (7 : Int32))), .unset, .unset, .unset] [])) _
            refine XS.iload X0.here hx rfl (hb hby at_199) rfl ?_
            show Steps p.tables e below (T0.setTop (mkF m 201 #[s0, s1, s2, s3, .val (.long q3), .second, iv p3, s7, s8, s9, s10, s11, s12, s13, s14, s15, s16, .val (.long tt), .second, .val (.int ((p3 &&& (2147483647 : Int32)) % (7 : Int32))), .unset, .unset, .unset] [(.int ((p3 &&& (2147483647 : Int32)) % (7 : Int32)))])) _
            refine XS.iconst X0.here hx rfl (hb hby at_201) ?_
            show Steps p.tables e below (T0.setTop (mkF m 202 #[s0, s1, s2, s3, .val (.long q3), .second, iv p3, s7, s8, s9, s10, s11, s12, s13, s14, s15, s16, .val (.long tt), .second, .val (.int ((p3 &&& (2147483647 : Int32)) % (7 : Int32))), .unset, .unset, .unset] [(.int 3), (.int ((p3 &&& (2147483647 : Int32)) % (7 : Int32)))])) _
            refine XS.icmpNo X0.here hx rfl (hb hby at_202) rfl (teq hc4).2 ?_
            show Steps p.tables e below (T0.setTop (mkF m 205 #[s0, s1, s2, s3, .val (.long q3), .second, iv p3, s7, s8, s9, s10, s11, s12, s13, s14, s15, s16, .val (.long tt), .second, .val (.int ((p3 &&& (2147483647 : Int32)) % (7 : Int32))), .unset, .unset, .unset] [])) _
            refine XS.lload X0.here hx rfl (hb hby at_205) rfl ?_
            show Steps p.tables e below (T0.setTop (mkF m 207 #[s0, s1, s2, s3, .val (.long q3), .second, iv p3, s7, s8, s9, s10, s11, s12, s13, s14, s15, s16, .val (.long tt), .second, .val (.int ((p3 &&& (2147483647 : Int32)) % (7 : Int32))), .unset, .unset, .unset] [(.long tt)])) _
            refine X0.ldc2Long hx hown (mvT hZ (hw _ (own_m 0 rfl))) (g := (mkF m 207 #[s0, s1, s2, s3, .val (.long q3), .second, iv p3, s7, s8, s9, s10, s11, s12, s13, s14, s15, s16, .val (.long tt), .second, .val (.int ((p3 &&& (2147483647 : Int32)) % (7 : Int32))), .unset, .unset, .unset] [(.long tt)])) rfl (hb hby at_207) _ ?_
            show Steps p.tables e below (T0.setTop (mkF m 210 #[s0, s1, s2, s3, .val (.long q3), .second, iv p3, s7, s8, s9, s10, s11, s12, s13, s14, s15, s16, .val (.long tt), .second, .val (.int ((p3 &&& (2147483647 : Int32)) % (7 : Int32))), .unset, .unset, .unset] [(.long 9223372036854775807), (.long tt)])) _
            refine XS.lcmp X0.here hx rfl (hb hby at_210) rfl ?_
            show Steps p.tables e below (T0.setTop (mkF m 211 #[s0, s1, s2, s3, .val (.long q3), .second, iv p3, s7, s8, s9, s10, s11, s12, s13, s14, s15, s16, .val (.long tt), .second, .val (.int ((p3 &&& (2147483647 : Int32)) % (7 : Int32))), .unset, .unset, .unset] [(.int (lcmpW tt (9223372036854775807 : Int64)))])) _
            refine XS.ifYes X0.here hx rfl (pc0 := 211) (pc' := 221) rfl (hb hby at_211) rfl ((if0 _ _).trans (flt (fun q => hc5 ((lw_lt _ _).mp q))).2.1) (by decide) (by decide) ?_
            show Steps p.tables e below (T0.setTop (mkF m 221 #[s0, s1, s2, s3, .val (.long q3), .second, iv p3, s7, s8, s9, s10, s11, s12, s13, s14, s15, s16, .val (.long tt), .second, .val (.int ((p3 &&& (2147483647 : Int32)) % (7 : Int32))), .unset, .unset, .unset] [])) _
            refine XS.lload X0.here hx rfl (hb hby at_221) rfl ?_
            show Steps p.tables e below (T0.setTop (mkF m 223 #[s0, s1, s2, s3, .val (.long q3), .second, iv p3, s7, s8, s9, s10, s11, s12, s13, s14, s15, s16, .val (.long tt), .second, .val (.int ((p3 &&& (2147483647 : Int32)) % (7 : Int32))), .unset, .unset, .unset] [(.long q3)])) _
            refine XS.lstore X0.here hx rfl (hb hby at_223) rfl (l' := #[s0, s1, s2, s3, .val (.long q3), .second, iv p3, s7, s8, s9, s10, s11, s12, s13, s14, s15, s16, .val (.long tt), .second, .val (.int ((p3 &&& (2147483647 : Int32)) % (7 : Int32))), .val (.long q3), .second, .unset]) rfl ?_
            show Steps p.tables e below (T0.setTop (mkF m 225 #[s0, s1, s2, s3, .val (.long q3), .second, iv p3, s7, s8, s9, s10, s11, s12, s13, s14, s15, s16, .val (.long tt), .second, .val (.int ((p3 &&& (2147483647 : Int32)) % (7 : Int32))), .val (.long q3), .second, .unset] [])) _
            refine XS.goto X0.here hx rfl (pc0 := 225) (pc' := 257) rfl (hb hby at_225) (by decide) (by decide) ?_
            show Steps p.tables e below (T0.setTop (mkF m 257 #[s0, s1, s2, s3, .val (.long q3), .second, iv p3, s7, s8, s9, s10, s11, s12, s13, s14, s15, s16, .val (.long tt), .second, .val (.int ((p3 &&& (2147483647 : Int32)) % (7 : Int32))), .val (.long q3), .second, .unset] [])) _
            exact kt
        · by_cases hc6 : ((p3 &&& (2147483647 : Int32)) % (7 : Int32)) = (4 : Int32)
          · refine ⟨(0 : Int64), T0, _, trivial, X0, N0, e0, fun target kt => ?_⟩
            show Steps p.tables e below (T0.setTop (mkF m 149 #[s0, s1, s2, s3, .val (.long q3), .second, iv p3, s7, s8, s9, s10, s11, s12, s13, s14, s15, s16, .val (.long tt), .second, .val (.long pr), .second, .unset, .unset] [])) _
            refine XS.iload X0.here hx rfl (hb hby at_149) rfl ?_
            show Steps p.tables e below (T0.setTop (mkF m 151 #[s0, s1, s2, s3, .val (.long q3), .second, iv p3, s7, s8, s9, s10, s11, s12, s13, s14, s15, s16, .val (.long tt), .second, .val (.long pr), .second, .unset, .unset] [(.int p3)])) _
            refine X0.ldcInt hx hown (mvT hZ (hw _ (own_m 1 rfl))) (g := (mkF m 151 #[s0, s1, s2, s3, .val (.long q3), .second, iv p3, s7, s8, s9, s10, s11, s12, s13, s14, s15, s16, .val (.long tt), .second, .val (.long pr), .second, .unset, .unset] [(.int p3)])) rfl (hb hby at_151) _ ?_
            show Steps p.tables e below (T0.setTop (mkF m 153 #[s0, s1, s2, s3, .val (.long q3), .second, iv p3, s7, s8, s9, s10, s11, s12, s13, s14, s15, s16, .val (.long tt), .second, .val (.long pr), .second, .unset, .unset] [(.int 2147483647), (.int p3)])) _
            refine XS.iand X0.here hx rfl (hb hby at_153) rfl ?_
            show Steps p.tables e below (T0.setTop (mkF m 154 #[s0, s1, s2, s3, .val (.long q3), .second, iv p3, s7, s8, s9, s10, s11, s12, s13, s14, s15, s16, .val (.long tt), .second, .val (.long pr), .second, .unset, .unset] [(.int (p3 &&& (2147483647 : Int32)))])) _
            refine XS.bipush X0.here hx rfl (hb hby at_154) ?_
            show Steps p.tables e below (T0.setTop (mkF m 156 #[s0, s1, s2, s3, .val (.long q3), .second, iv p3, s7, s8, s9, s10, s11, s12, s13, s14, s15, s16, .val (.long tt), .second, .val (.long pr), .second, .unset, .unset] [(.int 7), (.int (p3 &&& (2147483647 : Int32)))])) _
            refine iremM X0 hx rfl (hb hby at_156) rfl (by decide) ?_
            show Steps p.tables e below (T0.setTop (mkF m 157 #[s0, s1, s2, s3, .val (.long q3), .second, iv p3, s7, s8, s9, s10, s11, s12, s13, s14, s15, s16, .val (.long tt), .second, .val (.long pr), .second, .unset, .unset] [(.int ((p3 &&& (2147483647 : Int32)) % (7 : Int32)))])) _
            refine XS.istore X0.here hx rfl (hb hby at_157) rfl (l' := #[s0, s1, s2, s3, .val (.long q3), .second, iv p3, s7, s8, s9, s10, s11, s12, s13, s14, s15, s16, .val (.long tt), .second, .val (.int ((p3 &&& (2147483647 : Int32)) % (7 : Int32))), .unset, .unset, .unset]) rfl ?_
            show Steps p.tables e below (T0.setTop (mkF m 159 #[s0, s1, s2, s3, .val (.long q3), .second, iv p3, s7, s8, s9, s10, s11, s12, s13, s14, s15, s16, .val (.long tt), .second, .val (.int ((p3 &&& (2147483647 : Int32)) % (7 : Int32))), .unset, .unset, .unset] [])) _
            refine XS.iload X0.here hx rfl (hb hby at_159) rfl ?_
            show Steps p.tables e below (T0.setTop (mkF m 161 #[s0, s1, s2, s3, .val (.long q3), .second, iv p3, s7, s8, s9, s10, s11, s12, s13, s14, s15, s16, .val (.long tt), .second, .val (.int ((p3 &&& (2147483647 : Int32)) % (7 : Int32))), .unset, .unset, .unset] [(.int ((p3 &&& (2147483647 : Int32)) % (7 : Int32)))])) _
            refine XS.ifYes X0.here hx rfl (pc0 := 161) (pc' := 171) rfl (hb hby at_161) rfl ((if0 _ _).trans (feq hc1).2) (by decide) (by decide) ?_
            show Steps p.tables e below (T0.setTop (mkF m 171 #[s0, s1, s2, s3, .val (.long q3), .second, iv p3, s7, s8, s9, s10, s11, s12, s13, s14, s15, s16, .val (.long tt), .second, .val (.int ((p3 &&& (2147483647 : Int32)) % (7 : Int32))), .unset, .unset, .unset] [])) _
            refine XS.iload X0.here hx rfl (hb hby at_171) rfl ?_
            show Steps p.tables e below (T0.setTop (mkF m 173 #[s0, s1, s2, s3, .val (.long q3), .second, iv p3, s7, s8, s9, s10, s11, s12, s13, s14, s15, s16, .val (.long tt), .second, .val (.int ((p3 &&& (2147483647 : Int32)) % (7 : Int32))), .unset, .unset, .unset] [(.int ((p3 &&& (2147483647 : Int32)) % (7 : Int32)))])) _
            refine XS.iconst X0.here hx rfl (hb hby at_173) ?_
            show Steps p.tables e below (T0.setTop (mkF m 174 #[s0, s1, s2, s3, .val (.long q3), .second, iv p3, s7, s8, s9, s10, s11, s12, s13, s14, s15, s16, .val (.long tt), .second, .val (.int ((p3 &&& (2147483647 : Int32)) % (7 : Int32))), .unset, .unset, .unset] [(.int 1), (.int ((p3 &&& (2147483647 : Int32)) % (7 : Int32)))])) _
            refine XS.icmpYes X0.here hx rfl (pc0 := 174) (pc' := 186) rfl (hb hby at_174) rfl (feq hc2).2 (by decide) (by decide) ?_
            show Steps p.tables e below (T0.setTop (mkF m 186 #[s0, s1, s2, s3, .val (.long q3), .second, iv p3, s7, s8, s9, s10, s11, s12, s13, s14, s15, s16, .val (.long tt), .second, .val (.int ((p3 &&& (2147483647 : Int32)) % (7 : Int32))), .unset, .unset, .unset] [])) _
            refine XS.iload X0.here hx rfl (hb hby at_186) rfl ?_
            show Steps p.tables e below (T0.setTop (mkF m 188 #[s0, s1, s2, s3, .val (.long q3), .second, iv p3, s7, s8, s9, s10, s11, s12, s13, s14, s15, s16, .val (.long tt), .second, .val (.int ((p3 &&& (2147483647 : Int32)) % (7 : Int32))), .unset, .unset, .unset] [(.int ((p3 &&& (2147483647 : Int32)) % (7 : Int32)))])) _
            refine XS.iconst X0.here hx rfl (hb hby at_188) ?_
            show Steps p.tables e below (T0.setTop (mkF m 189 #[s0, s1, s2, s3, .val (.long q3), .second, iv p3, s7, s8, s9, s10, s11, s12, s13, s14, s15, s16, .val (.long tt), .second, .val (.int ((p3 &&& (2147483647 : Int32)) % (7 : Int32))), .unset, .unset, .unset] [(.int 2), (.int ((p3 &&& (2147483647 : Int32)) % (7 : Int32)))])) _
            refine XS.icmpYes X0.here hx rfl (pc0 := 189) (pc' := 199) rfl (hb hby at_189) rfl (feq hc3).2 (by decide) (by decide) ?_
            show Steps p.tables e below (T0.setTop (mkF m 199 #[s0, s1, s2, s3, .val (.long q3), .second, iv p3, s7, s8, s9, s10, s11, s12, s13, s14, s15, s16, .val (.long tt), .second, .val (.int ((p3 &&& (2147483647 : Int32)) % (7 : Int32))), .unset, .unset, .unset] [])) _
            refine XS.iload X0.here hx rfl (hb hby at_199) rfl ?_
            show Steps p.tables e below (T0.setTop (mkF m 201 #[s0, s1, s2, s3, .val (.long q3), .second, iv p3, s7, s8, s9, s10, s11, s12, s13, s14, s15, s16, .val (.long tt), .second, .val (.int ((p3 &&& (2147483647 : Int32)) % (7 : Int32))), .unset, .unset, .unset] [(.int ((p3 &&& (2147483647 : Int32)) % (7 : Int32)))])) _
            refine XS.iconst X0.here hx rfl (hb hby at_201) ?_
            show Steps p.tables e below (T0.setTop (mkF m 202 #[s0, s1, s2, s3, .val (.long q3), .second, iv p3, s7, s8, s9, s10, s11, s12, s13, s14, s15, s16, .val (.long tt), .second, .val (.int ((p3 &&& (2147483647 : Int32)) % (7 : Int32))), .unset, .unset, .unset] [(.int 3), (.int ((p3 &&& (2147483647 : Int32)) % (7 : Int32)))])) _
            refine XS.icmpYes X0.here hx rfl (pc0 := 202) (pc' := 228) rfl (hb hby at_202) rfl (feq hc4).2 (by decide) (by decide) ?_
            show Steps p.tables e below (T0.setTop (mkF m 228 #[s0, s1, s2, s3, .val (.long q3), .second, iv p3, s7, s8, s9, s10, s11, s12, s13, s14, s15, s16, .val (.long tt), .second, .val (.int ((p3 &&& (2147483647 : Int32)) % (7 : Int32))), .unset, .unset, .unset] [])) _
            refine XS.iload X0.here hx rfl (hb hby at_228) rfl ?_
            show Steps p.tables e below (T0.setTop (mkF m 230 #[s0, s1, s2, s3, .val (.long q3), .second, iv p3, s7, s8, s9, s10, s11, s12, s13, s14, s15, s16, .val (.long tt), .second, .val (.int ((p3 &&& (2147483647 : Int32)) % (7 : Int32))), .unset, .unset, .unset] [(.int ((p3 &&& (2147483647 : Int32)) % (7 : Int32)))])) _
            refine XS.iconst X0.here hx rfl (hb hby at_230) ?_
            show Steps p.tables e below (T0.setTop (mkF m 231 #[s0, s1, s2, s3, .val (.long q3), .second, iv p3, s7, s8, s9, s10, s11, s12, s13, s14, s15, s16, .val (.long tt), .second, .val (.int ((p3 &&& (2147483647 : Int32)) % (7 : Int32))), .unset, .unset, .unset] [(.int 4), (.int ((p3 &&& (2147483647 : Int32)) % (7 : Int32)))])) _
            refine XS.icmpNo X0.here hx rfl (hb hby at_231) rfl (teq hc6).2 ?_
            show Steps p.tables e below (T0.setTop (mkF m 234 #[s0, s1, s2, s3, .val (.long q3), .second, iv p3, s7, s8, s9, s10, s11, s12, s13, s14, s15, s16, .val (.long tt), .second, .val (.int ((p3 &&& (2147483647 : Int32)) % (7 : Int32))), .unset, .unset, .unset] [])) _
            refine XS.lconst X0.here hx rfl (hb hby at_234) ?_
            show Steps p.tables e below (T0.setTop (mkF m 235 #[s0, s1, s2, s3, .val (.long q3), .second, iv p3, s7, s8, s9, s10, s11, s12, s13, s14, s15, s16, .val (.long tt), .second, .val (.int ((p3 &&& (2147483647 : Int32)) % (7 : Int32))), .unset, .unset, .unset] [(.long 0)])) _
            refine XS.lstore X0.here hx rfl (hb hby at_235) rfl (l' := #[s0, s1, s2, s3, .val (.long q3), .second, iv p3, s7, s8, s9, s10, s11, s12, s13, s14, s15, s16, .val (.long tt), .second, .val (.int ((p3 &&& (2147483647 : Int32)) % (7 : Int32))), .val (.long 0), .second, .unset]) rfl ?_
            show Steps p.tables e below (T0.setTop (mkF m 237 #[s0, s1, s2, s3, .val (.long q3), .second, iv p3, s7, s8, s9, s10, s11, s12, s13, s14, s15, s16, .val (.long tt), .second, .val (.int ((p3 &&& (2147483647 : Int32)) % (7 : Int32))), .val (.long 0), .second, .unset] [])) _
            refine XS.goto X0.here hx rfl (pc0 := 237) (pc' := 257) rfl (hb hby at_237) (by decide) (by decide) ?_
            show Steps p.tables e below (T0.setTop (mkF m 257 #[s0, s1, s2, s3, .val (.long q3), .second, iv p3, s7, s8, s9, s10, s11, s12, s13, s14, s15, s16, .val (.long tt), .second, .val (.int ((p3 &&& (2147483647 : Int32)) % (7 : Int32))), .val (.long 0), .second, .unset] [])) _
            exact kt
          · by_cases hc7 : ((p3 &&& (2147483647 : Int32)) % (7 : Int32)) = (5 : Int32)
            · refine ⟨(-1 : Int64), T0, _, trivial, X0, N0, e0, fun target kt => ?_⟩
              show Steps p.tables e below (T0.setTop (mkF m 149 #[s0, s1, s2, s3, .val (.long q3), .second, iv p3, s7, s8, s9, s10, s11, s12, s13, s14, s15, s16, .val (.long tt), .second, .val (.long pr), .second, .unset, .unset] [])) _
              refine XS.iload X0.here hx rfl (hb hby at_149) rfl ?_
              show Steps p.tables e below (T0.setTop (mkF m 151 #[s0, s1, s2, s3, .val (.long q3), .second, iv p3, s7, s8, s9, s10, s11, s12, s13, s14, s15, s16, .val (.long tt), .second, .val (.long pr), .second, .unset, .unset] [(.int p3)])) _
              refine X0.ldcInt hx hown (mvT hZ (hw _ (own_m 1 rfl))) (g := (mkF m 151 #[s0, s1, s2, s3, .val (.long q3), .second, iv p3, s7, s8, s9, s10, s11, s12, s13, s14, s15, s16, .val (.long tt), .second, .val (.long pr), .second, .unset, .unset] [(.int p3)])) rfl (hb hby at_151) _ ?_
              show Steps p.tables e below (T0.setTop (mkF m 153 #[s0, s1, s2, s3, .val (.long q3), .second, iv p3, s7, s8, s9, s10, s11, s12, s13, s14, s15, s16, .val (.long tt), .second, .val (.long pr), .second, .unset, .unset] [(.int 2147483647), (.int p3)])) _
              refine XS.iand X0.here hx rfl (hb hby at_153) rfl ?_
              show Steps p.tables e below (T0.setTop (mkF m 154 #[s0, s1, s2, s3, .val (.long q3), .second, iv p3, s7, s8, s9, s10, s11, s12, s13, s14, s15, s16, .val (.long tt), .second, .val (.long pr), .second, .unset, .unset] [(.int (p3 &&& (2147483647 : Int32)))])) _
              refine XS.bipush X0.here hx rfl (hb hby at_154) ?_
              show Steps p.tables e below (T0.setTop (mkF m 156 #[s0, s1, s2, s3, .val (.long q3), .second, iv p3, s7, s8, s9, s10, s11, s12, s13, s14, s15, s16, .val (.long tt), .second, .val (.long pr), .second, .unset, .unset] [(.int 7), (.int (p3 &&& (2147483647 : Int32)))])) _
              refine iremM X0 hx rfl (hb hby at_156) rfl (by decide) ?_
              show Steps p.tables e below (T0.setTop (mkF m 157 #[s0, s1, s2, s3, .val (.long q3), .second, iv p3, s7, s8, s9, s10, s11, s12, s13, s14, s15, s16, .val (.long tt), .second, .val (.long pr), .second, .unset, .unset] [(.int ((p3 &&& (2147483647 : Int32)) % (7 : Int32)))])) _
              refine XS.istore X0.here hx rfl (hb hby at_157) rfl (l' := #[s0, s1, s2, s3, .val (.long q3), .second, iv p3, s7, s8, s9, s10, s11, s12, s13, s14, s15, s16, .val (.long tt), .second, .val (.int ((p3 &&& (2147483647 : Int32)) % (7 : Int32))), .unset, .unset, .unset]) rfl ?_
              show Steps p.tables e below (T0.setTop (mkF m 159 #[s0, s1, s2, s3, .val (.long q3), .second, iv p3, s7, s8, s9, s10, s11, s12, s13, s14, s15, s16, .val (.long tt), .second, .val (.int ((p3 &&& (2147483647 : Int32)) % (7 : Int32))), .unset, .unset, .unset] [])) _
              refine XS.iload X0.here hx rfl (hb hby at_159) rfl ?_
              show Steps p.tables e below (T0.setTop (mkF m 161 #[s0, s1, s2, s3, .val (.long q3), .second, iv p3, s7, s8, s9, s10, s11, s12, s13, s14, s15, s16, .val (.long tt), .second, .val (.int ((p3 &&& (2147483647 : Int32)) % (7 : Int32))), .unset, .unset, .unset] [(.int ((p3 &&& (2147483647 : Int32)) % (7 : Int32)))])) _
              refine XS.ifYes X0.here hx rfl (pc0 := 161) (pc' := 171) rfl (hb hby at_161) rfl ((if0 _ _).trans (feq hc1).2) (by decide) (by decide) ?_
              show Steps p.tables e below (T0.setTop (mkF m 171 #[s0, s1, s2, s3, .val (.long q3), .second, iv p3, s7, s8, s9, s10, s11, s12, s13, s14, s15, s16, .val (.long tt), .second, .val (.int ((p3 &&& (2147483647 : Int32)) % (7 : Int32))), .unset, .unset, .unset] [])) _
              refine XS.iload X0.here hx rfl (hb hby at_171) rfl ?_
              show Steps p.tables e below (T0.setTop (mkF m 173 #[s0, s1, s2, s3, .val (.long q3), .second, iv p3, s7, s8, s9, s10, s11, s12, s13, s14, s15, s16, .val (.long tt), .second, .val (.int ((p3 &&& (2147483647 : Int32)) % (7 : Int32))), .unset, .unset, .unset] [(.int ((p3 &&& (2147483647 : Int32)) % (7 : Int32)))])) _
              refine XS.iconst X0.here hx rfl (hb hby at_173) ?_
              show Steps p.tables e below (T0.setTop (mkF m 174 #[s0, s1, s2, s3, .val (.long q3), .second, iv p3, s7, s8, s9, s10, s11, s12, s13, s14, s15, s16, .val (.long tt), .second, .val (.int ((p3 &&& (2147483647 : Int32)) % (7 : Int32))), .unset, .unset, .unset] [(.int 1), (.int ((p3 &&& (2147483647 : Int32)) % (7 : Int32)))])) _
              refine XS.icmpYes X0.here hx rfl (pc0 := 174) (pc' := 186) rfl (hb hby at_174) rfl (feq hc2).2 (by decide) (by decide) ?_
              show Steps p.tables e below (T0.setTop (mkF m 186 #[s0, s1, s2, s3, .val (.long q3), .second, iv p3, s7, s8, s9, s10, s11, s12, s13, s14, s15, s16, .val (.long tt), .second, .val (.int ((p3 &&& (2147483647 : Int32)) % (7 : Int32))), .unset, .unset, .unset] [])) _
              refine XS.iload X0.here hx rfl (hb hby at_186) rfl ?_
              show Steps p.tables e below (T0.setTop (mkF m 188 #[s0, s1, s2, s3, .val (.long q3), .second, iv p3, s7, s8, s9, s10, s11, s12, s13, s14, s15, s16, .val (.long tt), .second, .val (.int ((p3 &&& (2147483647 : Int32)) % (7 : Int32))), .unset, .unset, .unset] [(.int ((p3 &&& (2147483647 : Int32)) % (7 : Int32)))])) _
              refine XS.iconst X0.here hx rfl (hb hby at_188) ?_
              show Steps p.tables e below (T0.setTop (mkF m 189 #[s0, s1, s2, s3, .val (.long q3), .second, iv p3, s7, s8, s9, s10, s11, s12, s13, s14, s15, s16, .val (.long tt), .second, .val (.int ((p3 &&& (2147483647 : Int32)) % (7 : Int32))), .unset, .unset, .unset] [(.int 2), (.int ((p3 &&& (2147483647 : Int32)) % (7 : Int32)))])) _
              refine XS.icmpYes X0.here hx rfl (pc0 := 189) (pc' := 199) rfl (hb hby at_189) rfl (feq hc3).2 (by decide) (by decide) ?_
              show Steps p.tables e below (T0.setTop (mkF m 199 #[s0, s1, s2, s3, .val (.long q3), .second, iv p3, s7, s8, s9, s10, s11, s12, s13, s14, s15, s16, .val (.long tt), .second, .val (.int ((p3 &&& (2147483647 : Int32)) % (7 : Int32))), .unset, .unset, .unset] [])) _
              refine XS.iload X0.here hx rfl (hb hby at_199) rfl ?_
              show Steps p.tables e below (T0.setTop (mkF m 201 #[s0, s1, s2, s3, .val (.long q3), .second, iv p3, s7, s8, s9, s10, s11, s12, s13, s14, s15, s16, .val (.long tt), .second, .val (.int ((p3 &&& (2147483647 : Int32)) % (7 : Int32))), .unset, .unset, .unset] [(.int ((p3 &&& (2147483647 : Int32)) % (7 : Int32)))])) _
              refine XS.iconst X0.here hx rfl (hb hby at_201) ?_
              show Steps p.tables e below (T0.setTop (mkF m 202 #[s0, s1, s2, s3, .val (.long q3), .second, iv p3, s7, s8, s9, s10, s11, s12, s13, s14, s15, s16, .val (.long tt), .second, .val (.int ((p3 &&& (2147483647 : Int32)) % (7 : Int32))), .unset, .unset, .unset] [(.int 3), (.int ((p3 &&& (2147483647 : Int32)) % (7 : Int32)))])) _
              refine XS.icmpYes X0.here hx rfl (pc0 := 202) (pc' := 228) rfl (hb hby at_202) rfl (feq hc4).2 (by decide) (by decide) ?_
              show Steps p.tables e below (T0.setTop (mkF m 228 #[s0, s1, s2, s3, .val (.long q3), .second, iv p3, s7, s8, s9, s10, s11, s12, s13, s14, s15, s16, .val (.long tt), .second, .val (.int ((p3 &&& (2147483647 : Int32)) % (7 : Int32))), .unset, .unset, .unset] [])) _
              refine XS.iload X0.here hx rfl (hb hby at_228) rfl ?_
              show Steps p.tables e below (T0.setTop (mkF m 230 #[s0, s1, s2, s3, .val (.long q3), .second, iv p3, s7, s8, s9, s10, s11, s12, s13, s14, s15, s16, .val (.long tt), .second, .val (.int ((p3 &&& (2147483647 : Int32)) % (7 : Int32))), .unset, .unset, .unset] [(.int ((p3 &&& (2147483647 : Int32)) % (7 : Int32)))])) _
              refine XS.iconst X0.here hx rfl (hb hby at_230) ?_
              show Steps p.tables e below (T0.setTop (mkF m 231 #[s0, s1, s2, s3, .val (.long q3), .second, iv p3, s7, s8, s9, s10, s11, s12, s13, s14, s15, s16, .val (.long tt), .second, .val (.int ((p3 &&& (2147483647 : Int32)) % (7 : Int32))), .unset, .unset, .unset] [(.int 4), (.int ((p3 &&& (2147483647 : Int32)) % (7 : Int32)))])) _
              refine XS.icmpYes X0.here hx rfl (pc0 := 231) (pc' := 240) rfl (hb hby at_231) rfl (feq hc6).2 (by decide) (by decide) ?_
              show Steps p.tables e below (T0.setTop (mkF m 240 #[s0, s1, s2, s3, .val (.long q3), .second, iv p3, s7, s8, s9, s10, s11, s12, s13, s14, s15, s16, .val (.long tt), .second, .val (.int ((p3 &&& (2147483647 : Int32)) % (7 : Int32))), .unset, .unset, .unset] [])) _
              refine XS.iload X0.here hx rfl (hb hby at_240) rfl ?_
              show Steps p.tables e below (T0.setTop (mkF m 242 #[s0, s1, s2, s3, .val (.long q3), .second, iv p3, s7, s8, s9, s10, s11, s12, s13, s14, s15, s16, .val (.long tt), .second, .val (.int ((p3 &&& (2147483647 : Int32)) % (7 : Int32))), .unset, .unset, .unset] [(.int ((p3 &&& (2147483647 : Int32)) % (7 : Int32)))])) _
              refine XS.iconst X0.here hx rfl (hb hby at_242) ?_
              show Steps p.tables e below (T0.setTop (mkF m 243 #[s0, s1, s2, s3, .val (.long q3), .second, iv p3, s7, s8, s9, s10, s11, s12, s13, s14, s15, s16, .val (.long tt), .second, .val (.int ((p3 &&& (2147483647 : Int32)) % (7 : Int32))), .unset, .unset, .unset] [(.int 5), (.int ((p3 &&& (2147483647 : Int32)) % (7 : Int32)))])) _
              refine XS.icmpNo X0.here hx rfl (hb hby at_243) rfl (teq hc7).2 ?_
              show Steps p.tables e below (T0.setTop (mkF m 246 #[s0, s1, s2, s3, .val (.long q3), .second, iv p3, s7, s8, s9, s10, s11, s12, s13, s14, s15, s16, .val (.long tt), .second, .val (.int ((p3 &&& (2147483647 : Int32)) % (7 : Int32))), .unset, .unset, .unset] [])) _
              refine X0.ldc2Long hx hown (mvT hZ (hw _ (own_m 36 rfl))) (g := (mkF m 246 #[s0, s1, s2, s3, .val (.long q3), .second, iv p3, s7, s8, s9, s10, s11, s12, s13, s14, s15, s16, .val (.long tt), .second, .val (.int ((p3 &&& (2147483647 : Int32)) % (7 : Int32))), .unset, .unset, .unset] [])) rfl (hb hby at_246) _ ?_
              show Steps p.tables e below (T0.setTop (mkF m 249 #[s0, s1, s2, s3, .val (.long q3), .second, iv p3, s7, s8, s9, s10, s11, s12, s13, s14, s15, s16, .val (.long tt), .second, .val (.int ((p3 &&& (2147483647 : Int32)) % (7 : Int32))), .unset, .unset, .unset] [(.long (-1))])) _
              refine XS.lstore X0.here hx rfl (hb hby at_249) rfl (l' := #[s0, s1, s2, s3, .val (.long q3), .second, iv p3, s7, s8, s9, s10, s11, s12, s13, s14, s15, s16, .val (.long tt), .second, .val (.int ((p3 &&& (2147483647 : Int32)) % (7 : Int32))), .val (.long (-1)), .second, .unset]) rfl ?_
              show Steps p.tables e below (T0.setTop (mkF m 251 #[s0, s1, s2, s3, .val (.long q3), .second, iv p3, s7, s8, s9, s10, s11, s12, s13, s14, s15, s16, .val (.long tt), .second, .val (.int ((p3 &&& (2147483647 : Int32)) % (7 : Int32))), .val (.long (-1)), .second, .unset] [])) _
              refine XS.goto X0.here hx rfl (pc0 := 251) (pc' := 257) rfl (hb hby at_251) (by decide) (by decide) ?_
              show Steps p.tables e below (T0.setTop (mkF m 257 #[s0, s1, s2, s3, .val (.long q3), .second, iv p3, s7, s8, s9, s10, s11, s12, s13, s14, s15, s16, .val (.long tt), .second, .val (.int ((p3 &&& (2147483647 : Int32)) % (7 : Int32))), .val (.long (-1)), .second, .unset] [])) _
              exact kt
            · refine ⟨(1 : Int64), T0, _, trivial, X0, N0, e0, fun target kt => ?_⟩
              show Steps p.tables e below (T0.setTop (mkF m 149 #[s0, s1, s2, s3, .val (.long q3), .second, iv p3, s7, s8, s9, s10, s11, s12, s13, s14, s15, s16, .val (.long tt), .second, .val (.long pr), .second, .unset, .unset] [])) _
              refine XS.iload X0.here hx rfl (hb hby at_149) rfl ?_
              show Steps p.tables e below (T0.setTop (mkF m 151 #[s0, s1, s2, s3, .val (.long q3), .second, iv p3, s7, s8, s9, s10, s11, s12, s13, s14, s15, s16, .val (.long tt), .second, .val (.long pr), .second, .unset, .unset] [(.int p3)])) _
              refine X0.ldcInt hx hown (mvT hZ (hw _ (own_m 1 rfl))) (g := (mkF m 151 #[s0, s1, s2, s3, .val (.long q3), .second, iv p3, s7, s8, s9, s10, s11, s12, s13, s14, s15, s16, .val (.long tt), .second, .val (.long pr), .second, .unset, .unset] [(.int p3)])) rfl (hb hby at_151) _ ?_
              show Steps p.tables e below (T0.setTop (mkF m 153 #[s0, s1, s2, s3, .val (.long q3), .second, iv p3, s7, s8, s9, s10, s11, s12, s13, s14, s15, s16, .val (.long tt), .second, .val (.long pr), .second, .unset, .unset] [(.int 2147483647), (.int p3)])) _
              refine XS.iand X0.here hx rfl (hb hby at_153) rfl ?_
              show Steps p.tables e below (T0.setTop (mkF m 154 #[s0, s1, s2, s3, .val (.long q3), .second, iv p3, s7, s8, s9, s10, s11, s12, s13, s14, s15, s16, .val (.long tt), .second, .val (.long pr), .second, .unset, .unset] [(.int (p3 &&& (2147483647 : Int32)))])) _
              refine XS.bipush X0.here hx rfl (hb hby at_154) ?_
              show Steps p.tables e below (T0.setTop (mkF m 156 #[s0, s1, s2, s3, .val (.long q3), .second, iv p3, s7, s8, s9, s10, s11, s12, s13, s14, s15, s16, .val (.long tt), .second, .val (.long pr), .second, .unset, .unset] [(.int 7), (.int (p3 &&& (2147483647 : Int32)))])) _
              refine iremM X0 hx rfl (hb hby at_156) rfl (by decide) ?_
              show Steps p.tables e below (T0.setTop (mkF m 157 #[s0, s1, s2, s3, .val (.long q3), .second, iv p3, s7, s8, s9, s10, s11, s12, s13, s14, s15, s16, .val (.long tt), .second, .val (.long pr), .second, .unset, .unset] [(.int ((p3 &&& (2147483647 : Int32)) % (7 : Int32)))])) _
              refine XS.istore X0.here hx rfl (hb hby at_157) rfl (l' := #[s0, s1, s2, s3, .val (.long q3), .second, iv p3, s7, s8, s9, s10, s11, s12, s13, s14, s15, s16, .val (.long tt), .second, .val (.int ((p3 &&& (2147483647 : Int32)) % (7 : Int32))), .unset, .unset, .unset]) rfl ?_
              show Steps p.tables e below (T0.setTop (mkF m 159 #[s0, s1, s2, s3, .val (.long q3), .second, iv p3, s7, s8, s9, s10, s11, s12, s13, s14, s15, s16, .val (.long tt), .second, .val (.int ((p3 &&& (2147483647 : Int32)) % (7 : Int32))), .unset, .unset, .unset] [])) _
              refine XS.iload X0.here hx rfl (hb hby at_159) rfl ?_
              show Steps p.tables e below (T0.setTop (mkF m 161 #[s0, s1, s2, s3, .val (.long q3), .second, iv p3, s7, s8, s9, s10, s11, s12, s13, s14, s15, s16, .val (.long tt), .second, .val (.int ((p3 &&& (2147483647 : Int32)) % (7 : Int32))), .unset, .unset, .unset] [(.int ((p3 &&& (2147483647 : Int32)) % (7 : Int32)))])) _
              refine XS.ifYes X0.here hx rfl (pc0 := 161) (pc' := 171) rfl (hb hby at_161) rfl ((if0 _ _).trans (feq hc1).2) (by decide) (by decide) ?_
              show Steps p.tables e below (T0.setTop (mkF m 171 #[s0, s1, s2, s3, .val (.long q3), .second, iv p3, s7, s8, s9, s10, s11, s12, s13, s14, s15, s16, .val (.long tt), .second, .val (.int ((p3 &&& (2147483647 : Int32)) % (7 : Int32))), .unset, .unset, .unset] [])) _
              refine XS.iload X0.here hx rfl (hb hby at_171) rfl ?_
              show Steps p.tables e below (T0.setTop (mkF m 173 #[s0, s1, s2, s3, .val (.long q3), .second, iv p3, s7, s8, s9, s10, s11, s12, s13, s14, s15, s16, .val (.long tt), .second, .val (.int ((p3 &&& (2147483647 : Int32)) % (7 : Int32))), .unset, .unset, .unset] [(.int ((p3 &&& (2147483647 : Int32)) % (7 : Int32)))])) _
              refine XS.iconst X0.here hx rfl (hb hby at_173) ?_
              show Steps p.tables e below (T0.setTop (mkF m 174 #[s0, s1, s2, s3, .val (.long q3), .second, iv p3, s7, s8, s9, s10, s11, s12, s13, s14, s15, s16, .val (.long tt), .second, .val (.int ((p3 &&& (2147483647 : Int32)) % (7 : Int32))), .unset, .unset, .unset] [(.int 1), (.int ((p3 &&& (2147483647 : Int32)) % (7 : Int32)))])) _
              refine XS.icmpYes X0.here hx rfl (pc0 := 174) (pc' := 186) rfl (hb hby at_174) rfl (feq hc2).2 (by decide) (by decide) ?_
              show Steps p.tables e below (T0.setTop (mkF m 186 #[s0, s1, s2, s3, .val (.long q3), .second, iv p3, s7, s8, s9, s10, s11, s12, s13, s14, s15, s16, .val (.long tt), .second, .val (.int ((p3 &&& (2147483647 : Int32)) % (7 : Int32))), .unset, .unset, .unset] [])) _
              refine XS.iload X0.here hx rfl (hb hby at_186) rfl ?_
              show Steps p.tables e below (T0.setTop (mkF m 188 #[s0, s1, s2, s3, .val (.long q3), .second, iv p3, s7, s8, s9, s10, s11, s12, s13, s14, s15, s16, .val (.long tt), .second, .val (.int ((p3 &&& (2147483647 : Int32)) % (7 : Int32))), .unset, .unset, .unset] [(.int ((p3 &&& (2147483647 : Int32)) % (7 : Int32)))])) _
              refine XS.iconst X0.here hx rfl (hb hby at_188) ?_
              show Steps p.tables e below (T0.setTop (mkF m 189 #[s0, s1, s2, s3, .val (.long q3), .second, iv p3, s7, s8, s9, s10, s11, s12, s13, s14, s15, s16, .val (.long tt), .second, .val (.int ((p3 &&& (2147483647 : Int32)) % (7 : Int32))), .unset, .unset, .unset] [(.int 2), (.int ((p3 &&& (2147483647 : Int32)) % (7 : Int32)))])) _
              refine XS.icmpYes X0.here hx rfl (pc0 := 189) (pc' := 199) rfl (hb hby at_189) rfl (feq hc3).2 (by decide) (by decide) ?_
              show Steps p.tables e below (T0.setTop (mkF m 199 #[s0, s1, s2, s3, .val (.long q3), .second, iv p3, s7, s8, s9, s10, s11, s12, s13, s14, s15, s16, .val (.long tt), .second, .val (.int ((p3 &&& (2147483647 : Int32)) % (7 : Int32))), .unset, .unset, .unset] [])) _
              refine XS.iload X0.here hx rfl (hb hby at_199) rfl ?_
              show Steps p.tables e below (T0.setTop (mkF m 201 #[s0, s1, s2, s3, .val (.long q3), .second, iv p3, s7, s8, s9, s10, s11, s12, s13, s14, s15, s16, .val (.long tt), .second, .val (.int ((p3 &&& (2147483647 : Int32)) % (7 : Int32))), .unset, .unset, .unset] [(.int ((p3 &&& (2147483647 : Int32)) % (7 : Int32)))])) _
              refine XS.iconst X0.here hx rfl (hb hby at_201) ?_
              show Steps p.tables e below (T0.setTop (mkF m 202 #[s0, s1, s2, s3, .val (.long q3), .second, iv p3, s7, s8, s9, s10, s11, s12, s13, s14, s15, s16, .val (.long tt), .second, .val (.int ((p3 &&& (2147483647 : Int32)) % (7 : Int32))), .unset, .unset, .unset] [(.int 3), (.int ((p3 &&& (2147483647 : Int32)) % (7 : Int32)))])) _
              refine XS.icmpYes X0.here hx rfl (pc0 := 202) (pc' := 228) rfl (hb hby at_202) rfl (feq hc4).2 (by decide) (by decide) ?_
              show Steps p.tables e below (T0.setTop (mkF m 228 #[s0, s1, s2, s3, .val (.long q3), .second, iv p3, s7, s8, s9, s10, s11, s12, s13, s14, s15, s16, .val (.long tt), .second, .val (.int ((p3 &&& (2147483647 : Int32)) % (7 : Int32))), .unset, .unset, .unset] [])) _
              refine XS.iload X0.here hx rfl (hb hby at_228) rfl ?_
              show Steps p.tables e below (T0.setTop (mkF m 230 #[s0, s1, s2, s3, .val (.long q3), .second, iv p3, s7, s8, s9, s10, s11, s12, s13, s14, s15, s16, .val (.long tt), .second, .val (.int ((p3 &&& (2147483647 : Int32)) % (7 : Int32))), .unset, .unset, .unset] [(.int ((p3 &&& (2147483647 : Int32)) % (7 : Int32)))])) _
              refine XS.iconst X0.here hx rfl (hb hby at_230) ?_
              show Steps p.tables e below (T0.setTop (mkF m 231 #[s0, s1, s2, s3, .val (.long q3), .second, iv p3, s7, s8, s9, s10, s11, s12, s13, s14, s15, s16, .val (.long tt), .second, .val (.int ((p3 &&& (2147483647 : Int32)) % (7 : Int32))), .unset, .unset, .unset] [(.int 4), (.int ((p3 &&& (2147483647 : Int32)) % (7 : Int32)))])) _
              refine XS.icmpYes X0.here hx rfl (pc0 := 231) (pc' := 240) rfl (hb hby at_231) rfl (feq hc6).2 (by decide) (by decide) ?_
              show Steps p.tables e below (T0.setTop (mkF m 240 #[s0, s1, s2, s3, .val (.long q3), .second, iv p3, s7, s8, s9, s10, s11, s12, s13, s14, s15, s16, .val (.long tt), .second, .val (.int ((p3 &&& (2147483647 : Int32)) % (7 : Int32))), .unset, .unset, .unset] [])) _
              refine XS.iload X0.here hx rfl (hb hby at_240) rfl ?_
              show Steps p.tables e below (T0.setTop (mkF m 242 #[s0, s1, s2, s3, .val (.long q3), .second, iv p3, s7, s8, s9, s10, s11, s12, s13, s14, s15, s16, .val (.long tt), .second, .val (.int ((p3 &&& (2147483647 : Int32)) % (7 : Int32))), .unset, .unset, .unset] [(.int ((p3 &&& (2147483647 : Int32)) % (7 : Int32)))])) _
              refine XS.iconst X0.here hx rfl (hb hby at_242) ?_
              show Steps p.tables e below (T0.setTop (mkF m 243 #[s0, s1, s2, s3, .val (.long q3), .second, iv p3, s7, s8, s9, s10, s11, s12, s13, s14, s15, s16, .val (.long tt), .second, .val (.int ((p3 &&& (2147483647 : Int32)) % (7 : Int32))), .unset, .unset, .unset] [(.int 5), (.int ((p3 &&& (2147483647 : Int32)) % (7 : Int32)))])) _
              refine XS.icmpYes X0.here hx rfl (pc0 := 243) (pc' := 254) rfl (hb hby at_243) rfl (feq hc7).2 (by decide) (by decide) ?_
              show Steps p.tables e below (T0.setTop (mkF m 254 #[s0, s1, s2, s3, .val (.long q3), .second, iv p3, s7, s8, s9, s10, s11, s12, s13, s14, s15, s16, .val (.long tt), .second, .val (.int ((p3 &&& (2147483647 : Int32)) % (7 : Int32))), .unset, .unset, .unset] [])) _
              refine XS.lconst X0.here hx rfl (hb hby at_254) ?_
              show Steps p.tables e below (T0.setTop (mkF m 255 #[s0, s1, s2, s3, .val (.long q3), .second, iv p3, s7, s8, s9, s10, s11, s12, s13, s14, s15, s16, .val (.long tt), .second, .val (.int ((p3 &&& (2147483647 : Int32)) % (7 : Int32))), .unset, .unset, .unset] [(.long 1)])) _
              refine XS.lstore X0.here hx rfl (hb hby at_255) rfl (l' := #[s0, s1, s2, s3, .val (.long q3), .second, iv p3, s7, s8, s9, s10, s11, s12, s13, s14, s15, s16, .val (.long tt), .second, .val (.int ((p3 &&& (2147483647 : Int32)) % (7 : Int32))), .val (.long 1), .second, .unset]) rfl ?_
              show Steps p.tables e below (T0.setTop (mkF m 257 #[s0, s1, s2, s3, .val (.long q3), .second, iv p3, s7, s8, s9, s10, s11, s12, s13, s14, s15, s16, .val (.long tt), .second, .val (.int ((p3 &&& (2147483647 : Int32)) % (7 : Int32))), .val (.long 1), .second, .unset] [])) _
              exact kt
theorem own_law_ef (m : MethodId) (q0 : Int64) (p1 : Int32) (p2 : Int32) (q3 : Int64) (p3 : Int32) : entryFrame m #[(.long q0), (.int p1), (.int p2), (.long q3), (.int p3)] maxLocals = mkF m 0 #[.val (.long q0), .second, iv p1, iv p2, .val (.long q3), .second, iv p3, .unset, .unset, .unset, .unset, .unset, .unset, .unset, .unset, .unset, .unset, .unset, .unset, .unset, .unset, .unset, .unset] [] := by first | (simp [entryFrame, mkF, argsToLocals, Value.category, maxLocals]; done) | rfl
def own_law_Q (Z : State) (w_A : Addr) (w_B : Addr) (q0 : Int64) (p1 : Int32) (p2 : Int32) (q3 : Int64) (p3 : Int32) (h0 : Heap) (n0 : Nat) (v : Option Value) (h : Heap) (L : List Loc) : Prop := v = some (.int 1) ∧ Fr n0 L
set_option maxRecDepth 65536 in
set_option maxHeartbeats 40000000 in
theorem own_law (l : Launch) (Z : State) (a0 : Array Value) (hw : ∀ d ∈ tables_1, d.before a0 Z = true) (ws : List Jvm.Cond) (w_A : Addr) (w_B : Addr) (q0 : Int64) (p1 : Int32) (p2 : Int32) (q3 : Int64) (p3 : Int32) (h0 : Heap) (n0 : Nat) (O0 : Old Z n0 h0) (S_A : Sta Z Z.heap "com/example/vsyncopate/vsyncopate/animation/RepeatMode" "RESTART" "Lcom/example/vsyncopate/vsyncopate/animation/RepeatMode;" (.ref w_A)) (S_B : Sta Z Z.heap "com/example/vsyncopate/vsyncopate/animation/RepeatMode" "REVERSE" "Lcom/example/vsyncopate/vsyncopate/animation/RepeatMode;" (.ref w_B)) :
    MetFree l x (head1 (Jvm.Cond.code x code maxLocals ret :: ws) room_1) (fun ar U => ar = #[(.long q0), (.int p1), (.int p2), (.long q3), (.int p3)] ∧ Z.Warmed39 U.vm ∧ U.heap = h0) (fun _ _ _ _ _ => True) (fun _ U oc U' => ∃ v L, oc = .returned v ∧ own_law_Q Z w_A w_B q0 p1 p2 q3 p3 h0 n0 v U'.heap L ∧ FrameEnd U oc U' L 16 128) := by
  refine MetFree.of_bodySF (plainFor_of_name own_pn1) hisR ?_
  intro p e s m args below meth c s₁ Bd hml0 hP hK
  obtain ⟨rfl, hZ, hh⟩ := hP
  have hx := Bd.exec
  have hby := Bd.bytes
  have hml : c.maxLocals = 23 := hml0
  have hown : s.vm.findClass "com/example/vsyncopate/vsyncopate/animation/TimelineIsOverPinLaw" = some m.cls := findClass_of_methodNamed Bd.named
  have hnm := (name_of_methodNamed Bd.named Bd.method).1
  have X0 : Stand p l e room_1 s m #[(.long q0), (.int p1), (.int p2), (.long q3), (.int p3)] below meth c s₁ [] 0 0 := Stand.of_body Bd
  have e0 : s₁.heap = h0 := by rw [← hh, Bd.state]; rfl
  have N0 := Fr.nil n0
  have pre0 : ∀ t, Steps p.tables e below (s₁.setTop (mkF m 0 #[.val (.long q0), .second, iv p1, iv p2, .val (.long q3), .second, iv p3, .unset, .unset, .unset, .unset, .unset, .unset, .unset, .unset, .unset, .unset, .unset, .unset, .unset, .unset, .unset, .unset] [])) t → Steps p.tables e below (s₁.setTop (entryFrame m #[(.long q0), (.int p1), (.int p2), (.long q3), (.int p3)] maxLocals)) t := fun t k => castTop (own_law_ef m q0 p1 p2 q3 p3) k
  by_cases hit : (q0 &&& (9223372036854775807 : Int64)) = (0 : Int64)
  · obtain ⟨rc, hrc⟩ : ∃ z, z = (p1 &&& (2147483647 : Int32)) := ⟨_, rfl⟩
    have hn : 0 ≤ rc.toInt := by rw [hrc]; exact own_rc p1
    have pre2 : ∀ t, Steps p.tables e below (s₁.setTop (mkF m 15 #[.val (.long q0), .second, iv p1, iv p2, .val (.long q3), .second, iv p3, .val (.long 0), .second, iv rc, .unset, .unset, .unset, .unset, .unset, .unset, .unset, .unset, .unset, .unset, .unset, .unset, .unset] [(.int 1), (.int p2)])) t → Steps p.tables e below (s₁.setTop (entryFrame m #[(.long q0), (.int p1), (.int p2), (.long q3), (.int p3)] maxLocals)) t := fun t kt => by
      refine pre0 _ ?_
      show Steps p.tables e below (s₁.setTop (mkF m 0 #[.val (.long q0), .second, iv p1, iv p2, .val (.long q3), .second, iv p3, .unset, .unset, .unset, .unset, .unset, .unset, .unset, .unset, .unset, .unset, .unset, .unset, .unset, .unset, .unset, .unset] [])) _
      refine XS.lloadN X0.here hx rfl (hb hby at_0) rfl ?_
      show Steps p.tables e below (s₁.setTop (mkF m 1 #[.val (.long q0), .second, iv p1, iv p2, .val (.long q3), .second, iv p3, .unset, .unset, .unset, .unset, .unset, .unset, .unset, .unset, .unset, .unset, .unset, .unset, .unset, .unset, .unset, .unset] [(.long q0)])) _
      refine X0.ldc2Long hx hown (mvT hZ (hw _ (own_m 0 rfl))) (g := (mkF m 1 #[.val (.long q0), .second, iv p1, iv p2, .val (.long q3), .second, iv p3, .unset, .unset, .unset, .unset, .unset, .unset, .unset, .unset, .unset, .unset, .unset, .unset, .unset, .unset, .unset, .unset] [(.long q0)])) rfl (hb hby at_1) _ ?_
      show Steps p.tables e below (s₁.setTop (mkF m 4 #[.val (.long q0), .second, iv p1, iv p2, .val (.long q3), .second, iv p3, .unset, .unset, .unset, .unset, .unset, .unset, .unset, .unset, .unset, .unset, .unset, .unset, .unset, .unset, .unset, .unset] [(.long 9223372036854775807), (.long q0)])) _
      refine XS.land X0.here hx rfl (hb hby at_4) rfl ?_
      show Steps p.tables e below (s₁.setTop (mkF m 5 #[.val (.long q0), .second, iv p1, iv p2, .val (.long q3), .second, iv p3, .unset, .unset, .unset, .unset, .unset, .unset, .unset, .unset, .unset, .unset, .unset, .unset, .unset, .unset, .unset, .unset] [(.long (q0 &&& (9223372036854775807 : Int64)))])) _
      refine own_top (v' := (.long 0)) (congrArg Value.long hit) ?_
      show Steps p.tables e below (s₁.setTop (mkF m 5 #[.val (.long q0), .second, iv p1, iv p2, .val (.long q3), .second, iv p3, .unset, .unset, .unset, .unset, .unset, .unset, .unset, .unset, .unset, .unset, .unset, .unset, .unset, .unset, .unset, .unset] [(.long 0)])) _
      refine XS.lstore X0.here hx rfl (hb hby at_5) rfl (l' := #[.val (.long q0), .second, iv p1, iv p2, .val (.long q3), .second, iv p3, .val (.long 0), .second, .unset, .unset, .unset, .unset, .unset, .unset, .unset, .unset, .unset, .unset, .unset, .unset, .unset, .unset]) rfl ?_
      show Steps p.tables e below (s₁.setTop (mkF m 7 #[.val (.long q0), .second, iv p1, iv p2, .val (.long q3), .second, iv p3, .val (.long 0), .second, .unset, .unset, .unset, .unset, .unset, .unset, .unset, .unset, .unset, .unset, .unset, .unset, .unset, .unset] [])) _
      refine XS.iloadN X0.here hx rfl (hb hby at_7) rfl ?_
      show Steps p.tables e below (s₁.setTop (mkF m 8 #[.val (.long q0), .second, iv p1, iv p2, .val (.long q3), .second, iv p3, .val (.long 0), .second, .unset, .unset, .unset, .unset, .unset, .unset, .unset, .unset, .unset, .unset, .unset, .unset, .unset, .unset] [(.int p1)])) _
      refine X0.ldcInt hx hown (mvT hZ (hw _ (own_m 1 rfl))) (g := (mkF m 8 #[.val (.long q0), .second, iv p1, iv p2, .val (.long q3), .second, iv p3, .val (.long 0), .second, .unset, .unset, .unset, .unset, .unset, .unset, .unset, .unset, .unset, .unset, .unset, .unset, .unset, .unset] [(.int p1)])) rfl (hb hby at_8) _ ?_
      show Steps p.tables e below (s₁.setTop (mkF m 10 #[.val (.long q0), .second, iv p1, iv p2, .val (.long q3), .second, iv p3, .val (.long 0), .second, .unset, .unset, .unset, .unset, .unset, .unset, .unset, .unset, .unset, .unset, .unset, .unset, .unset, .unset] [(.int 2147483647), (.int p1)])) _
      refine XS.iand X0.here hx rfl (hb hby at_10) rfl ?_
      show Steps p.tables e below (s₁.setTop (mkF m 11 #[.val (.long q0), .second, iv p1, iv p2, .val (.long q3), .second, iv p3, .val (.long 0), .second, .unset, .unset, .unset, .unset, .unset, .unset, .unset, .unset, .unset, .unset, .unset, .unset, .unset, .unset] [(.int (p1 &&& (2147483647 : Int32)))])) _
      refine own_top (v' := (.int rc)) (congrArg Value.int hrc.symm) ?_
      show Steps p.tables e below (s₁.setTop (mkF m 11 #[.val (.long q0), .second, iv p1, iv p2, .val (.long q3), .second, iv p3, .val (.long 0), .second, .unset, .unset, .unset, .unset, .unset, .unset, .unset, .unset, .unset, .unset, .unset, .unset, .unset, .unset] [(.int rc)])) _
      refine XS.istore X0.here hx rfl (hb hby at_11) rfl (l' := #[.val (.long q0), .second, iv p1, iv p2, .val (.long q3), .second, iv p3, .val (.long 0), .second, iv rc, .unset, .unset, .unset, .unset, .unset, .unset, .unset, .unset, .unset, .unset, .unset, .unset, .unset]) rfl ?_
      show Steps p.tables e below (s₁.setTop (mkF m 13 #[.val (.long q0), .second, iv p1, iv p2, .val (.long q3), .second, iv p3, .val (.long 0), .second, iv rc, .unset, .unset, .unset, .unset, .unset, .unset, .unset, .unset, .unset, .unset, .unset, .unset, .unset] [])) _
      refine XS.iloadN X0.here hx rfl (hb hby at_13) rfl ?_
      show Steps p.tables e below (s₁.setTop (mkF m 14 #[.val (.long q0), .second, iv p1, iv p2, .val (.long q3), .second, iv p3, .val (.long 0), .second, iv rc, .unset, .unset, .unset, .unset, .unset, .unset, .unset, .unset, .unset, .unset, .unset, .unset, .unset] [(.int p2)])) _
      refine XS.iconst X0.here hx rfl (hb hby at_14) ?_
      show Steps p.tables e below (s₁.setTop (mkF m 15 #[.val (.long q0), .second, iv p1, iv p2, .val (.long q3), .second, iv p3, .val (.long 0), .second, iv rc, .unset, .unset, .unset, .unset, .unset, .unset, .unset, .unset, .unset, .unset, .unset, .unset, .unset] [(.int 1), (.int p2)])) _
      exact kt
    by_cases hc1 : (p2 &&& (1 : Int32)) = (0 : Int32)
    · have pre4 : ∀ t, Steps p.tables e below (s₁.setTop (mkF m 28 #[.val (.long q0), .second, iv p1, iv p2, .val (.long q3), .second, iv p3, .val (.long 0), .second, iv rc, iv 0, .unset, .unset, .unset, .unset, .unset, .unset, .unset, .unset, .unset, .unset, .unset, .unset] [(.int 2), (.int p2)])) t → Steps p.tables e below (s₁.setTop (entryFrame m #[(.long q0), (.int p1), (.int p2), (.long q3), (.int p3)] maxLocals)) t := fun t kt => by
        refine pre2 _ ?_
        show Steps p.tables e below (s₁.setTop (mkF m 15 #[.val (.long q0), .second, iv p1, iv p2, .val (.long q3), .second, iv p3, .val (.long 0), .second, iv rc, .unset, .unset, .unset, .unset, .unset, .unset, .unset, .unset, .unset, .unset, .unset, .unset, .unset] [(.int 1), (.int p2)])) _
        refine XS.iand X0.here hx rfl (hb hby at_15) rfl ?_
        show Steps p.tables e below (s₁.setTop (mkF m 16 #[.val (.long q0), .second, iv p1, iv p2, .val (.long q3), .second, iv p3, .val (.long 0), .second, iv rc, .unset, .unset, .unset, .unset, .unset, .unset, .unset, .unset, .unset, .unset, .unset, .unset, .unset] [(.int (p2 &&& (1 : Int32)))])) _
        refine XS.ifYes X0.here hx rfl (pc0 := 16) (pc' := 23) rfl (hb hby at_16) rfl ((if0 _ _).trans (teq hc1).1) (by decide) (by decide) ?_
        show Steps p.tables e below (s₁.setTop (mkF m 23 #[.val (.long q0), .second, iv p1, iv p2, .val (.long q3), .second, iv p3, .val (.long 0), .second, iv rc, .unset, .unset, .unset, .unset, .unset, .unset, .unset, .unset, .unset, .unset, .unset, .unset, .unset] [])) _
        refine XS.iconst X0.here hx rfl (hb hby at_23) ?_
        show Steps p.tables e below (s₁.setTop (mkF m 24 #[.val (.long q0), .second, iv p1, iv p2, .val (.long q3), .second, iv p3, .val (.long 0), .second, iv rc, .unset, .unset, .unset, .unset, .unset, .unset, .unset, .unset, .unset, .unset, .unset, .unset, .unset] [(.int 0)])) _
        refine XS.istore X0.here hx rfl (hb hby at_24) rfl (l' := #[.val (.long q0), .second, iv p1, iv p2, .val (.long q3), .second, iv p3, .val (.long 0), .second, iv rc, iv 0, .unset, .unset, .unset, .unset, .unset, .unset, .unset, .unset, .unset, .unset, .unset, .unset]) rfl ?_
        show Steps p.tables e below (s₁.setTop (mkF m 26 #[.val (.long q0), .second, iv p1, iv p2, .val (.long q3), .second, iv p3, .val (.long 0), .second, iv rc, iv 0, .unset, .unset, .unset, .unset, .unset, .unset, .unset, .unset, .unset, .unset, .unset, .unset] [])) _
        refine XS.iloadN X0.here hx rfl (hb hby at_26) rfl ?_
        show Steps p.tables e below (s₁.setTop (mkF m 27 #[.val (.long q0), .second, iv p1, iv p2, .val (.long q3), .second, iv p3, .val (.long 0), .second, iv rc, iv 0, .unset, .unset, .unset, .unset, .unset, .unset, .unset, .unset, .unset, .unset, .unset, .unset] [(.int p2)])) _
        refine XS.iconst X0.here hx rfl (hb hby at_27) ?_
        show Steps p.tables e below (s₁.setTop (mkF m 28 #[.val (.long q0), .second, iv p1, iv p2, .val (.long q3), .second, iv p3, .val (.long 0), .second, iv rc, iv 0, .unset, .unset, .unset, .unset, .unset, .unset, .unset, .unset, .unset, .unset, .unset, .unset] [(.int 2), (.int p2)])) _
        exact kt
      by_cases hc3 : (p2 &&& (2 : Int32)) = (0 : Int32)
      · obtain ⟨wm, T5, Lj5, hj5, X5, N5, e5, st5⟩ := own_mode w_A w_B (.val (.long q0)) (.second) (iv p1) (.val (.long q3)) (.second) (iv p3) (.val (.long 0)) (.second) (iv rc) (iv 0) (iv 0) (.unset) (.unset) (.unset) (.unset) (.unset) (.unset) (.unset) (.unset) (.unset) (.unset) (.unset) (p2) X0 hx hZ hw hby hml hown e0 N0 O0 S_A S_B 
        obtain ⟨T6, h6, X6, e6, E6, A6, D6, -, st6⟩ := newO X5 hx hZ hown (hw _ (own_m 5 rfl)) (hw _ (own_m 6 rfl)) (hw _ (own_m 7 rfl)) e5 (g := (mkF m 56 #[.val (.long q0), .second, iv p1, iv p2, .val (.long q3), .second, iv p3, .val (.long 0), .second, iv rc, iv 0, iv 0, rv wm, .unset, .unset, .unset, .unset, .unset, .unset, .unset, .unset, .unset, .unset] [])) rfl (hb hby at_56) (by decide) (by decide)
        obtain ⟨b6, g6⟩ : ∃ z, z = h0.size := ⟨_, rfl⟩
        rw [← g6] at A6 D6 st6
        have gg_b6 : n0 ≤ b6 := g6 ▸ own_le O0
        have O7 := O0.ext E6
        have F_iterationNanos_b6 : Fld Z h6 b6 "com/example/vsyncopate/vsyncopate/animation/Timeline" "iterationNanos" "J" (.long 0) := D6 (Or.inr (hw _ (own_m 15 rfl))) (ty := .long) (by decide)
        have F_mode_b6 : Fld Z h6 b6 "com/example/vsyncopate/vsyncopate/animation/Timeline" "mode" "Lcom/example/vsyncopate/vsyncopate/animation/RepeatMode;" .null := D6 (Or.inr (hw _ (own_m 17 rfl))) (ty := (.object "com/example/vsyncopate/vsyncopate/animation/RepeatMode")) (by decide)
        have F_endless_b6 : Fld Z h6 b6 "com/example/vsyncopate/vsyncopate/animation/Timeline" "endless" "Z" (.int 0) := D6 (Or.inr (hw _ (own_m 19 rfl))) (ty := .boolean) (by decide)
        have F_iterations_b6 : Fld Z h6 b6 "com/example/vsyncopate/vsyncopate/animation/Timeline" "iterations" "J" (.long 0) := D6 (Or.inr (hw _ (own_m 21 rfl))) (ty := .long) (by decide)
        have F_totalNanos_b6 : Fld Z h6 b6 "com/example/vsyncopate/vsyncopate/animation/Timeline" "totalNanos" "J" (.long 0) := D6 (Or.inr (hw _ (own_m 28 rfl))) (ty := .long) (by decide)
        obtain ⟨_, _, ⟨T8, L8, k8, n8⟩, -, X8, ⟨Lc8, hQ8, l8, y8, z8⟩, st8⟩ := X6.specialBack hx (y := (⟨"com/example/vsyncopate/vsyncopate/animation/Timeline", "<init>", "(JIZLcom/example/vsyncopate/vsyncopate/animation/RepeatMode;)V"⟩ : MethodName)) rfl hown (mvT hZ (hw _ (own_m 8 rfl))) (mvT hZ (hw _ (own_m 9 rfl))) (mvT hZ (hw _ (own_m 10 rfl))) (by decide) (backOf (W := 1) (own_mk00 l Z a0 hw [] w_A w_B b6 (0 : Int64) rc wm h6 n0 O7 S_A S_B gg_b6 A6 F_iterationNanos_b6 F_mode_b6 F_endless_b6 F_iterations_b6 F_totalNanos_b6) hZ (hw _ (own_m 10 rfl)) (hw _ (own_m 7 rfl)) (by decide) (by decide)) (g := (mkF m 68 #[.val (.long q0), .second, iv p1, iv p2, .val (.long q3), .second, iv p3, .val (.long 0), .second, iv rc, iv 0, iv 0, rv wm, .unset, .unset, .unset, .unset, .unset, .unset, .unset, .unset, .unset, .unset] [(.ref wm), (.int 0), (.int rc), (.long 0), (.ref b6), (.ref b6)])) rfl (by rw [hml]; rfl) (Steps.refl _) (a := b6) (argsL := [(.long 0), (.int rc), (.int 0), (.ref wm)]) (rest := [(.ref b6)]) (lenOf own_pd1 rfl) rfl (by show 2 * 0 + _ ≤ _; exact Nat.le_of_eq rfl) (hb hby at_68) (fun _ _ => ⟨rfl, e6, (by decide : 1 + 0 ≤ _), (by decide : 5 + 0 ≤ _)⟩)
        dsimp only [Pt.U, Pt.locs, Pt.cells, Pt.slots] at X8 l8 y8 z8 st8 hQ8
        subst l8 y8 z8
        obtain ⟨rfl, N8q, K8, tq, hq, Eq, Fe, Ftq⟩ := hQ8
        have N8 := Fr.app N5 N8q
        subst hq
        have O9 := O7.keep K8 (allS gg_b6 all0)
        obtain ⟨pp, T10, Lj10, hj10, X10, N10, e10, st10⟩ := own_pp0 w_A w_B (.val (.long q0)) (.second) (iv p1) (iv p2) (.val (.long 0)) (.second) (iv rc) (iv 0) (iv 0) (rv wm) (rv b6) (iv 0) (.val (.long ((rc.toInt64) + (1 : Int64)))) (.second) (q3) (p3) ((0 : Int64)) X8 hx hZ hw hby hml hown rfl N8 O9 S_A S_B 
        have pre12 : ∀ t, Steps p.tables e below (T10.setTop (mkF m 294 #[.val (.long q0), .second, iv p1, iv p2, .val (.long q3), .second, iv p3, .val (.long 0), .second, iv rc, iv 0, iv 0, rv wm, rv b6, iv 0, .val (.long ((rc.toInt64) + (1 : Int64))), .second, .val (.long 0), .second, .val (.int ((p3 &&& (2147483647 : Int32)) % (7 : Int32))), .val (.long pp), .second, .unset] [(.long 0), (.long pp)])) t → Steps p.tables e below (s₁.setTop (entryFrame m #[(.long q0), (.int p1), (.int p2), (.long q3), (.int p3)] maxLocals)) t := fun t kt => by
          refine pre4 _ ?_
          show Steps p.tables e below (s₁.setTop (mkF m 28 #[.val (.long q0), .second, iv p1, iv p2, .val (.long q3), .second, iv p3, .val (.long 0), .second, iv rc, iv 0, .unset, .unset, .unset, .unset, .unset, .unset, .unset, .unset, .unset, .unset, .unset, .unset] [(.int 2), (.int p2)])) _
          refine XS.iand X0.here hx rfl (hb hby at_28) rfl ?_
          show Steps p.tables e below (s₁.setTop (mkF m 29 #[.val (.long q0), .second, iv p1, iv p2, .val (.long q3), .second, iv p3, .val (.long 0), .second, iv rc, iv 0, .unset, .unset, .unset, .unset, .unset, .unset, .unset, .unset, .unset, .unset, .unset, .unset] [(.int (p2 &&& (2 : Int32)))])) _
          refine XS.ifYes X0.here hx rfl (pc0 := 29) (pc' := 36) rfl (hb hby at_29) rfl ((if0 _ _).trans (teq hc3).1) (by decide) (by decide) ?_
          show Steps p.tables e below (s₁.setTop (mkF m 36 #[.val (.long q0), .second, iv p1, iv p2, .val (.long q3), .second, iv p3, .val (.long 0), .second, iv rc, iv 0, .unset, .unset, .unset, .unset, .unset, .unset, .unset, .unset, .unset, .unset, .unset, .unset] [])) _
          refine XS.iconst X0.here hx rfl (hb hby at_36) ?_
          show Steps p.tables e below (s₁.setTop (mkF m 37 #[.val (.long q0), .second, iv p1, iv p2, .val (.long q3), .second, iv p3, .val (.long 0), .second, iv rc, iv 0, .unset, .unset, .unset, .unset, .unset, .unset, .unset, .unset, .unset, .unset, .unset, .unset] [(.int 0)])) _
          refine XS.istore X0.here hx rfl (hb hby at_37) rfl (l' := #[.val (.long q0), .second, iv p1, iv p2, .val (.long q3), .second, iv p3, .val (.long 0), .second, iv rc, iv 0, iv 0, .unset, .unset, .unset, .unset, .unset, .unset, .unset, .unset, .unset, .unset, .unset]) rfl ?_
          show Steps p.tables e below (s₁.setTop (mkF m 39 #[.val (.long q0), .second, iv p1, iv p2, .val (.long q3), .second, iv p3, .val (.long 0), .second, iv rc, iv 0, iv 0, .unset, .unset, .unset, .unset, .unset, .unset, .unset, .unset, .unset, .unset, .unset] [])) _
          refine st5 _ ?_
          show Steps p.tables e below (T5.setTop (mkF m 54 #[.val (.long q0), .second, iv p1, iv p2, .val (.long q3), .second, iv p3, .val (.long 0), .second, iv rc, iv 0, iv 0, .unset, .unset, .unset, .unset, .unset, .unset, .unset, .unset, .unset, .unset, .unset] [(.ref wm)])) _
          refine XS.astore X5.here hx rfl (hb hby at_54) rfl rfl (l' := #[.val (.long q0), .second, iv p1, iv p2, .val (.long q3), .second, iv p3, .val (.long 0), .second, iv rc, iv 0, iv 0, rv wm, .unset, .unset, .unset, .unset, .unset, .unset, .unset, .unset, .unset, .unset]) rfl ?_
          show Steps p.tables e below (T5.setTop (mkF m 56 #[.val (.long q0), .second, iv p1, iv p2, .val (.long q3), .second, iv p3, .val (.long 0), .second, iv rc, iv 0, iv 0, rv wm, .unset, .unset, .unset, .unset, .unset, .unset, .unset, .unset, .unset, .unset] [])) _
          refine st6 _ ?_
          show Steps p.tables e below (T6.setTop (mkF m 59 #[.val (.long q0), .second, iv p1, iv p2, .val (.long q3), .second, iv p3, .val (.long 0), .second, iv rc, iv 0, iv 0, rv wm, .unset, .unset, .unset, .unset, .unset, .unset, .unset, .unset, .unset, .unset] [(.ref b6)])) _
          refine XS.dup X6.here hx rfl (hb hby at_59) rfl rfl ?_
          show Steps p.tables e below (T6.setTop (mkF m 60 #[.val (.long q0), .second, iv p1, iv p2, .val (.long q3), .second, iv p3, .val (.long 0), .second, iv rc, iv 0, iv 0, rv wm, .unset, .unset, .unset, .unset, .unset, .unset, .unset, .unset, .unset, .unset] [(.ref b6), (.ref b6)])) _
          refine XS.lload X6.here hx rfl (hb hby at_60) rfl ?_
          show Steps p.tables e below (T6.setTop (mkF m 62 #[.val (.long q0), .second, iv p1, iv p2, .val (.long q3), .second, iv p3, .val (.long 0), .second, iv rc, iv 0, iv 0, rv wm, .unset, .unset, .unset, .unset, .unset, .unset, .unset, .unset, .unset, .unset] [(.long 0), (.ref b6), (.ref b6)])) _
          refine XS.iload X6.here hx rfl (hb hby at_62) rfl ?_
          show Steps p.tables e below (T6.setTop (mkF m 64 #[.val (.long q0), .second, iv p1, iv p2, .val (.long q3), .second, iv p3, .val (.long 0), .second, iv rc, iv 0, iv 0, rv wm, .unset, .unset, .unset, .unset, .unset, .unset, .unset, .unset, .unset, .unset] [(.int rc), (.long 0), (.ref b6), (.ref b6)])) _
          refine XS.iload X6.here hx rfl (hb hby at_64) rfl ?_
          show Steps p.tables e below (T6.setTop (mkF m 66 #[.val (.long q0), .second, iv p1, iv p2, .val (.long q3), .second, iv p3, .val (.long 0), .second, iv rc, iv 0, iv 0, rv wm, .unset, .unset, .unset, .unset, .unset, .unset, .unset, .unset, .unset, .unset] [(.int 0), (.int rc), (.long 0), (.ref b6), (.ref b6)])) _
          refine XS.aload X6.here hx rfl (hb hby at_66) rfl rfl ?_
          show Steps p.tables e below (T6.setTop (mkF m 68 #[.val (.long q0), .second, iv p1, iv p2, .val (.long q3), .second, iv p3, .val (.long 0), .second, iv rc, iv 0, iv 0, rv wm, .unset, .unset, .unset, .unset, .unset, .unset, .unset, .unset, .unset, .unset] [(.ref wm), (.int 0), (.int rc), (.long 0), (.ref b6), (.ref b6)])) _
          refine st8.trans ?_
          show Steps p.tables e below (T8.setTop (mkF m 71 #[.val (.long q0), .second, iv p1, iv p2, .val (.long q3), .second, iv p3, .val (.long 0), .second, iv rc, iv 0, iv 0, rv wm, .unset, .unset, .unset, .unset, .unset, .unset, .unset, .unset, .unset, .unset] [(.ref b6)])) _
          refine XS.astore X8.here hx rfl (hb hby at_71) rfl rfl (l' := #[.val (.long q0), .second, iv p1, iv p2, .val (.long q3), .second, iv p3, .val (.long 0), .second, iv rc, iv 0, iv 0, rv wm, rv b6, .unset, .unset, .unset, .unset, .unset, .unset, .unset, .unset, .unset]) rfl ?_
          show Steps p.tables e below (T8.setTop (mkF m 73 #[.val (.long q0), .second, iv p1, iv p2, .val (.long q3), .second, iv p3, .val (.long 0), .second, iv rc, iv 0, iv 0, rv wm, rv b6, .unset, .unset, .unset, .unset, .unset, .unset, .unset, .unset, .unset] [])) _
          refine XS.iload X8.here hx rfl (hb hby at_73) rfl ?_
          show Steps p.tables e below (T8.setTop (mkF m 75 #[.val (.long q0), .second, iv p1, iv p2, .val (.long q3), .second, iv p3, .val (.long 0), .second, iv rc, iv 0, iv 0, rv wm, rv b6, .unset, .unset, .unset, .unset, .unset, .unset, .unset, .unset, .unset] [(.int 0)])) _
          refine XS.ifYes X8.here hx rfl (pc0 := 75) (pc' := 89) rfl (hb hby at_75) rfl ((if0 _ _).trans (teq (by decide)).1) (by decide) (by decide) ?_
          show Steps p.tables e below (T8.setTop (mkF m 89 #[.val (.long q0), .second, iv p1, iv p2, .val (.long q3), .second, iv p3, .val (.long 0), .second, iv rc, iv 0, iv 0, rv wm, rv b6, .unset, .unset, .unset, .unset, .unset, .unset, .unset, .unset, .unset] [])) _
          refine XS.iconst X8.here hx rfl (hb hby at_89) ?_
          show Steps p.tables e below (T8.setTop (mkF m 90 #[.val (.long q0), .second, iv p1, iv p2, .val (.long q3), .second, iv p3, .val (.long 0), .second, iv rc, iv 0, iv 0, rv wm, rv b6, .unset, .unset, .unset, .unset, .unset, .unset, .unset, .unset, .unset] [(.int 0)])) _
          refine XS.istore X8.here hx rfl (hb hby at_90) rfl (l' := #[.val (.long q0), .second, iv p1, iv p2, .val (.long q3), .second, iv p3, .val (.long 0), .second, iv rc, iv 0, iv 0, rv wm, rv b6, iv 0, .unset, .unset, .unset, .unset, .unset, .unset, .unset, .unset]) rfl ?_
          show Steps p.tables e below (T8.setTop (mkF m 92 #[.val (.long q0), .second, iv p1, iv p2, .val (.long q3), .second, iv p3, .val (.long 0), .second, iv rc, iv 0, iv 0, rv wm, rv b6, iv 0, .unset, .unset, .unset, .unset, .unset, .unset, .unset, .unset] [])) _
          refine XS.iload X8.here hx rfl (hb hby at_92) rfl ?_
          show Steps p.tables e below (T8.setTop (mkF m 94 #[.val (.long q0), .second, iv p1, iv p2, .val (.long q3), .second, iv p3, .val (.long 0), .second, iv rc, iv 0, iv 0, rv wm, rv b6, iv 0, .unset, .unset, .unset, .unset, .unset, .unset, .unset, .unset] [(.int 0)])) _
          refine XS.ifYes X8.here hx rfl (pc0 := 94) (pc' := 101) rfl (hb hby at_94) rfl ((if0 _ _).trans (teq (by decide)).1) (by decide) (by decide) ?_
          show Steps p.tables e below (T8.setTop (mkF m 101 #[.val (.long q0), .second, iv p1, iv p2, .val (.long q3), .second, iv p3, .val (.long 0), .second, iv rc, iv 0, iv 0, rv wm, rv b6, iv 0, .unset, .unset, .unset, .unset, .unset, .unset, .unset, .unset] [])) _
          refine XS.iload X8.here hx rfl (hb hby at_101) rfl ?_
          show Steps p.tables e below (T8.setTop (mkF m 103 #[.val (.long q0), .second, iv p1, iv p2, .val (.long q3), .second, iv p3, .val (.long 0), .second, iv rc, iv 0, iv 0, rv wm, rv b6, iv 0, .unset, .unset, .unset, .unset, .unset, .unset, .unset, .unset] [(.int rc)])) _
          refine XS.i2l X8.here hx rfl (hb hby at_103) rfl ?_
          show Steps p.tables e below (T8.setTop (mkF m 104 #[.val (.long q0), .second, iv p1, iv p2, .val (.long q3), .second, iv p3, .val (.long 0), .second, iv rc, iv 0, iv 0, rv wm, rv b6, iv 0, .unset, .unset, .unset, .unset, .unset, .unset, .unset, .unset] [(.long (rc.toInt64))])) _
          refine XS.lconst X8.here hx rfl (hb hby at_104) ?_
          show Steps p.tables e below (T8.setTop (mkF m 105 #[.val (.long q0), .second, iv p1, iv p2, .val (.long q3), .second, iv p3, .val (.long 0), .second, iv rc, iv 0, iv 0, rv wm, rv b6, iv 0, .unset, .unset, .unset, .unset, .unset, .unset, .unset, .unset] [(.long 1), (.long (rc.toInt64))])) _
          refine XS.ladd X8.here hx rfl (hb hby at_105) rfl ?_
          show Steps p.tables e below (T8.setTop (mkF m 106 #[.val (.long q0), .second, iv p1, iv p2, .val (.long q3), .second, iv p3, .val (.long 0), .second, iv rc, iv 0, iv 0, rv wm, rv b6, iv 0, .unset, .unset, .unset, .unset, .unset, .unset, .unset, .unset] [(.long ((rc.toInt64) + (1 : Int64)))])) _
          refine XS.lstore X8.here hx rfl (hb hby at_106) rfl (l' := #[.val (.long q0), .second, iv p1, iv p2, .val (.long q3), .second, iv p3, .val (.long 0), .second, iv rc, iv 0, iv 0, rv wm, rv b6, iv 0, .val (.long ((rc.toInt64) + (1 : Int64))), .second, .unset, .unset, .unset, .unset, .unset, .unset]) rfl ?_
          show Steps p.tables e below (T8.setTop (mkF m 108 #[.val (.long q0), .second, iv p1, iv p2, .val (.long q3), .second, iv p3, .val (.long 0), .second, iv rc, iv 0, iv 0, rv wm, rv b6, iv 0, .val (.long ((rc.toInt64) + (1 : Int64))), .second, .unset, .unset, .unset, .unset, .unset, .unset] [])) _
          refine XS.lload X8.here hx rfl (hb hby at_108) rfl ?_
          show Steps p.tables e below (T8.setTop (mkF m 110 #[.val (.long q0), .second, iv p1, iv p2, .val (.long q3), .second, iv p3, .val (.long 0), .second, iv rc, iv 0, iv 0, rv wm, rv b6, iv 0, .val (.long ((rc.toInt64) + (1 : Int64))), .second, .unset, .unset, .unset, .unset, .unset, .unset] [(.long 0)])) _
          refine XS.lconst X8.here hx rfl (hb hby at_110) ?_
          show Steps p.tables e below (T8.setTop (mkF m 111 #[.val (.long q0), .second, iv p1, iv p2, .val (.long q3), .second, iv p3, .val (.long 0), .second, iv rc, iv 0, iv 0, rv wm, rv b6, iv 0, .val (.long ((rc.toInt64) + (1 : Int64))), .second, .unset, .unset, .unset, .unset, .unset, .unset] [(.long 0), (.long 0)])) _
          refine XS.lcmp X8.here hx rfl (hb hby at_111) rfl ?_
          show Steps p.tables e below (T8.setTop (mkF m 112 #[.val (.long q0), .second, iv p1, iv p2, .val (.long q3), .second, iv p3, .val (.long 0), .second, iv rc, iv 0, iv 0, rv wm, rv b6, iv 0, .val (.long ((rc.toInt64) + (1 : Int64))), .second, .unset, .unset, .unset, .unset, .unset, .unset] [(.int (lcmpW (0 : Int64) (0 : Int64)))])) _
          refine XS.ifNo X8.here hx rfl (hb hby at_112) rfl ((if0 _ _).trans (teq ((lw_eq _ _).mpr (show ((0 : Int64) = (0 : Int64)) from by decide))).2) ?_
          show Steps p.tables e below (T8.setTop (mkF m 115 #[.val (.long q0), .second, iv p1, iv p2, .val (.long q3), .second, iv p3, .val (.long 0), .second, iv rc, iv 0, iv 0, rv wm, rv b6, iv 0, .val (.long ((rc.toInt64) + (1 : Int64))), .second, .unset, .unset, .unset, .unset, .unset, .unset] [])) _
          refine XS.lconst X8.here hx rfl (hb hby at_115) ?_
          show Steps p.tables e below (T8.setTop (mkF m 116 #[.val (.long q0), .second, iv p1, iv p2, .val (.long q3), .second, iv p3, .val (.long 0), .second, iv rc, iv 0, iv 0, rv wm, rv b6, iv 0, .val (.long ((rc.toInt64) + (1 : Int64))), .second, .unset, .unset, .unset, .unset, .unset, .unset] [(.long 0)])) _
          refine XS.lstore X8.here hx rfl (hb hby at_116) rfl (l' := #[.val (.long q0), .second, iv p1, iv p2, .val (.long q3), .second, iv p3, .val (.long 0), .second, iv rc, iv 0, iv 0, rv wm, rv b6, iv 0, .val (.long ((rc.toInt64) + (1 : Int64))), .second, .val (.long 0), .second, .unset, .unset, .unset, .unset]) rfl ?_
          show Steps p.tables e below (T8.setTop (mkF m 118 #[.val (.long q0), .second, iv p1, iv p2, .val (.long q3), .second, iv p3, .val (.long 0), .second, iv rc, iv 0, iv 0, rv wm, rv b6, iv 0, .val (.long ((rc.toInt64) + (1 : Int64))), .second, .val (.long 0), .second, .unset, .unset, .unset, .unset] [])) _
          refine XS.goto X8.here hx rfl (pc0 := 118) (pc' := 149) rfl (hb hby at_118) (by decide) (by decide) ?_
          show Steps p.tables e below (T8.setTop (mkF m 149 #[.val (.long q0), .second, iv p1, iv p2, .val (.long q3), .second, iv p3, .val (.long 0), .second, iv rc, iv 0, iv 0, rv wm, rv b6, iv 0, .val (.long ((rc.toInt64) + (1 : Int64))), .second, .val (.long 0), .second, .unset, .unset, .unset, .unset] [])) _
          refine st10 _ ?_
          show Steps p.tables e below (T10.setTop (mkF m 257 #[.val (.long q0), .second, iv p1, iv p2, .val (.long q3), .second, iv p3, .val (.long 0), .second, iv rc, iv 0, iv 0, rv wm, rv b6, iv 0, .val (.long ((rc.toInt64) + (1 : Int64))), .second, .val (.long 0), .second, .val (.int ((p3 &&& (2147483647 : Int32)) % (7 : Int32))), .val (.long pp), .second, .unset] [])) _
          refine XS.iload X10.here hx rfl (hb hby at_257) rfl ?_
          show Steps p.tables e below (T10.setTop (mkF m 259 #[.val (.long q0), .second, iv p1, iv p2, .val (.long q3), .second, iv p3, .val (.long 0), .second, iv rc, iv 0, iv 0, rv wm, rv b6, iv 0, .val (.long ((rc.toInt64) + (1 : Int64))), .second, .val (.long 0), .second, .val (.int ((p3 &&& (2147483647 : Int32)) % (7 : Int32))), .val (.long pp), .second, .unset] [(.int 0)])) _
          refine XS.ifYes X10.here hx rfl (pc0 := 259) (pc' := 268) rfl (hb hby at_259) rfl ((if0 _ _).trans (teq (by decide)).1) (by decide) (by decide) ?_
          show Steps p.tables e below (T10.setTop (mkF m 268 #[.val (.long q0), .second, iv p1, iv p2, .val (.long q3), .second, iv p3, .val (.long 0), .second, iv rc, iv 0, iv 0, rv wm, rv b6, iv 0, .val (.long ((rc.toInt64) + (1 : Int64))), .second, .val (.long 0), .second, .val (.int ((p3 &&& (2147483647 : Int32)) % (7 : Int32))), .val (.long pp), .second, .unset] [])) _
          refine XS.iload X10.here hx rfl (hb hby at_268) rfl ?_
          show Steps p.tables e below (T10.setTop (mkF m 270 #[.val (.long q0), .second, iv p1, iv p2, .val (.long q3), .second, iv p3, .val (.long 0), .second, iv rc, iv 0, iv 0, rv wm, rv b6, iv 0, .val (.long ((rc.toInt64) + (1 : Int64))), .second, .val (.long 0), .second, .val (.int ((p3 &&& (2147483647 : Int32)) % (7 : Int32))), .val (.long pp), .second, .unset] [(.int 0)])) _
          refine XS.ifYes X10.here hx rfl (pc0 := 270) (pc' := 290) rfl (hb hby at_270) rfl ((if0 _ _).trans (teq (by decide)).1) (by decide) (by decide) ?_
          show Steps p.tables e below (T10.setTop (mkF m 290 #[.val (.long q0), .second, iv p1, iv p2, .val (.long q3), .second, iv p3, .val (.long 0), .second, iv rc, iv 0, iv 0, rv wm, rv b6, iv 0, .val (.long ((rc.toInt64) + (1 : Int64))), .second, .val (.long 0), .second, .val (.int ((p3 &&& (2147483647 : Int32)) % (7 : Int32))), .val (.long pp), .second, .unset] [])) _
          refine XS.lload X10.here hx rfl (hb hby at_290) rfl ?_
          show Steps p.tables e below (T10.setTop (mkF m 292 #[.val (.long q0), .second, iv p1, iv p2, .val (.long q3), .second, iv p3, .val (.long 0), .second, iv rc, iv 0, iv 0, rv wm, rv b6, iv 0, .val (.long ((rc.toInt64) + (1 : Int64))), .second, .val (.long 0), .second, .val (.int ((p3 &&& (2147483647 : Int32)) % (7 : Int32))), .val (.long pp), .second, .unset] [(.long pp)])) _
          refine XS.lload X10.here hx rfl (hb hby at_292) rfl ?_
          show Steps p.tables e below (T10.setTop (mkF m 294 #[.val (.long q0), .second, iv p1, iv p2, .val (.long q3), .second, iv p3, .val (.long 0), .second, iv rc, iv 0, iv 0, rv wm, rv b6, iv 0, .val (.long ((rc.toInt64) + (1 : Int64))), .second, .val (.long 0), .second, .val (.int ((p3 &&& (2147483647 : Int32)) % (7 : Int32))), .val (.long pp), .second, .unset] [(.long 0), (.long pp)])) _
          exact kt
        by_cases hc11 : pp < (0 : Int64)
        · obtain ⟨cq13, kq13, q13a, q13b, q13c⟩ := isOf hZ e10 Eq
          obtain ⟨_, _, ⟨T13, L13, k13, n13⟩, -, X13, ⟨Lc13, hQ13, l13, y13, z13⟩, st13⟩ := X10.virtualBack hx (y := (⟨"com/example/vsyncopate/vsyncopate/animation/Timeline", "isOver", "(JZ)Z"⟩ : MethodName)) (z := (⟨"com/example/vsyncopate/vsyncopate/animation/Timeline", "isOver", "(JZ)Z"⟩ : MethodName)) hown (mvT hZ (hw _ (own_m 29 rfl))) (mvT hZ (hw _ (own_m 30 rfl))) (notFace_of_selects (args := #[]) (mvT hZ (hw _ (own_m 32 rfl)))) (mvT hZ (hw _ (own_m 32 rfl))) (mvT hZ (hw _ (own_m 31 rfl))) (by decide) (backOf (W := 0) (own_ovF0 l Z a0 hw [] w_A w_B b6 pp (0 : Int64) T8.heap n0 O9 S_A S_B Fe Ftq hc11) hZ (hw _ (own_m 33 rfl)) (hw _ (own_m 7 rfl)) (by decide) (by decide)) q13a q13c (g := (mkF m 311 #[.val (.long q0), .second, iv p1, iv p2, .val (.long q3), .second, iv p3, .val (.long 0), .second, iv rc, iv 0, iv 0, rv wm, rv b6, iv 0, .val (.long ((rc.toInt64) + (1 : Int64))), .second, .val (.long 0), .second, .val (.int ((p3 &&& (2147483647 : Int32)) % (7 : Int32))), .val (.long pp), .second, iv 0] [(.int 0), (.long pp), (.ref b6)])) rfl (by rw [hml]; rfl) (Steps.refl _) (argsL := [(.long pp), (.int 0)]) (rest := []) (lenOf own_pd2 rfl) rfl (by show 2 * 0 + _ ≤ _; exact Nat.le_of_eq rfl) (hb hby at_311) (fun _ _ => ⟨rfl, e10, (by decide : 1 + 0 ≤ _), (by decide : 5 + 0 ≤ _)⟩)
          dsimp only [Pt.U, Pt.locs, Pt.cells, Pt.slots] at X13 l13 y13 z13 st13 hQ13
          subst l13 y13 z13
          obtain ⟨rfl, N13q, e13⟩ := hQ13
          have N13 := Fr.app N10 N13q
          obtain ⟨fs, hr, hrun, hended, hW, hsame⟩ := X13.leave (v := some (.int 1)) (fun h => by rw [Bd.returns] at h; cases h)
          refine ⟨_, _, pre12 _ ?_, hrun, hended, _, _, rfl, ?_, ⟨_, rfl⟩, hW, hsame.mono (by decide) (by decide)⟩
          · show Steps p.tables e below (T10.setTop (mkF m 294 #[.val (.long q0), .second, iv p1, iv p2, .val (.long q3), .second, iv p3, .val (.long 0), .second, iv rc, iv 0, iv 0, rv wm, rv b6, iv 0, .val (.long ((rc.toInt64) + (1 : Int64))), .second, .val (.long 0), .second, .val (.int ((p3 &&& (2147483647 : Int32)) % (7 : Int32))), .val (.long pp), .second, .unset] [(.long 0), (.long pp)])) _
            refine XS.lcmp X10.here hx rfl (hb hby at_294) rfl ?_
            show Steps p.tables e below (T10.setTop (mkF m 295 #[.val (.long q0), .second, iv p1, iv p2, .val (.long q3), .second, iv p3, .val (.long 0), .second, iv rc, iv 0, iv 0, rv wm, rv b6, iv 0, .val (.long ((rc.toInt64) + (1 : Int64))), .second, .val (.long 0), .second, .val (.int ((p3 &&& (2147483647 : Int32)) % (7 : Int32))), .val (.long pp), .second, .unset] [(.int (lcmpW pp (0 : Int64)))])) _
            refine XS.ifYes X10.here hx rfl (pc0 := 295) (pc' := 302) rfl (hb hby at_295) rfl ((if0 _ _).trans (tlt ((lw_lt _ _).mpr hc11)).1) (by decide) (by decide) ?_
            show Steps p.tables e below (T10.setTop (mkF m 302 #[.val (.long q0), .second, iv p1, iv p2, .val (.long q3), .second, iv p3, .val (.long 0), .second, iv rc, iv 0, iv 0, rv wm, rv b6, iv 0, .val (.long ((rc.toInt64) + (1 : Int64))), .second, .val (.long 0), .second, .val (.int ((p3 &&& (2147483647 : Int32)) % (7 : Int32))), .val (.long pp), .second, .unset] [])) _
            refine XS.iconst X10.here hx rfl (hb hby at_302) ?_
            show Steps p.tables e below (T10.setTop (mkF m 303 #[.val (.long q0), .second, iv p1, iv p2, .val (.long q3), .second, iv p3, .val (.long 0), .second, iv rc, iv 0, iv 0, rv wm, rv b6, iv 0, .val (.long ((rc.toInt64) + (1 : Int64))), .second, .val (.long 0), .second, .val (.int ((p3 &&& (2147483647 : Int32)) % (7 : Int32))), .val (.long pp), .second, .unset] [(.int 0)])) _
            refine XS.istore X10.here hx rfl (hb hby at_303) rfl (l' := #[.val (.long q0), .second, iv p1, iv p2, .val (.long q3), .second, iv p3, .val (.long 0), .second, iv rc, iv 0, iv 0, rv wm, rv b6, iv 0, .val (.long ((rc.toInt64) + (1 : Int64))), .second, .val (.long 0), .second, .val (.int ((p3 &&& (2147483647 : Int32)) % (7 : Int32))), .val (.long pp), .second, iv 0]) rfl ?_
            show Steps p.tables e below (T10.setTop (mkF m 305 #[.val (.long q0), .second, iv p1, iv p2, .val (.long q3), .second, iv p3, .val (.long 0), .second, iv rc, iv 0, iv 0, rv wm, rv b6, iv 0, .val (.long ((rc.toInt64) + (1 : Int64))), .second, .val (.long 0), .second, .val (.int ((p3 &&& (2147483647 : Int32)) % (7 : Int32))), .val (.long pp), .second, iv 0] [])) _
            refine XS.aload X10.here hx rfl (hb hby at_305) rfl rfl ?_
            show Steps p.tables e below (T10.setTop (mkF m 307 #[.val (.long q0), .second, iv p1, iv p2, .val (.long q3), .second, iv p3, .val (.long 0), .second, iv rc, iv 0, iv 0, rv wm, rv b6, iv 0, .val (.long ((rc.toInt64) + (1 : Int64))), .second, .val (.long 0), .second, .val (.int ((p3 &&& (2147483647 : Int32)) % (7 : Int32))), .val (.long pp), .second, iv 0] [(.ref b6)])) _
            refine XS.lload X10.here hx rfl (hb hby at_307) rfl ?_
            show Steps p.tables e below (T10.setTop (mkF m 309 #[.val (.long q0), .second, iv p1, iv p2, .val (.long q3), .second, iv p3, .val (.long 0), .second, iv rc, iv 0, iv 0, rv wm, rv b6, iv 0, .val (.long ((rc.toInt64) + (1 : Int64))), .second, .val (.long 0), .second, .val (.int ((p3 &&& (2147483647 : Int32)) % (7 : Int32))), .val (.long pp), .second, iv 0] [(.long pp), (.ref b6)])) _
            refine XS.iload X10.here hx rfl (hb hby at_309) rfl ?_
            show Steps p.tables e below (T10.setTop (mkF m 311 #[.val (.long q0), .second, iv p1, iv p2, .val (.long q3), .second, iv p3, .val (.long 0), .second, iv rc, iv 0, iv 0, rv wm, rv b6, iv 0, .val (.long ((rc.toInt64) + (1 : Int64))), .second, .val (.long 0), .second, .val (.int ((p3 &&& (2147483647 : Int32)) % (7 : Int32))), .val (.long pp), .second, iv 0] [(.int 0), (.long pp), (.ref b6)])) _
            refine st13.trans ?_
            show Steps p.tables e below (T13.setTop (mkF m 314 #[.val (.long q0), .second, iv p1, iv p2, .val (.long q3), .second, iv p3, .val (.long 0), .second, iv rc, iv 0, iv 0, rv wm, rv b6, iv 0, .val (.long ((rc.toInt64) + (1 : Int64))), .second, .val (.long 0), .second, .val (.int ((p3 &&& (2147483647 : Int32)) % (7 : Int32))), .val (.long pp), .second, iv 0] [(.int 0)])) _
            refine XS.iload X13.here hx rfl (hb hby at_314) rfl ?_
            show Steps p.tables e below (T13.setTop (mkF m 316 #[.val (.long q0), .second, iv p1, iv p2, .val (.long q3), .second, iv p3, .val (.long 0), .second, iv rc, iv 0, iv 0, rv wm, rv b6, iv 0, .val (.long ((rc.toInt64) + (1 : Int64))), .second, .val (.long 0), .second, .val (.int ((p3 &&& (2147483647 : Int32)) % (7 : Int32))), .val (.long pp), .second, iv 0] [(.int 0), (.int 0)])) _
            refine XS.icmpNo X13.here hx rfl (hb hby at_316) rfl (teq (by decide)).2 ?_
            show Steps p.tables e below (T13.setTop (mkF m 319 #[.val (.long q0), .second, iv p1, iv p2, .val (.long q3), .second, iv p3, .val (.long 0), .second, iv rc, iv 0, iv 0, rv wm, rv b6, iv 0, .val (.long ((rc.toInt64) + (1 : Int64))), .second, .val (.long 0), .second, .val (.int ((p3 &&& (2147483647 : Int32)) % (7 : Int32))), .val (.long pp), .second, iv 0] [])) _
            refine XS.iconst X13.here hx rfl (hb hby at_319) ?_
            show Steps p.tables e below (T13.setTop (mkF m 320 #[.val (.long q0), .second, iv p1, iv p2, .val (.long q3), .second, iv p3, .val (.long 0), .second, iv rc, iv 0, iv 0, rv wm, rv b6, iv 0, .val (.long ((rc.toInt64) + (1 : Int64))), .second, .val (.long 0), .second, .val (.int ((p3 &&& (2147483647 : Int32)) % (7 : Int32))), .val (.long pp), .second, iv 0] [(.int 1)])) _
            refine XS.goto X13.here hx rfl (pc0 := 320) (pc' := 324) rfl (hb hby at_320) (by decide) (by decide) ?_
            show Steps p.tables e below (T13.setTop (mkF m 324 #[.val (.long q0), .second, iv p1, iv p2, .val (.long q3), .second, iv p3, .val (.long 0), .second, iv rc, iv 0, iv 0, rv wm, rv b6, iv 0, .val (.long ((rc.toInt64) + (1 : Int64))), .second, .val (.long 0), .second, .val (.int ((p3 &&& (2147483647 : Int32)) % (7 : Int32))), .val (.long pp), .second, iv 0] [(.int 1)])) _
            exact retN X13 hx (t := .boolean) Bd.returns (by simp) (hb hby at_324) hr
          · show own_law_Q Z w_A w_B q0 p1 p2 q3 p3 h0 n0 _ T13.heap _
            rw [e13]
            exact ⟨rfl, N13⟩
        · obtain ⟨cq14, kq14, q14a, q14b, q14c⟩ := isOf hZ e10 Eq
          obtain ⟨_, _, ⟨T14, L14, k14, n14⟩, -, X14, ⟨Lc14, hQ14, l14, y14, z14⟩, st14⟩ := X10.virtualBack hx (y := (⟨"com/example/vsyncopate/vsyncopate/animation/Timeline", "isOver", "(JZ)Z"⟩ : MethodName)) (z := (⟨"com/example/vsyncopate/vsyncopate/animation/Timeline", "isOver", "(JZ)Z"⟩ : MethodName)) hown (mvT hZ (hw _ (own_m 29 rfl))) (mvT hZ (hw _ (own_m 30 rfl))) (notFace_of_selects (args := #[]) (mvT hZ (hw _ (own_m 32 rfl)))) (mvT hZ (hw _ (own_m 32 rfl))) (mvT hZ (hw _ (own_m 31 rfl))) (by decide) (backOf (W := 0) (own_ovF1 l Z a0 hw [] w_A w_B b6 pp (0 : Int64) T8.heap n0 O9 S_A S_B Fe Ftq hc11) hZ (hw _ (own_m 33 rfl)) (hw _ (own_m 7 rfl)) (by decide) (by decide)) q14a q14c (g := (mkF m 311 #[.val (.long q0), .second, iv p1, iv p2, .val (.long q3), .second, iv p3, .val (.long 0), .second, iv rc, iv 0, iv 0, rv wm, rv b6, iv 0, .val (.long ((rc.toInt64) + (1 : Int64))), .second, .val (.long 0), .second, .val (.int ((p3 &&& (2147483647 : Int32)) % (7 : Int32))), .val (.long pp), .second, iv 1] [(.int 0), (.long pp), (.ref b6)])) rfl (by rw [hml]; rfl) (Steps.refl _) (argsL := [(.long pp), (.int 0)]) (rest := []) (lenOf own_pd2 rfl) rfl (by show 2 * 0 + _ ≤ _; exact Nat.le_of_eq rfl) (hb hby at_311) (fun _ _ => ⟨rfl, e10, (by decide : 1 + 0 ≤ _), (by decide : 5 + 0 ≤ _)⟩)
          dsimp only [Pt.U, Pt.locs, Pt.cells, Pt.slots] at X14 l14 y14 z14 st14 hQ14
          subst l14 y14 z14
          obtain ⟨rfl, N14q, e14⟩ := hQ14
          have N14 := Fr.app N10 N14q
          obtain ⟨fs, hr, hrun, hended, hW, hsame⟩ := X14.leave (v := some (.int 1)) (fun h => by rw [Bd.returns] at h; cases h)
          refine ⟨_, _, pre12 _ ?_, hrun, hended, _, _, rfl, ?_, ⟨_, rfl⟩, hW, hsame.mono (by decide) (by decide)⟩
          · show Steps p.tables e below (T10.setTop (mkF m 294 #[.val (.long q0), .second, iv p1, iv p2, .val (.long q3), .second, iv p3, .val (.long 0), .second, iv rc, iv 0, iv 0, rv wm, rv b6, iv 0, .val (.long ((rc.toInt64) + (1 : Int64))), .second, .val (.long 0), .second, .val (.int ((p3 &&& (2147483647 : Int32)) % (7 : Int32))), .val (.long pp), .second, .unset] [(.long 0), (.long pp)])) _
            refine XS.lcmp X10.here hx rfl (hb hby at_294) rfl ?_
            show Steps p.tables e below (T10.setTop (mkF m 295 #[.val (.long q0), .second, iv p1, iv p2, .val (.long q3), .second, iv p3, .val (.long 0), .second, iv rc, iv 0, iv 0, rv wm, rv b6, iv 0, .val (.long ((rc.toInt64) + (1 : Int64))), .second, .val (.long 0), .second, .val (.int ((p3 &&& (2147483647 : Int32)) % (7 : Int32))), .val (.long pp), .second, .unset] [(.int (lcmpW pp (0 : Int64)))])) _
            refine XS.ifNo X10.here hx rfl (hb hby at_295) rfl ((if0 _ _).trans (flt (fun q => hc11 ((lw_lt _ _).mp q))).1) ?_
            show Steps p.tables e below (T10.setTop (mkF m 298 #[.val (.long q0), .second, iv p1, iv p2, .val (.long q3), .second, iv p3, .val (.long 0), .second, iv rc, iv 0, iv 0, rv wm, rv b6, iv 0, .val (.long ((rc.toInt64) + (1 : Int64))), .second, .val (.long 0), .second, .val (.int ((p3 &&& (2147483647 : Int32)) % (7 : Int32))), .val (.long pp), .second, .unset] [])) _
            refine XS.iconst X10.here hx rfl (hb hby at_298) ?_
            show Steps p.tables e below (T10.setTop (mkF m 299 #[.val (.long q0), .second, iv p1, iv p2, .val (.long q3), .second, iv p3, .val (.long 0), .second, iv rc, iv 0, iv 0, rv wm, rv b6, iv 0, .val (.long ((rc.toInt64) + (1 : Int64))), .second, .val (.long 0), .second, .val (.int ((p3 &&& (2147483647 : Int32)) % (7 : Int32))), .val (.long pp), .second, .unset] [(.int 1)])) _
            refine XS.goto X10.here hx rfl (pc0 := 299) (pc' := 303) rfl (hb hby at_299) (by decide) (by decide) ?_
            show Steps p.tables e below (T10.setTop (mkF m 303 #[.val (.long q0), .second, iv p1, iv p2, .val (.long q3), .second, iv p3, .val (.long 0), .second, iv rc, iv 0, iv 0, rv wm, rv b6, iv 0, .val (.long ((rc.toInt64) + (1 : Int64))), .second, .val (.long 0), .second, .val (.int ((p3 &&& (2147483647 : Int32)) % (7 : Int32))), .val (.long pp), .second, .unset] [(.int 1)])) _
            refine XS.istore X10.here hx rfl (hb hby at_303) rfl (l' := #[.val (.long q0), .second, iv p1, iv p2, .val (.long q3), .second, iv p3, .val (.long 0), .second, iv rc, iv 0, iv 0, rv wm, rv b6, iv 0, .val (.long ((rc.toInt64) + (1 : Int64))), .second, .val (.long 0), .second, .val (.int ((p3 &&& (2147483647 : Int32)) % (7 : Int32))), .val (.long pp), .second, iv 1]) rfl ?_
            show Steps p.tables e below (T10.setTop (mkF m 305 #[.val (.long q0), .second, iv p1, iv p2, .val (.long q3), .second, iv p3, .val (.long 0), .second, iv rc, iv 0, iv 0, rv wm, rv b6, iv 0, .val (.long ((rc.toInt64) + (1 : Int64))), .second, .val (.long 0), .second, .val (.int ((p3 &&& (2147483647 : Int32)) % (7 : Int32))), .val (.long pp), .second, iv 1] [])) _
            refine XS.aload X10.here hx rfl (hb hby at_305) rfl rfl ?_
            show Steps p.tables e below (T10.setTop (mkF m 307 #[.val (.long q0), .second, iv p1, iv p2, .val (.long q3), .second, iv p3, .val (.long 0), .second, iv rc, iv 0, iv 0, rv wm, rv b6, iv 0, .val (.long ((rc.toInt64) + (1 : Int64))), .second, .val (.long 0), .second, .val (.int ((p3 &&& (2147483647 : Int32)) % (7 : Int32))), .val (.long pp), .second, iv 1] [(.ref b6)])) _
            refine XS.lload X10.here hx rfl (hb hby at_307) rfl ?_
            show Steps p.tables e below (T10.setTop (mkF m 309 #[.val (.long q0), .second, iv p1, iv p2, .val (.long q3), .second, iv p3, .val (.long 0), .second, iv rc, iv 0, iv 0, rv wm, rv b6, iv 0, .val (.long ((rc.toInt64) + (1 : Int64))), .second, .val (.long 0), .second, .val (.int ((p3 &&& (2147483647 : Int32)) % (7 : Int32))), .val (.long pp), .second, iv 1] [(.long pp), (.ref b6)])) _
            refine XS.iload X10.here hx rfl (hb hby at_309) rfl ?_
            show Steps p.tables e below (T10.setTop (mkF m 311 #[.val (.long q0), .second, iv p1, iv p2, .val (.long q3), .second, iv p3, .val (.long 0), .second, iv rc, iv 0, iv 0, rv wm, rv b6, iv 0, .val (.long ((rc.toInt64) + (1 : Int64))), .second, .val (.long 0), .second, .val (.int ((p3 &&& (2147483647 : Int32)) % (7 : Int32))), .val (.long pp), .second, iv 1] [(.int 0), (.long pp), (.ref b6)])) _
            refine st14.trans ?_
            show Steps p.tables e below (T14.setTop (mkF m 314 #[.val (.long q0), .second, iv p1, iv p2, .val (.long q3), .second, iv p3, .val (.long 0), .second, iv rc, iv 0, iv 0, rv wm, rv b6, iv 0, .val (.long ((rc.toInt64) + (1 : Int64))), .second, .val (.long 0), .second, .val (.int ((p3 &&& (2147483647 : Int32)) % (7 : Int32))), .val (.long pp), .second, iv 1] [(.int 1)])) _
            refine XS.iload X14.here hx rfl (hb hby at_314) rfl ?_
            show Steps p.tables e below (T14.setTop (mkF m 316 #[.val (.long q0), .second, iv p1, iv p2, .val (.long q3), .second, iv p3, .val (.long 0), .second, iv rc, iv 0, iv 0, rv wm, rv b6, iv 0, .val (.long ((rc.toInt64) + (1 : Int64))), .second, .val (.long 0), .second, .val (.int ((p3 &&& (2147483647 : Int32)) % (7 : Int32))), .val (.long pp), .second, iv 1] [(.int 1), (.int 1)])) _
            refine XS.icmpNo X14.here hx rfl (hb hby at_316) rfl (teq (by decide)).2 ?_
            show Steps p.tables e below (T14.setTop (mkF m 319 #[.val (.long q0), .second, iv p1, iv p2, .val (.long q3), .second, iv p3, .val (.long 0), .second, iv rc, iv 0, iv 0, rv wm, rv b6, iv 0, .val (.long ((rc.toInt64) + (1 : Int64))), .second, .val (.long 0), .second, .val (.int ((p3 &&& (2147483647 : Int32)) % (7 : Int32))), .val (.long pp), .second, iv 1] [])) _
            refine XS.iconst X14.here hx rfl (hb hby at_319) ?_
            show Steps p.tables e below (T14.setTop (mkF m 320 #[.val (.long q0), .second, iv p1, iv p2, .val (.long q3), .second, iv p3, .val (.long 0), .second, iv rc, iv 0, iv 0, rv wm, rv b6, iv 0, .val (.long ((rc.toInt64) + (1 : Int64))), .second, .val (.long 0), .second, .val (.int ((p3 &&& (2147483647 : Int32)) % (7 : Int32))), .val (.long pp), .second, iv 1] [(.int 1)])) _
            refine XS.goto X14.here hx rfl (pc0 := 320) (pc' := 324) rfl (hb hby at_320) (by decide) (by decide) ?_
            show Steps p.tables e below (T14.setTop (mkF m 324 #[.val (.long q0), .second, iv p1, iv p2, .val (.long q3), .second, iv p3, .val (.long 0), .second, iv rc, iv 0, iv 0, rv wm, rv b6, iv 0, .val (.long ((rc.toInt64) + (1 : Int64))), .second, .val (.long 0), .second, .val (.int ((p3 &&& (2147483647 : Int32)) % (7 : Int32))), .val (.long pp), .second, iv 1] [(.int 1)])) _
            exact retN X14 hx (t := .boolean) Bd.returns (by simp) (hb hby at_324) hr
          · show own_law_Q Z w_A w_B q0 p1 p2 q3 p3 h0 n0 _ T14.heap _
            rw [e14]
            exact ⟨rfl, N14⟩
      · obtain ⟨wm, T15, Lj15, hj15, X15, N15, e15, st15⟩ := own_mode w_A w_B (.val (.long q0)) (.second) (iv p1) (.val (.long q3)) (.second) (iv p3) (.val (.long 0)) (.second) (iv rc) (iv 0) (iv 1) (.unset) (.unset) (.unset) (.unset) (.unset) (.unset) (.unset) (.unset) (.unset) (.unset) (.unset) (p2) X0 hx hZ hw hby hml hown e0 N0 O0 S_A S_B 
        obtain ⟨T16, h16, X16, e16, E16, A16, D16, -, st16⟩ := newO X15 hx hZ hown (hw _ (own_m 5 rfl)) (hw _ (own_m 6 rfl)) (hw _ (own_m 7 rfl)) e15 (g := (mkF m 56 #[.val (.long q0), .second, iv p1, iv p2, .val (.long q3), .second, iv p3, .val (.long 0), .second, iv rc, iv 0, iv 1, rv wm, .unset, .unset, .unset, .unset, .unset, .unset, .unset, .unset, .unset, .unset] [])) rfl (hb hby at_56) (by decide) (by decide)
        obtain ⟨b16, g16⟩ : ∃ z, z = h0.size := ⟨_, rfl⟩
        rw [← g16] at A16 D16 st16
        have gg_b16 : n0 ≤ b16 := g16 ▸ own_le O0
        have O17 := O0.ext E16
        have F_iterationNanos_b16 : Fld Z h16 b16 "com/example/vsyncopate/vsyncopate/animation/Timeline" "iterationNanos" "J" (.long 0) := D16 (Or.inr (hw _ (own_m 15 rfl))) (ty := .long) (by decide)
        have F_mode_b16 : Fld Z h16 b16 "com/example/vsyncopate/vsyncopate/animation/Timeline" "mode" "Lcom/example/vsyncopate/vsyncopate/animation/RepeatMode;" .null := D16 (Or.inr (hw _ (own_m 17 rfl))) (ty := (.object "com/example/vsyncopate/vsyncopate/animation/RepeatMode")) (by decide)
        have F_endless_b16 : Fld Z h16 b16 "com/example/vsyncopate/vsyncopate/animation/Timeline" "endless" "Z" (.int 0) := D16 (Or.inr (hw _ (own_m 19 rfl))) (ty := .boolean) (by decide)
        have F_iterations_b16 : Fld Z h16 b16 "com/example/vsyncopate/vsyncopate/animation/Timeline" "iterations" "J" (.long 0) := D16 (Or.inr (hw _ (own_m 21 rfl))) (ty := .long) (by decide)
        have F_totalNanos_b16 : Fld Z h16 b16 "com/example/vsyncopate/vsyncopate/animation/Timeline" "totalNanos" "J" (.long 0) := D16 (Or.inr (hw _ (own_m 28 rfl))) (ty := .long) (by decide)
        obtain ⟨_, _, ⟨T18, L18, k18, n18⟩, -, X18, ⟨Lc18, hQ18, l18, y18, z18⟩, st18⟩ := X16.specialBack hx (y := (⟨"com/example/vsyncopate/vsyncopate/animation/Timeline", "<init>", "(JIZLcom/example/vsyncopate/vsyncopate/animation/RepeatMode;)V"⟩ : MethodName)) rfl hown (mvT hZ (hw _ (own_m 8 rfl))) (mvT hZ (hw _ (own_m 9 rfl))) (mvT hZ (hw _ (own_m 10 rfl))) (by decide) (backOf (W := 1) (own_mk00 l Z a0 hw [] w_A w_B b16 (0 : Int64) rc wm h16 n0 O17 S_A S_B gg_b16 A16 F_iterationNanos_b16 F_mode_b16 F_endless_b16 F_iterations_b16 F_totalNanos_b16) hZ (hw _ (own_m 10 rfl)) (hw _ (own_m 7 rfl)) (by decide) (by decide)) (g := (mkF m 68 #[.val (.long q0), .second, iv p1, iv p2, .val (.long q3), .second, iv p3, .val (.long 0), .second, iv rc, iv 0, iv 1, rv wm, .unset, .unset, .unset, .unset, .unset, .unset, .unset, .unset, .unset, .unset] [(.ref wm), (.int 0), (.int rc), (.long 0), (.ref b16), (.ref b16)])) rfl (by rw [hml]; rfl) (Steps.refl _) (a := b16) (argsL := [(.long 0), (.int rc), (.int 0), (.ref wm)]) (rest := [(.ref b16)]) (lenOf own_pd1 rfl) rfl (by show 2 * 0 + _ ≤ _; exact Nat.le_of_eq rfl) (hb hby at_68) (fun _ _ => ⟨rfl, e16, (by decide : 1 + 0 ≤ _), (by decide : 5 + 0 ≤ _)⟩)
        dsimp only [Pt.U, Pt.locs, Pt.cells, Pt.slots] at X18 l18 y18 z18 st18 hQ18
        subst l18 y18 z18
        obtain ⟨rfl, N18q, K18, tq, hq, Eq, Fe, Ftq⟩ := hQ18
        have N18 := Fr.app N15 N18q
        subst hq
        have O19 := O17.keep K18 (allS gg_b16 all0)
        obtain ⟨pp, T20, Lj20, hj20, X20, N20, e20, st20⟩ := own_pp0 w_A w_B (.val (.long q0)) (.second) (iv p1) (iv p2) (.val (.long 0)) (.second) (iv rc) (iv 0) (iv 1) (rv wm) (rv b16) (iv 0) (.val (.long ((rc.toInt64) + (1 : Int64)))) (.second) (q3) (p3) ((0 : Int64)) X18 hx hZ hw hby hml hown rfl N18 O19 S_A S_B 
        have pre22 : ∀ t, Steps p.tables e below (T20.setTop (mkF m 276 #[.val (.long q0), .second, iv p1, iv p2, .val (.long q3), .second, iv p3, .val (.long 0), .second, iv rc, iv 0, iv 1, rv wm, rv b16, iv 0, .val (.long ((rc.toInt64) + (1 : Int64))), .second, .val (.long 0), .second, .val (.int ((p3 &&& (2147483647 : Int32)) % (7 : Int32))), .val (.long pp), .second, .unset] [(.long 0), (.long pp)])) t → Steps p.tables e below (s₁.setTop (entryFrame m #[(.long q0), (.int p1), (.int p2), (.long q3), (.int p3)] maxLocals)) t := fun t kt => by
          refine pre4 _ ?_
          show Steps p.tables e below (s₁.setTop (mkF m 28 #[.val (.long q0), .second, iv p1, iv p2, .val (.long q3), .second, iv p3, .val (.long 0), .second, iv rc, iv 0, .unset, .unset, .unset, .unset, .unset, .unset, .unset, .unset, .unset, .unset, .unset, .unset] [(.int 2), (.int p2)])) _
          refine XS.iand X0.here hx rfl (hb hby at_28) rfl ?_
          show Steps p.tables e below (s₁.setTop (mkF m 29 #[.val (.long q0), .second, iv p1, iv p2, .val (.long q3), .second, iv p3, .val (.long 0), .second, iv rc, iv 0, .unset, .unset, .unset, .unset, .unset, .unset, .unset, .unset, .unset, .unset, .unset, .unset] [(.int (p2 &&& (2 : Int32)))])) _
          refine XS.ifNo X0.here hx rfl (hb hby at_29) rfl ((if0 _ _).trans (feq hc3).1) ?_
          show Steps p.tables e below (s₁.setTop (mkF m 32 #[.val (.long q0), .second, iv p1, iv p2, .val (.long q3), .second, iv p3, .val (.long 0), .second, iv rc, iv 0, .unset, .unset, .unset, .unset, .unset, .unset, .unset, .unset, .unset, .unset, .unset, .unset] [])) _
          refine XS.iconst X0.here hx rfl (hb hby at_32) ?_
          show Steps p.tables e below (s₁.setTop (mkF m 33 #[.val (.long q0), .second, iv p1, iv p2, .val (.long q3), .second, iv p3, .val (.long 0), .second, iv rc, iv 0, .unset, .unset, .unset, .unset, .unset, .unset, .unset, .unset, .unset, .unset, .unset, .unset] [(.int 1)])) _
          refine XS.goto X0.here hx rfl (pc0 := 33) (pc' := 37) rfl (hb hby at_33) (by decide) (by decide) ?_
          show Steps p.tables e below (s₁.setTop (mkF m 37 #[.val (.long q0), .second, iv p1, iv p2, .val (.long q3), .second, iv p3, .val (.long 0), .second, iv rc, iv 0, .unset, .unset, .unset, .unset, .unset, .unset, .unset, .unset, .unset, .unset, .unset, .unset] [(.int 1)])) _
          refine XS.istore X0.here hx rfl (hb hby at_37) rfl (l' := #[.val (.long q0), .second, iv p1, iv p2, .val (.long q3), .second, iv p3, .val (.long 0), .second, iv rc, iv 0, iv 1, .unset, .unset, .unset, .unset, .unset, .unset, .unset, .unset, .unset, .unset, .unset]) rfl ?_
          show Steps p.tables e below (s₁.setTop (mkF m 39 #[.val (.long q0), .second, iv p1, iv p2, .val (.long q3), .second, iv p3, .val (.long 0), .second, iv rc, iv 0, iv 1, .unset, .unset, .unset, .unset, .unset, .unset, .unset, .unset, .unset, .unset, .unset] [])) _
          refine st15 _ ?_
          show Steps p.tables e below (T15.setTop (mkF m 54 #[.val (.long q0), .second, iv p1, iv p2, .val (.long q3), .second, iv p3, .val (.long 0), .second, iv rc, iv 0, iv 1, .unset, .unset, .unset, .unset, .unset, .unset, .unset, .unset, .unset, .unset, .unset] [(.ref wm)])) _
          refine XS.astore X15.here hx rfl (hb hby at_54) rfl rfl (l' := #[.val (.long q0), .second, iv p1, iv p2, .val (.long q3), .second, iv p3, .val (.long 0), .second, iv rc, iv 0, iv 1, rv wm, .unset, .unset, .unset, .unset, .unset, .unset, .unset, .unset, .unset, .unset]) rfl ?_
          show Steps p.tables e below (T15.setTop (mkF m 56 #[.val (.long q0), .second, iv p1, iv p2, .val (.long q3), .second, iv p3, .val (.long 0), .second, iv rc, iv 0, iv 1, rv wm, .unset, .unset, .unset, .unset, .unset, .unset, .unset, .unset, .unset, .unset] [])) _
          refine st16 _ ?_
          show Steps p.tables e below (T16.setTop (mkF m 59 #[.val (.long q0), .second, iv p1, iv p2, .val (.long q3), .second, iv p3, .val (.long 0), .second, iv rc, iv 0, iv 1, rv wm, .unset, .unset, .unset, .unset, .unset, .unset, .unset, .unset, .unset, .unset] [(.ref b16)])) _
          refine XS.dup X16.here hx rfl (hb hby at_59) rfl rfl ?_
          show Steps p.tables e below (T16.setTop (mkF m 60 #[.val (.long q0), .second, iv p1, iv p2, .val (.long q3), .second, iv p3, .val (.long 0), .second, iv rc, iv 0, iv 1, rv wm, .unset, .unset, .unset, .unset, .unset, .unset, .unset, .unset, .unset, .unset] [(.ref b16), (.ref b16)])) _
          refine XS.lload X16.here hx rfl (hb hby at_60) rfl ?_
          show Steps p.tables e below (T16.setTop (mkF m 62 #[.val (.long q0), .second, iv p1, iv p2, .val (.long q3), .second, iv p3, .val (.long 0), .second, iv rc, iv 0, iv 1, rv wm, .unset, .unset, .unset, .unset, .unset, .unset, .unset, .unset, .unset, .unset] [(.long 0), (.ref b16), (.ref b16)])) _
          refine XS.iload X16.here hx rfl (hb hby at_62) rfl ?_
          show Steps p.tables e below (T16.setTop (mkF m 64 #[.val (.long q0), .second, iv p1, iv p2, .val (.long q3), .second, iv p3, .val (.long 0), .second, iv rc, iv 0, iv 1, rv wm, .unset, .unset, .unset, .unset, .unset, .unset, .unset, .unset, .unset, .unset] [(.int rc), (.long 0), (.ref b16), (.ref b16)])) _
          refine XS.iload X16.here hx rfl (hb hby at_64) rfl ?_
          show Steps p.tables e below (T16.setTop (mkF m 66 #[.val (.long q0), .second, iv p1, iv p2, .val (.long q3), .second, iv p3, .val (.long 0), .second, iv rc, iv 0, iv 1, rv wm, .unset, .unset, .unset, .unset, .unset, .unset, .unset, .unset, .unset, .unset] [(.int 0), (.int rc), (.long 0), (.ref b16), (.ref b16)])) _
          refine XS.aload X16.here hx rfl (hb hby at_66) rfl rfl ?_
          show Steps p.tables e below (T16.setTop (mkF m 68 #[.val (.long q0), .second, iv p1, iv p2, .val (.long q3), .second, iv p3, .val (.long 0), .second, iv rc, iv 0, iv 1, rv wm, .unset, .unset, .unset, .unset, .unset, .unset, .unset, .unset, .unset, .unset] [(.ref wm), (.int 0), (.int rc), (.long 0), (.ref b16), (.ref b16)])) _
          refine st18.trans ?_
          show Steps p.tables e below (T18.setTop (mkF m 71 #[.val (.long q0), .second, iv p1, iv p2, .val (.long q3), .second, iv p3, .val (.long 0), .second, iv rc, iv 0, iv 1, rv wm, .unset, .unset, .unset, .unset, .unset, .unset, .unset, .unset, .unset, .unset] [(.ref b16)])) _
          refine XS.astore X18.here hx rfl (hb hby at_71) rfl rfl (l' := #[.val (.long q0), .second, iv p1, iv p2, .val (.long q3), .second, iv p3, .val (.long 0), .second, iv rc, iv 0, iv 1, rv wm, rv b16, .unset, .unset, .unset, .unset, .unset, .unset, .unset, .unset, .unset]) rfl ?_
          show Steps p.tables e below (T18.setTop (mkF m 73 #[.val (.long q0), .second, iv p1, iv p2, .val (.long q3), .second, iv p3, .val (.long 0), .second, iv rc, iv 0, iv 1, rv wm, rv b16, .unset, .unset, .unset, .unset, .unset, .unset, .unset, .unset, .unset] [])) _
          refine XS.iload X18.here hx rfl (hb hby at_73) rfl ?_
          show Steps p.tables e below (T18.setTop (mkF m 75 #[.val (.long q0), .second, iv p1, iv p2, .val (.long q3), .second, iv p3, .val (.long 0), .second, iv rc, iv 0, iv 1, rv wm, rv b16, .unset, .unset, .unset, .unset, .unset, .unset, .unset, .unset, .unset] [(.int 0)])) _
          refine XS.ifYes X18.here hx rfl (pc0 := 75) (pc' := 89) rfl (hb hby at_75) rfl ((if0 _ _).trans (teq (by decide)).1) (by decide) (by decide) ?_
          show Steps p.tables e below (T18.setTop (mkF m 89 #[.val (.long q0), .second, iv p1, iv p2, .val (.long q3), .second, iv p3, .val (.long 0), .second, iv rc, iv 0, iv 1, rv wm, rv b16, .unset, .unset, .unset, .unset, .unset, .unset, .unset, .unset, .unset] [])) _
          refine XS.iconst X18.here hx rfl (hb hby at_89) ?_
          show Steps p.tables e below (T18.setTop (mkF m 90 #[.val (.long q0), .second, iv p1, iv p2, .val (.long q3), .second, iv p3, .val (.long 0), .second, iv rc, iv 0, iv 1, rv wm, rv b16, .unset, .unset, .unset, .unset, .unset, .unset, .unset, .unset, .unset] [(.int 0)])) _
          refine XS.istore X18.here hx rfl (hb hby at_90) rfl (l' := #[.val (.long q0), .second, iv p1, iv p2, .val (.long q3), .second, iv p3, .val (.long 0), .second, iv rc, iv 0, iv 1, rv wm, rv b16, iv 0, .unset, .unset, .unset, .unset, .unset, .unset, .unset, .unset]) rfl ?_
          show Steps p.tables e below (T18.setTop (mkF m 92 #[.val (.long q0), .second, iv p1, iv p2, .val (.long q3), .second, iv p3, .val (.long 0), .second, iv rc, iv 0, iv 1, rv wm, rv b16, iv 0, .unset, .unset, .unset, .unset, .unset, .unset, .unset, .unset] [])) _
          refine XS.iload X18.here hx rfl (hb hby at_92) rfl ?_
          show Steps p.tables e below (T18.setTop (mkF m 94 #[.val (.long q0), .second, iv p1, iv p2, .val (.long q3), .second, iv p3, .val (.long 0), .second, iv rc, iv 0, iv 1, rv wm, rv b16, iv 0, .unset, .unset, .unset, .unset, .unset, .unset, .unset, .unset] [(.int 0)])) _
          refine XS.ifYes X18.here hx rfl (pc0 := 94) (pc' := 101) rfl (hb hby at_94) rfl ((if0 _ _).trans (teq (by decide)).1) (by decide) (by decide) ?_
          show Steps p.tables e below (T18.setTop (mkF m 101 #[.val (.long q0), .second, iv p1, iv p2, .val (.long q3), .second, iv p3, .val (.long 0), .second, iv rc, iv 0, iv 1, rv wm, rv b16, iv 0, .unset, .unset, .unset, .unset, .unset, .unset, .unset, .unset] [])) _
          refine XS.iload X18.here hx rfl (hb hby at_101) rfl ?_
          show Steps p.tables e below (T18.setTop (mkF m 103 #[.val (.long q0), .second, iv p1, iv p2, .val (.long q3), .second, iv p3, .val (.long 0), .second, iv rc, iv 0, iv 1, rv wm, rv b16, iv 0, .unset, .unset, .unset, .unset, .unset, .unset, .unset, .unset] [(.int rc)])) _
          refine XS.i2l X18.here hx rfl (hb hby at_103) rfl ?_
          show Steps p.tables e below (T18.setTop (mkF m 104 #[.val (.long q0), .second, iv p1, iv p2, .val (.long q3), .second, iv p3, .val (.long 0), .second, iv rc, iv 0, iv 1, rv wm, rv b16, iv 0, .unset, .unset, .unset, .unset, .unset, .unset, .unset, .unset] [(.long (rc.toInt64))])) _
          refine XS.lconst X18.here hx rfl (hb hby at_104) ?_
          show Steps p.tables e below (T18.setTop (mkF m 105 #[.val (.long q0), .second, iv p1, iv p2, .val (.long q3), .second, iv p3, .val (.long 0), .second, iv rc, iv 0, iv 1, rv wm, rv b16, iv 0, .unset, .unset, .unset, .unset, .unset, .unset, .unset, .unset] [(.long 1), (.long (rc.toInt64))])) _
          refine XS.ladd X18.here hx rfl (hb hby at_105) rfl ?_
          show Steps p.tables e below (T18.setTop (mkF m 106 #[.val (.long q0), .second, iv p1, iv p2, .val (.long q3), .second, iv p3, .val (.long 0), .second, iv rc, iv 0, iv 1, rv wm, rv b16, iv 0, .unset, .unset, .unset, .unset, .unset, .unset, .unset, .unset] [(.long ((rc.toInt64) + (1 : Int64)))])) _
          refine XS.lstore X18.here hx rfl (hb hby at_106) rfl (l' := #[.val (.long q0), .second, iv p1, iv p2, .val (.long q3), .second, iv p3, .val (.long 0), .second, iv rc, iv 0, iv 1, rv wm, rv b16, iv 0, .val (.long ((rc.toInt64) + (1 : Int64))), .second, .unset, .unset, .unset, .unset, .unset, .unset]) rfl ?_
          show Steps p.tables e below (T18.setTop (mkF m 108 #[.val (.long q0), .second, iv p1, iv p2, .val (.long q3), .second, iv p3, .val (.long 0), .second, iv rc, iv 0, iv 1, rv wm, rv b16, iv 0, .val (.long ((rc.toInt64) + (1 : Int64))), .second, .unset, .unset, .unset, .unset, .unset, .unset] [])) _
          refine XS.lload X18.here hx rfl (hb hby at_108) rfl ?_
          show Steps p.tables e below (T18.setTop (mkF m 110 #[.val (.long q0), .second, iv p1, iv p2, .val (.long q3), .second, iv p3, .val (.long 0), .second, iv rc, iv 0, iv 1, rv wm, rv b16, iv 0, .val (.long ((rc.toInt64) + (1 : Int64))), .second, .unset, .unset, .unset, .unset, .unset, .unset] [(.long 0)])) _
          refine XS.lconst X18.here hx rfl (hb hby at_110) ?_
          show Steps p.tables e below (T18.setTop (mkF m 111 #[.val (.long q0), .second, iv p1, iv p2, .val (.long q3), .second, iv p3, .val (.long 0), .second, iv rc, iv 0, iv 1, rv wm, rv b16, iv 0, .val (.long ((rc.toInt64) + (1 : Int64))), .second, .unset, .unset, .unset, .unset, .unset, .unset] [(.long 0), (.long 0)])) _
          refine XS.lcmp X18.here hx rfl (hb hby at_111) rfl ?_
          show Steps p.tables e below (T18.setTop (mkF m 112 #[.val (.long q0), .second, iv p1, iv p2, .val (.long q3), .second, iv p3, .val (.long 0), .second, iv rc, iv 0, iv 1, rv wm, rv b16, iv 0, .val (.long ((rc.toInt64) + (1 : Int64))), .second, .unset, .unset, .unset, .unset, .unset, .unset] [(.int (lcmpW (0 : Int64) (0 : Int64)))])) _
          refine XS.ifNo X18.here hx rfl (hb hby at_112) rfl ((if0 _ _).trans (teq ((lw_eq _ _).mpr (show ((0 : Int64) = (0 : Int64)) from by decide))).2) ?_
          show Steps p.tables e below (T18.setTop (mkF m 115 #[.val (.long q0), .second, iv p1, iv p2, .val (.long q3), .second, iv p3, .val (.long 0), .second, iv rc, iv 0, iv 1, rv wm, rv b16, iv 0, .val (.long ((rc.toInt64) + (1 : Int64))), .second, .unset, .unset, .unset, .unset, .unset, .unset] [])) _
          refine XS.lconst X18.here hx rfl (hb hby at_115) ?_
          show Steps p.tables e below (T18.setTop (mkF m 116 #[.val (.long q0), .second, iv p1, iv p2, .val (.long q3), .second, iv p3, .val (.long 0), .second, iv rc, iv 0, iv 1, rv wm, rv b16, iv 0, .val (.long ((rc.toInt64) + (1 : Int64))), .second, .unset, .unset, .unset, .unset, .unset, .unset] [(.long 0)])) _
          refine XS.lstore X18.here hx rfl (hb hby at_116) rfl (l' := #[.val (.long q0), .second, iv p1, iv p2, .val (.long q3), .second, iv p3, .val (.long 0), .second, iv rc, iv 0, iv 1, rv wm, rv b16, iv 0, .val (.long ((rc.toInt64) + (1 : Int64))), .second, .val (.long 0), .second, .unset, .unset, .unset, .unset]) rfl ?_
          show Steps p.tables e below (T18.setTop (mkF m 118 #[.val (.long q0), .second, iv p1, iv p2, .val (.long q3), .second, iv p3, .val (.long 0), .second, iv rc, iv 0, iv 1, rv wm, rv b16, iv 0, .val (.long ((rc.toInt64) + (1 : Int64))), .second, .val (.long 0), .second, .unset, .unset, .unset, .unset] [])) _
          refine XS.goto X18.here hx rfl (pc0 := 118) (pc' := 149) rfl (hb hby at_118) (by decide) (by decide) ?_
          show Steps p.tables e below (T18.setTop (mkF m 149 #[.val (.long q0), .second, iv p1, iv p2, .val (.long q3), .second, iv p3, .val (.long 0), .second, iv rc, iv 0, iv 1, rv wm, rv b16, iv 0, .val (.long ((rc.toInt64) + (1 : Int64))), .second, .val (.long 0), .second, .unset, .unset, .unset, .unset] [])) _
          refine st20 _ ?_
          show Steps p.tables e below (T20.setTop (mkF m 257 #[.val (.long q0), .second, iv p1, iv p2, .val (.long q3), .second, iv p3, .val (.long 0), .second, iv rc, iv 0, iv 1, rv wm, rv b16, iv 0, .val (.long ((rc.toInt64) + (1 : Int64))), .second, .val (.long 0), .second, .val (.int ((p3 &&& (2147483647 : Int32)) % (7 : Int32))), .val (.long pp), .second, .unset] [])) _
          refine XS.iload X20.here hx rfl (hb hby at_257) rfl ?_
          show Steps p.tables e below (T20.setTop (mkF m 259 #[.val (.long q0), .second, iv p1, iv p2, .val (.long q3), .second, iv p3, .val (.long 0), .second, iv rc, iv 0, iv 1, rv wm, rv b16, iv 0, .val (.long ((rc.toInt64) + (1 : Int64))), .second, .val (.long 0), .second, .val (.int ((p3 &&& (2147483647 : Int32)) % (7 : Int32))), .val (.long pp), .second, .unset] [(.int 0)])) _
          refine XS.ifYes X20.here hx rfl (pc0 := 259) (pc' := 268) rfl (hb hby at_259) rfl ((if0 _ _).trans (teq (by decide)).1) (by decide) (by decide) ?_
          show Steps p.tables e below (T20.setTop (mkF m 268 #[.val (.long q0), .second, iv p1, iv p2, .val (.long q3), .second, iv p3, .val (.long 0), .second, iv rc, iv 0, iv 1, rv wm, rv b16, iv 0, .val (.long ((rc.toInt64) + (1 : Int64))), .second, .val (.long 0), .second, .val (.int ((p3 &&& (2147483647 : Int32)) % (7 : Int32))), .val (.long pp), .second, .unset] [])) _
          refine XS.iload X20.here hx rfl (hb hby at_268) rfl ?_
          show Steps p.tables e below (T20.setTop (mkF m 270 #[.val (.long q0), .second, iv p1, iv p2, .val (.long q3), .second, iv p3, .val (.long 0), .second, iv rc, iv 0, iv 1, rv wm, rv b16, iv 0, .val (.long ((rc.toInt64) + (1 : Int64))), .second, .val (.long 0), .second, .val (.int ((p3 &&& (2147483647 : Int32)) % (7 : Int32))), .val (.long pp), .second, .unset] [(.int 1)])) _
          refine XS.ifNo X20.here hx rfl (hb hby at_270) rfl ((if0 _ _).trans (feq (by decide)).1) ?_
          show Steps p.tables e below (T20.setTop (mkF m 273 #[.val (.long q0), .second, iv p1, iv p2, .val (.long q3), .second, iv p3, .val (.long 0), .second, iv rc, iv 0, iv 1, rv wm, rv b16, iv 0, .val (.long ((rc.toInt64) + (1 : Int64))), .second, .val (.long 0), .second, .val (.int ((p3 &&& (2147483647 : Int32)) % (7 : Int32))), .val (.long pp), .second, .unset] [])) _
          refine XS.lload X20.here hx rfl (hb hby at_273) rfl ?_
          show Steps p.tables e below (T20.setTop (mkF m 275 #[.val (.long q0), .second, iv p1, iv p2, .val (.long q3), .second, iv p3, .val (.long 0), .second, iv rc, iv 0, iv 1, rv wm, rv b16, iv 0, .val (.long ((rc.toInt64) + (1 : Int64))), .second, .val (.long 0), .second, .val (.int ((p3 &&& (2147483647 : Int32)) % (7 : Int32))), .val (.long pp), .second, .unset] [(.long pp)])) _
          refine XS.lconst X20.here hx rfl (hb hby at_275) ?_
          show Steps p.tables e below (T20.setTop (mkF m 276 #[.val (.long q0), .second, iv p1, iv p2, .val (.long q3), .second, iv p3, .val (.long 0), .second, iv rc, iv 0, iv 1, rv wm, rv b16, iv 0, .val (.long ((rc.toInt64) + (1 : Int64))), .second, .val (.long 0), .second, .val (.int ((p3 &&& (2147483647 : Int32)) % (7 : Int32))), .val (.long pp), .second, .unset] [(.long 0), (.long pp)])) _
          exact kt
        by_cases hc21 : (0 : Int64) < pp
        · obtain ⟨cq23, kq23, q23a, q23b, q23c⟩ := isOf hZ e20 Eq
          obtain ⟨_, _, ⟨T23, L23, k23, n23⟩, -, X23, ⟨Lc23, hQ23, l23, y23, z23⟩, st23⟩ := X20.virtualBack hx (y := (⟨"com/example/vsyncopate/vsyncopate/animation/Timeline", "isOver", "(JZ)Z"⟩ : MethodName)) (z := (⟨"com/example/vsyncopate/vsyncopate/animation/Timeline", "isOver", "(JZ)Z"⟩ : MethodName)) hown (mvT hZ (hw _ (own_m 29 rfl))) (mvT hZ (hw _ (own_m 30 rfl))) (notFace_of_selects (args := #[]) (mvT hZ (hw _ (own_m 32 rfl)))) (mvT hZ (hw _ (own_m 32 rfl))) (mvT hZ (hw _ (own_m 31 rfl))) (by decide) (backOf (W := 0) (own_ovR0 l Z a0 hw [] w_A w_B b16 pp (0 : Int64) T18.heap n0 O19 S_A S_B Fe Ftq hc21) hZ (hw _ (own_m 33 rfl)) (hw _ (own_m 7 rfl)) (by decide) (by decide)) q23a q23c (g := (mkF m 311 #[.val (.long q0), .second, iv p1, iv p2, .val (.long q3), .second, iv p3, .val (.long 0), .second, iv rc, iv 0, iv 1, rv wm, rv b16, iv 0, .val (.long ((rc.toInt64) + (1 : Int64))), .second, .val (.long 0), .second, .val (.int ((p3 &&& (2147483647 : Int32)) % (7 : Int32))), .val (.long pp), .second, iv 0] [(.int 1), (.long pp), (.ref b16)])) rfl (by rw [hml]; rfl) (Steps.refl _) (argsL := [(.long pp), (.int 1)]) (rest := []) (lenOf own_pd2 rfl) rfl (by show 2 * 0 + _ ≤ _; exact Nat.le_of_eq rfl) (hb hby at_311) (fun _ _ => ⟨rfl, e20, (by decide : 1 + 0 ≤ _), (by decide : 5 + 0 ≤ _)⟩)
          dsimp only [Pt.U, Pt.locs, Pt.cells, Pt.slots] at X23 l23 y23 z23 st23 hQ23
          subst l23 y23 z23
          obtain ⟨rfl, N23q, e23⟩ := hQ23
          have N23 := Fr.app N20 N23q
          obtain ⟨fs, hr, hrun, hended, hW, hsame⟩ := X23.leave (v := some (.int 1)) (fun h => by rw [Bd.returns] at h; cases h)
          refine ⟨_, _, pre22 _ ?_, hrun, hended, _, _, rfl, ?_, ⟨_, rfl⟩, hW, hsame.mono (by decide) (by decide)⟩
          · show Steps p.tables e below (T20.setTop (mkF m 276 #[.val (.long q0), .second, iv p1, iv p2, .val (.long q3), .second, iv p3, .val (.long 0), .second, iv rc, iv 0, iv 1, rv wm, rv b16, iv 0, .val (.long ((rc.toInt64) + (1 : Int64))), .second, .val (.long 0), .second, .val (.int ((p3 &&& (2147483647 : Int32)) % (7 : Int32))), .val (.long pp), .second, .unset] [(.long 0), (.long pp)])) _
            refine XS.lcmp X20.here hx rfl (hb hby at_276) rfl ?_
            show Steps p.tables e below (T20.setTop (mkF m 277 #[.val (.long q0), .second, iv p1, iv p2, .val (.long q3), .second, iv p3, .val (.long 0), .second, iv rc, iv 0, iv 1, rv wm, rv b16, iv 0, .val (.long ((rc.toInt64) + (1 : Int64))), .second, .val (.long 0), .second, .val (.int ((p3 &&& (2147483647 : Int32)) % (7 : Int32))), .val (.long pp), .second, .unset] [(.int (lcmpW pp (0 : Int64)))])) _
            refine XS.ifYes X20.here hx rfl (pc0 := 277) (pc' := 284) rfl (hb hby at_277) rfl ((if0 _ _).trans (tlt ((lw_gt _ _).mpr hc21)).2.2.1) (by decide) (by decide) ?_
            show Steps p.tables e below (T20.setTop (mkF m 284 #[.val (.long q0), .second, iv p1, iv p2, .val (.long q3), .second, iv p3, .val (.long 0), .second, iv rc, iv 0, iv 1, rv wm, rv b16, iv 0, .val (.long ((rc.toInt64) + (1 : Int64))), .second, .val (.long 0), .second, .val (.int ((p3 &&& (2147483647 : Int32)) % (7 : Int32))), .val (.long pp), .second, .unset] [])) _
            refine XS.iconst X20.here hx rfl (hb hby at_284) ?_
            show Steps p.tables e below (T20.setTop (mkF m 285 #[.val (.long q0), .second, iv p1, iv p2, .val (.long q3), .second, iv p3, .val (.long 0), .second, iv rc, iv 0, iv 1, rv wm, rv b16, iv 0, .val (.long ((rc.toInt64) + (1 : Int64))), .second, .val (.long 0), .second, .val (.int ((p3 &&& (2147483647 : Int32)) % (7 : Int32))), .val (.long pp), .second, .unset] [(.int 0)])) _
            refine XS.istore X20.here hx rfl (hb hby at_285) rfl (l' := #[.val (.long q0), .second, iv p1, iv p2, .val (.long q3), .second, iv p3, .val (.long 0), .second, iv rc, iv 0, iv 1, rv wm, rv b16, iv 0, .val (.long ((rc.toInt64) + (1 : Int64))), .second, .val (.long 0), .second, .val (.int ((p3 &&& (2147483647 : Int32)) % (7 : Int32))), .val (.long pp), .second, iv 0]) rfl ?_
            show Steps p.tables e below (T20.setTop (mkF m 287 #[.val (.long q0), .second, iv p1, iv p2, .val (.long q3), .second, iv p3, .val (.long 0), .second, iv rc, iv 0, iv 1, rv wm, rv b16, iv 0, .val (.long ((rc.toInt64) + (1 : Int64))), .second, .val (.long 0), .second, .val (.int ((p3 &&& (2147483647 : Int32)) % (7 : Int32))), .val (.long pp), .second, iv 0] [])) _
            refine XS.goto X20.here hx rfl (pc0 := 287) (pc' := 305) rfl (hb hby at_287) (by decide) (by decide) ?_
            show Steps p.tables e below (T20.setTop (mkF m 305 #[.val (.long q0), .second, iv p1, iv p2, .val (.long q3), .second, iv p3, .val (.long 0), .second, iv rc, iv 0, iv 1, rv wm, rv b16, iv 0, .val (.long ((rc.toInt64) + (1 : Int64))), .second, .val (.long 0), .second, .val (.int ((p3 &&& (2147483647 : Int32)) % (7 : Int32))), .val (.long pp), .second, iv 0] [])) _
            refine XS.aload X20.here hx rfl (hb hby at_305) rfl rfl ?_
            show Steps p.tables e below (T20.setTop (mkF m 307 #[.val (.long q0), .second, iv p1, iv p2, .val (.long q3), .second, iv p3, .val (.long 0), .second, iv rc, iv 0, iv 1, rv wm, rv b16, iv 0, .val (.long ((rc.toInt64) + (1 : Int64))), .second, .val (.long 0), .second, .val (.int ((p3 &&& (2147483647 : Int32)) % (7 : Int32))), .val (.long pp), .second, iv 0] [(.ref b16)])) _
            refine XS.lload X20.here hx rfl (hb hby at_307) rfl ?_
            show Steps p.tables e below (T20.setTop (mkF m 309 #[.val (.long q0), .second, iv p1, iv p2, .val (.long q3), .second, iv p3, .val (.long 0), .second, iv rc, iv 0, iv 1, rv wm, rv b16, iv 0, .val (.long ((rc.toInt64) + (1 : Int64))), .second, .val (.long 0), .second, .val (.int ((p3 &&& (2147483647 : Int32)) % (7 : Int32))), .val (.long pp), .second, iv 0] [(.long pp), (.ref b16)])) _
            refine XS.iload X20.here hx rfl (hb hby at_309) rfl ?_
            show Steps p.tables e below (T20.setTop (mkF m 311 #[.val (.long q0), .second, iv p1, iv p2, .val (.long q3), .second, iv p3, .val (.long 0), .second, iv rc, iv 0, iv 1, rv wm, rv b16, iv 0, .val (.long ((rc.toInt64) + (1 : Int64))), .second, .val (.long 0), .second, .val (.int ((p3 &&& (2147483647 : Int32)) % (7 : Int32))), .val (.long pp), .second, iv 0] [(.int 1), (.long pp), (.ref b16)])) _
            refine st23.trans ?_
            show Steps p.tables e below (T23.setTop (mkF m 314 #[.val (.long q0), .second, iv p1, iv p2, .val (.long q3), .second, iv p3, .val (.long 0), .second, iv rc, iv 0, iv 1, rv wm, rv b16, iv 0, .val (.long ((rc.toInt64) + (1 : Int64))), .second, .val (.long 0), .second, .val (.int ((p3 &&& (2147483647 : Int32)) % (7 : Int32))), .val (.long pp), .second, iv 0] [(.int 0)])) _
            refine XS.iload X23.here hx rfl (hb hby at_314) rfl ?_
            show Steps p.tables e below (T23.setTop (mkF m 316 #[.val (.long q0), .second, iv p1, iv p2, .val (.long q3), .second, iv p3, .val (.long 0), .second, iv rc, iv 0, iv 1, rv wm, rv b16, iv 0, .val (.long ((rc.toInt64) + (1 : Int64))), .second, .val (.long 0), .second, .val (.int ((p3 &&& (2147483647 : Int32)) % (7 : Int32))), .val (.long pp), .second, iv 0] [(.int 0), (.int 0)])) _
            refine XS.icmpNo X23.here hx rfl (hb hby at_316) rfl (teq (by decide)).2 ?_
            show Steps p.tables e below (T23.setTop (mkF m 319 #[.val (.long q0), .second, iv p1, iv p2, .val (.long q3), .second, iv p3, .val (.long 0), .second, iv rc, iv 0, iv 1, rv wm, rv b16, iv 0, .val (.long ((rc.toInt64) + (1 : Int64))), .second, .val (.long 0), .second, .val (.int ((p3 &&& (2147483647 : Int32)) % (7 : Int32))), .val (.long pp), .second, iv 0] [])) _
            refine XS.iconst X23.here hx rfl (hb hby at_319) ?_
            show Steps p.tables e below (T23.setTop (mkF m 320 #[.val (.long q0), .second, iv p1, iv p2, .val (.long q3), .second, iv p3, .val (.long 0), .second, iv rc, iv 0, iv 1, rv wm, rv b16, iv 0, .val (.long ((rc.toInt64) + (1 : Int64))), .second, .val (.long 0), .second, .val (.int ((p3 &&& (2147483647 : Int32)) % (7 : Int32))), .val (.long pp), .second, iv 0] [(.int 1)])) _
            refine XS.goto X23.here hx rfl (pc0 := 320) (pc' := 324) rfl (hb hby at_320) (by decide) (by decide) ?_
            show Steps p.tables e below (T23.setTop (mkF m 324 #[.val (.long q0), .second, iv p1, iv p2, .val (.long q3), .second, iv p3, .val (.long 0), .second, iv rc, iv 0, iv 1, rv wm, rv b16, iv 0, .val (.long ((rc.toInt64) + (1 : Int64))), .second, .val (.long 0), .second, .val (.int ((p3 &&& (2147483647 : Int32)) % (7 : Int32))), .val (.long pp), .second, iv 0] [(.int 1)])) _
            exact retN X23 hx (t := .boolean) Bd.returns (by simp) (hb hby at_324) hr
          · show own_law_Q Z w_A w_B q0 p1 p2 q3 p3 h0 n0 _ T23.heap _
            rw [e23]
            exact ⟨rfl, N23⟩
        · obtain ⟨cq24, kq24, q24a, q24b, q24c⟩ := isOf hZ e20 Eq
          obtain ⟨_, _, ⟨T24, L24, k24, n24⟩, -, X24, ⟨Lc24, hQ24, l24, y24, z24⟩, st24⟩ := X20.virtualBack hx (y := (⟨"com/example/vsyncopate/vsyncopate/animation/Timeline", "isOver", "(JZ)Z"⟩ : MethodName)) (z := (⟨"com/example/vsyncopate/vsyncopate/animation/Timeline", "isOver", "(JZ)Z"⟩ : MethodName)) hown (mvT hZ (hw _ (own_m 29 rfl))) (mvT hZ (hw _ (own_m 30 rfl))) (notFace_of_selects (args := #[]) (mvT hZ (hw _ (own_m 32 rfl)))) (mvT hZ (hw _ (own_m 32 rfl))) (mvT hZ (hw _ (own_m 31 rfl))) (by decide) (backOf (W := 0) (own_ovR1 l Z a0 hw [] w_A w_B b16 pp (0 : Int64) T18.heap n0 O19 S_A S_B Fe Ftq hc21) hZ (hw _ (own_m 33 rfl)) (hw _ (own_m 7 rfl)) (by decide) (by decide)) q24a q24c (g := (mkF m 311 #[.val (.long q0), .second, iv p1, iv p2, .val (.long q3), .second, iv p3, .val (.long 0), .second, iv rc, iv 0, iv 1, rv wm, rv b16, iv 0, .val (.long ((rc.toInt64) + (1 : Int64))), .second, .val (.long 0), .second, .val (.int ((p3 &&& (2147483647 : Int32)) % (7 : Int32))), .val (.long pp), .second, iv 1] [(.int 1), (.long pp), (.ref b16)])) rfl (by rw [hml]; rfl) (Steps.refl _) (argsL := [(.long pp), (.int 1)]) (rest := []) (lenOf own_pd2 rfl) rfl (by show 2 * 0 + _ ≤ _; exact Nat.le_of_eq rfl) (hb hby at_311) (fun _ _ => ⟨rfl, e20, (by decide : 1 + 0 ≤ _), (by decide : 5 + 0 ≤ _)⟩)
          dsimp only [Pt.U, Pt.locs, Pt.cells, Pt.slots] at X24 l24 y24 z24 st24 hQ24
          subst l24 y24 z24
          obtain ⟨rfl, N24q, e24⟩ := hQ24
          have N24 := Fr.app N20 N24q
          obtain ⟨fs, hr, hrun, hended, hW, hsame⟩ := X24.leave (v := some (.int 1)) (fun h => by rw [Bd.returns] at h; cases h)
          refine ⟨_, _, pre22 _ ?_, hrun, hended, _, _, rfl, ?_, ⟨_, rfl⟩, hW, hsame.mono (by decide) (by decide)⟩
          · show Steps p.tables e below (T20.setTop (mkF m 276 #[.val (.long q0), .second, iv p1, iv p2, .val (.long q3), .second, iv p3, .val (.long 0), .second, iv rc, iv 0, iv 1, rv wm, rv b16, iv 0, .val (.long ((rc.toInt64) + (1 : Int64))), .second, .val (.long 0), .second, .val (.int ((p3 &&& (2147483647 : Int32)) % (7 : Int32))), .val (.long pp), .second, .unset] [(.long 0), (.long pp)])) _
            refine XS.lcmp X20.here hx rfl (hb hby at_276) rfl ?_
            show Steps p.tables e below (T20.setTop (mkF m 277 #[.val (.long q0), .second, iv p1, iv p2, .val (.long q3), .second, iv p3, .val (.long 0), .second, iv rc, iv 0, iv 1, rv wm, rv b16, iv 0, .val (.long ((rc.toInt64) + (1 : Int64))), .second, .val (.long 0), .second, .val (.int ((p3 &&& (2147483647 : Int32)) % (7 : Int32))), .val (.long pp), .second, .unset] [(.int (lcmpW pp (0 : Int64)))])) _
            refine XS.ifNo X20.here hx rfl (hb hby at_277) rfl ((if0 _ _).trans (flt (fun q => hc21 ((lw_gt _ _).mp q))).2.2.1) ?_
            show Steps p.tables e below (T20.setTop (mkF m 280 #[.val (.long q0), .second, iv p1, iv p2, .val (.long q3), .second, iv p3, .val (.long 0), .second, iv rc, iv 0, iv 1, rv wm, rv b16, iv 0, .val (.long ((rc.toInt64) + (1 : Int64))), .second, .val (.long 0), .second, .val (.int ((p3 &&& (2147483647 : Int32)) % (7 : Int32))), .val (.long pp), .second, .unset] [])) _
            refine XS.iconst X20.here hx rfl (hb hby at_280) ?_
            show Steps p.tables e below (T20.setTop (mkF m 281 #[.val (.long q0), .second, iv p1, iv p2, .val (.long q3), .second, iv p3, .val (.long 0), .second, iv rc, iv 0, iv 1, rv wm, rv b16, iv 0, .val (.long ((rc.toInt64) + (1 : Int64))), .second, .val (.long 0), .second, .val (.int ((p3 &&& (2147483647 : Int32)) % (7 : Int32))), .val (.long pp), .second, .unset] [(.int 1)])) _
            refine XS.goto X20.here hx rfl (pc0 := 281) (pc' := 285) rfl (hb hby at_281) (by decide) (by decide) ?_
            show Steps p.tables e below (T20.setTop (mkF m 285 #[.val (.long q0), .second, iv p1, iv p2, .val (.long q3), .second, iv p3, .val (.long 0), .second, iv rc, iv 0, iv 1, rv wm, rv b16, iv 0, .val (.long ((rc.toInt64) + (1 : Int64))), .second, .val (.long 0), .second, .val (.int ((p3 &&& (2147483647 : Int32)) % (7 : Int32))), .val (.long pp), .second, .unset] [(.int 1)])) _
            refine XS.istore X20.here hx rfl (hb hby at_285) rfl (l' := #[.val (.long q0), .second, iv p1, iv p2, .val (.long q3), .second, iv p3, .val (.long 0), .second, iv rc, iv 0, iv 1, rv wm, rv b16, iv 0, .val (.long ((rc.toInt64) + (1 : Int64))), .second, .val (.long 0), .second, .val (.int ((p3 &&& (2147483647 : Int32)) % (7 : Int32))), .val (.long pp), .second, iv 1]) rfl ?_
            show Steps p.tables e below (T20.setTop (mkF m 287 #[.val (.long q0), .second, iv p1, iv p2, .val (.long q3), .second, iv p3, .val (.long 0), .second, iv rc, iv 0, iv 1, rv wm, rv b16, iv 0, .val (.long ((rc.toInt64) + (1 : Int64))), .second, .val (.long 0), .second, .val (.int ((p3 &&& (2147483647 : Int32)) % (7 : Int32))), .val (.long pp), .second, iv 1] [])) _
            refine XS.goto X20.here hx rfl (pc0 := 287) (pc' := 305) rfl (hb hby at_287) (by decide) (by decide) ?_
            show Steps p.tables e below (T20.setTop (mkF m 305 #[.val (.long q0), .second, iv p1, iv p2, .val (.long q3), .second, iv p3, .val (.long 0), .second, iv rc, iv 0, iv 1, rv wm, rv b16, iv 0, .val (.long ((rc.toInt64) + (1 : Int64))), .second, .val (.long 0), .second, .val (.int ((p3 &&& (2147483647 : Int32)) % (7 : Int32))), .val (.long pp), .second, iv 1] [])) _
            refine XS.aload X20.here hx rfl (hb hby at_305) rfl rfl ?_
            show Steps p.tables e below (T20.setTop (mkF m 307 #[.val (.long q0), .second, iv p1, iv p2, .val (.long q3), .second, iv p3, .val (.long 0), .second, iv rc, iv 0, iv 1, rv wm, rv b16, iv 0, .val (.long ((rc.toInt64) + (1 : Int64))), .second, .val (.long 0), .second, .val (.int ((p3 &&& (2147483647 : Int32)) % (7 : Int32))), .val (.long pp), .second, iv 1] [(.ref b16)])) _
            refine XS.lload X20.here hx rfl (hb hby at_307) rfl ?_
            show Steps p.tables e below (T20.setTop (mkF m 309 #[.val (.long q0), .second, iv p1, iv p2, .val (.long q3), .second, iv p3, .val (.long 0), .second, iv rc, iv 0, iv 1, rv wm, rv b16, iv 0, .val (.long ((rc.toInt64) + (1 : Int64))), .second, .val (.long 0), .second, .val (.int ((p3 &&& (2147483647 : Int32)) % (7 : Int32))), .val (.long pp), .second, iv 1] [(.long pp), (.ref b16)])) _
            refine XS.iload X20.here hx rfl (hb hby at_309) rfl ?_
            show Steps p.tables e below (T20.setTop (mkF m 311 #[.val (.long q0), .second, iv p1, iv p2, .val (.long q3), .second, iv p3, .val (.long 0), .second, iv rc, iv 0, iv 1, rv wm, rv b16, iv 0, .val (.long ((rc.toInt64) + (1 : Int64))), .second, .val (.long 0), .second, .val (.int ((p3 &&& (2147483647 : Int32)) % (7 : Int32))), .val (.long pp), .second, iv 1] [(.int 1), (.long pp), (.ref b16)])) _
            refine st24.trans ?_
            show Steps p.tables e below (T24.setTop (mkF m 314 #[.val (.long q0), .second, iv p1, iv p2, .val (.long q3), .second, iv p3, .val (.long 0), .second, iv rc, iv 0, iv 1, rv wm, rv b16, iv 0, .val (.long ((rc.toInt64) + (1 : Int64))), .second, .val (.long 0), .second, .val (.int ((p3 &&& (2147483647 : Int32)) % (7 : Int32))), .val (.long pp), .second, iv 1] [(.int 1)])) _
            refine XS.iload X24.here hx rfl (hb hby at_314) rfl ?_
            show Steps p.tables e below (T24.setTop (mkF m 316 #[.val (.long q0), .second, iv p1, iv p2, .val (.long q3), .second, iv p3, .val (.long 0), .second, iv rc, iv 0, iv 1, rv wm, rv b16, iv 0, .val (.long ((rc.toInt64) + (1 : Int64))), .second, .val (.long 0), .second, .val (.int ((p3 &&& (2147483647 : Int32)) % (7 : Int32))), .val (.long pp), .second, iv 1] [(.int 1), (.int 1)])) _
            refine XS.icmpNo X24.here hx rfl (hb hby at_316) rfl (teq (by decide)).2 ?_
            show Steps p.tables e below (T24.setTop (mkF m 319 #[.val (.long q0), .second, iv p1, iv p2, .val (.long q3), .second, iv p3, .val (.long 0), .second, iv rc, iv 0, iv 1, rv wm, rv b16, iv 0, .val (.long ((rc.toInt64) + (1 : Int64))), .second, .val (.long 0), .second, .val (.int ((p3 &&& (2147483647 : Int32)) % (7 : Int32))), .val (.long pp), .second, iv 1] [])) _
            refine XS.iconst X24.here hx rfl (hb hby at_319) ?_
            show Steps p.tables e below (T24.setTop (mkF m 320 #[.val (.long q0), .second, iv p1, iv p2, .val (.long q3), .second, iv p3, .val (.long 0), .second, iv rc, iv 0, iv 1, rv wm, rv b16, iv 0, .val (.long ((rc.toInt64) + (1 : Int64))), .second, .val (.long 0), .second, .val (.int ((p3 &&& (2147483647 : Int32)) % (7 : Int32))), .val (.long pp), .second, iv 1] [(.int 1)])) _
            refine XS.goto X24.here hx rfl (pc0 := 320) (pc' := 324) rfl (hb hby at_320) (by decide) (by decide) ?_
            show Steps p.tables e below (T24.setTop (mkF m 324 #[.val (.long q0), .second, iv p1, iv p2, .val (.long q3), .second, iv p3, .val (.long 0), .second, iv rc, iv 0, iv 1, rv wm, rv b16, iv 0, .val (.long ((rc.toInt64) + (1 : Int64))), .second, .val (.long 0), .second, .val (.int ((p3 &&& (2147483647 : Int32)) % (7 : Int32))), .val (.long pp), .second, iv 1] [(.int 1)])) _
            exact retN X24 hx (t := .boolean) Bd.returns (by simp) (hb hby at_324) hr
          · show own_law_Q Z w_A w_B q0 p1 p2 q3 p3 h0 n0 _ T24.heap _
            rw [e24]
            exact ⟨rfl, N24⟩
    · have pre26 : ∀ t, Steps p.tables e below (s₁.setTop (mkF m 28 #[.val (.long q0), .second, iv p1, iv p2, .val (.long q3), .second, iv p3, .val (.long 0), .second, iv rc, iv 1, .unset, .unset, .unset, .unset, .unset, .unset, .unset, .unset, .unset, .unset, .unset, .unset] [(.int 2), (.int p2)])) t → Steps p.tables e below (s₁.setTop (entryFrame m #[(.long q0), (.int p1), (.int p2), (.long q3), (.int p3)] maxLocals)) t := fun t kt => by
        refine pre2 _ ?_
        show Steps p.tables e below (s₁.setTop (mkF m 15 #[.val (.long q0), .second, iv p1, iv p2, .val (.long q3), .second, iv p3, .val (.long 0), .second, iv rc, .unset, .unset, .unset, .unset, .unset, .unset, .unset, .unset, .unset, .unset, .unset, .unset, .unset] [(.int 1), (.int p2)])) _
        refine XS.iand X0.here hx rfl (hb hby at_15) rfl ?_
        show Steps p.tables e below (s₁.setTop (mkF m 16 #[.val (.long q0), .second, iv p1, iv p2, .val (.long q3), .second, iv p3, .val (.long 0), .second, iv rc, .unset, .unset, .unset, .unset, .unset, .unset, .unset, .unset, .unset, .unset, .unset, .unset, .unset] [(.int (p2 &&& (1 : Int32)))])) _
        refine XS.ifNo X0.here hx rfl (hb hby at_16) rfl ((if0 _ _).trans (feq hc1).1) ?_
        show Steps p.tables e below (s₁.setTop (mkF m 19 #[.val (.long q0), .second, iv p1, iv p2, .val (.long q3), .second, iv p3, .val (.long 0), .second, iv rc, .unset, .unset, .unset, .unset, .unset, .unset, .unset, .unset, .unset, .unset, .unset, .unset, .unset] [])) _
        refine XS.iconst X0.here hx rfl (hb hby at_19) ?_
        show Steps p.tables e below (s₁.setTop (mkF m 20 #[.val (.long q0), .second, iv p1, iv p2, .val (.long q3), .second, iv p3, .val (.long 0), .second, iv rc, .unset, .unset, .unset, .unset, .unset, .unset, .unset, .unset, .unset, .unset, .unset, .unset, .unset] [(.int 1)])) _
        refine XS.goto X0.here hx rfl (pc0 := 20) (pc' := 24) rfl (hb hby at_20) (by decide) (by decide) ?_
        show Steps p.tables e below (s₁.setTop (mkF m 24 #[.val (.long q0), .second, iv p1, iv p2, .val (.long q3), .second, iv p3, .val (.long 0), .second, iv rc, .unset, .unset, .unset, .unset, .unset, .unset, .unset, .unset, .unset, .unset, .unset, .unset, .unset] [(.int 1)])) _
        refine XS.istore X0.here hx rfl (hb hby at_24) rfl (l' := #[.val (.long q0), .second, iv p1, iv p2, .val (.long q3), .second, iv p3, .val (.long 0), .second, iv rc, iv 1, .unset, .unset, .unset, .unset, .unset, .unset, .unset, .unset, .unset, .unset, .unset, .unset]) rfl ?_
        show Steps p.tables e below (s₁.setTop (mkF m 26 #[.val (.long q0), .second, iv p1, iv p2, .val (.long q3), .second, iv p3, .val (.long 0), .second, iv rc, iv 1, .unset, .unset, .unset, .unset, .unset, .unset, .unset, .unset, .unset, .unset, .unset, .unset] [])) _
        refine XS.iloadN X0.here hx rfl (hb hby at_26) rfl ?_
        show Steps p.tables e below (s₁.setTop (mkF m 27 #[.val (.long q0), .second, iv p1, iv p2, .val (.long q3), .second, iv p3, .val (.long 0), .second, iv rc, iv 1, .unset, .unset, .unset, .unset, .unset, .unset, .unset, .unset, .unset, .unset, .unset, .unset] [(.int p2)])) _
        refine XS.iconst X0.here hx rfl (hb hby at_27) ?_
        show Steps p.tables e below (s₁.setTop (mkF m 28 #[.val (.long q0), .second, iv p1, iv p2, .val (.long q3), .second, iv p3, .val (.long 0), .second, iv rc, iv 1, .unset, .unset, .unset, .unset, .unset, .unset, .unset, .unset, .unset, .unset, .unset, .unset] [(.int 2), (.int p2)])) _
        exact kt
      by_cases hc25 : (p2 &&& (2 : Int32)) = (0 : Int32)
      · obtain ⟨wm, T27, Lj27, hj27, X27, N27, e27, st27⟩ := own_mode w_A w_B (.val (.long q0)) (.second) (iv p1) (.val (.long q3)) (.second) (iv p3) (.val (.long 0)) (.second) (iv rc) (iv 1) (iv 0) (.unset) (.unset) (.unset) (.unset) (.unset) (.unset) (.unset) (.unset) (.unset) (.unset) (.unset) (p2) X0 hx hZ hw hby hml hown e0 N0 O0 S_A S_B 
        obtain ⟨T28, h28, X28, e28, E28, A28, D28, -, st28⟩ := newO X27 hx hZ hown (hw _ (own_m 5 rfl)) (hw _ (own_m 6 rfl)) (hw _ (own_m 7 rfl)) e27 (g := (mkF m 56 #[.val (.long q0), .second, iv p1, iv p2, .val (.long q3), .second, iv p3, .val (.long 0), .second, iv rc, iv 1, iv 0, rv wm, .unset, .unset, .unset, .unset, .unset, .unset, .unset, .unset, .unset, .unset] [])) rfl (hb hby at_56) (by decide) (by decide)
        obtain ⟨b28, g28⟩ : ∃ z, z = h0.size := ⟨_, rfl⟩
        rw [← g28] at A28 D28 st28
        have gg_b28 : n0 ≤ b28 := g28 ▸ own_le O0
        have O29 := O0.ext E28
        have F_iterationNanos_b28 : Fld Z h28 b28 "com/example/vsyncopate/vsyncopate/animation/Timeline" "iterationNanos" "J" (.long 0) := D28 (Or.inr (hw _ (own_m 15 rfl))) (ty := .long) (by decide)
        have F_mode_b28 : Fld Z h28 b28 "com/example/vsyncopate/vsyncopate/animation/Timeline" "mode" "Lcom/example/vsyncopate/vsyncopate/animation/RepeatMode;" .null := D28 (Or.inr (hw _ (own_m 17 rfl))) (ty := (.object "com/example/vsyncopate/vsyncopate/animation/RepeatMode")) (by decide)
        have F_endless_b28 : Fld Z h28 b28 "com/example/vsyncopate/vsyncopate/animation/Timeline" "endless" "Z" (.int 0) := D28 (Or.inr (hw _ (own_m 19 rfl))) (ty := .boolean) (by decide)
        have F_iterations_b28 : Fld Z h28 b28 "com/example/vsyncopate/vsyncopate/animation/Timeline" "iterations" "J" (.long 0) := D28 (Or.inr (hw _ (own_m 21 rfl))) (ty := .long) (by decide)
        have F_totalNanos_b28 : Fld Z h28 b28 "com/example/vsyncopate/vsyncopate/animation/Timeline" "totalNanos" "J" (.long 0) := D28 (Or.inr (hw _ (own_m 28 rfl))) (ty := .long) (by decide)
        obtain ⟨_, _, ⟨T30, L30, k30, n30⟩, -, X30, ⟨Lc30, hQ30, l30, y30, z30⟩, st30⟩ := X28.specialBack hx (y := (⟨"com/example/vsyncopate/vsyncopate/animation/Timeline", "<init>", "(JIZLcom/example/vsyncopate/vsyncopate/animation/RepeatMode;)V"⟩ : MethodName)) rfl hown (mvT hZ (hw _ (own_m 8 rfl))) (mvT hZ (hw _ (own_m 9 rfl))) (mvT hZ (hw _ (own_m 10 rfl))) (by decide) (backOf (W := 1) (own_mk10 l Z a0 hw [] w_A w_B b28 (0 : Int64) rc wm h28 n0 O29 S_A S_B gg_b28 A28 F_iterationNanos_b28 F_mode_b28 F_endless_b28 F_iterations_b28 F_totalNanos_b28) hZ (hw _ (own_m 10 rfl)) (hw _ (own_m 7 rfl)) (by decide) (by decide)) (g := (mkF m 68 #[.val (.long q0), .second, iv p1, iv p2, .val (.long q3), .second, iv p3, .val (.long 0), .second, iv rc, iv 1, iv 0, rv wm, .unset, .unset, .unset, .unset, .unset, .unset, .unset, .unset, .unset, .unset] [(.ref wm), (.int 1), (.int rc), (.long 0), (.ref b28), (.ref b28)])) rfl (by rw [hml]; rfl) (Steps.refl _) (a := b28) (argsL := [(.long 0), (.int rc), (.int 1), (.ref wm)]) (rest := [(.ref b28)]) (lenOf own_pd1 rfl) rfl (by show 2 * 0 + _ ≤ _; exact Nat.le_of_eq rfl) (hb hby at_68) (fun _ _ => ⟨rfl, e28, (by decide : 1 + 0 ≤ _), (by decide : 5 + 0 ≤ _)⟩)
        dsimp only [Pt.U, Pt.locs, Pt.cells, Pt.slots] at X30 l30 y30 z30 st30 hQ30
        subst l30 y30 z30
        obtain ⟨rfl, N30q, K30, tq, hq, Eq, Fe, Ftq⟩ := hQ30
        have N30 := Fr.app N27 N30q
        subst hq
        have O31 := O29.keep K30 (allS gg_b28 all0)
        obtain ⟨pp, T32, Lj32, hj32, X32, N32, e32, st32⟩ := own_pp0 w_A w_B (.val (.long q0)) (.second) (iv p1) (iv p2) (.val (.long 0)) (.second) (iv rc) (iv 1) (iv 0) (rv wm) (rv b28) (iv 0) (.val (.long 1)) (.second) (q3) (p3) ((0 : Int64)) X30 hx hZ hw hby hml hown rfl N30 O31 S_A S_B 
        have pre34 : ∀ t, Steps p.tables e below (T32.setTop (mkF m 294 #[.val (.long q0), .second, iv p1, iv p2, .val (.long q3), .second, iv p3, .val (.long 0), .second, iv rc, iv 1, iv 0, rv wm, rv b28, iv 0, .val (.long 1), .second, .val (.long 0), .second, .val (.int ((p3 &&& (2147483647 : Int32)) % (7 : Int32))), .val (.long pp), .second, .unset] [(.long 0), (.long pp)])) t → Steps p.tables e below (s₁.setTop (entryFrame m #[(.long q0), (.int p1), (.int p2), (.long q3), (.int p3)] maxLocals)) t := fun t kt => by
          refine pre26 _ ?_
          show Steps p.tables e below (s₁.setTop (mkF m 28 #[.val (.long q0), .second, iv p1, iv p2, .val (.long q3), .second, iv p3, .val (.long 0), .second, iv rc, iv 1, .unset, .unset, .unset, .unset, .unset, .unset, .unset, .unset, .unset, .unset, .unset, .unset] [(.int 2), (.int p2)])) _
          refine XS.iand X0.here hx rfl (hb hby at_28) rfl ?_
          show Steps p.tables e below (s₁.setTop (mkF m 29 #[.val (.long q0), .second, iv p1, iv p2, .val (.long q3), .second, iv p3, .val (.long 0), .second, iv rc, iv 1, .unset, .unset, .unset, .unset, .unset, .unset, .unset, .unset, .unset, .unset, .unset, .unset] [(.int (p2 &&& (2 : Int32)))])) _
          refine XS.ifYes X0.here hx rfl (pc0 := 29) (pc' := 36) rfl (hb hby at_29) rfl ((if0 _ _).trans (teq hc25).1) (by decide) (by decide) ?_
          show Steps p.tables e below (s₁.setTop (mkF m 36 #[.val (.long q0), .second, iv p1, iv p2, .val (.long q3), .second, iv p3, .val (.long 0), .second, iv rc, iv 1, .unset, .unset, .unset, .unset, .unset, .unset, .unset, .unset, .unset, .unset, .unset, .unset] [])) _
          refine XS.iconst X0.here hx rfl (hb hby at_36) ?_
          show Steps p.tables e below (s₁.setTop (mkF m 37 #[.val (.long q0), .second, iv p1, iv p2, .val (.long q3), .second, iv p3, .val (.long 0), .second, iv rc, iv 1, .unset, .unset, .unset, .unset, .unset, .unset, .unset, .unset, .unset, .unset, .unset, .unset] [(.int 0)])) _
          refine XS.istore X0.here hx rfl (hb hby at_37) rfl (l' := #[.val (.long q0), .second, iv p1, iv p2, .val (.long q3), .second, iv p3, .val (.long 0), .second, iv rc, iv 1, iv 0, .unset, .unset, .unset, .unset, .unset, .unset, .unset, .unset, .unset, .unset, .unset]) rfl ?_
          show Steps p.tables e below (s₁.setTop (mkF m 39 #[.val (.long q0), .second, iv p1, iv p2, .val (.long q3), .second, iv p3, .val (.long 0), .second, iv rc, iv 1, iv 0, .unset, .unset, .unset, .unset, .unset, .unset, .unset, .unset, .unset, .unset, .unset] [])) _
          refine st27 _ ?_
          show Steps p.tables e below (T27.setTop (mkF m 54 #[.val (.long q0), .second, iv p1, iv p2, .val (.long q3), .second, iv p3, .val (.long 0), .second, iv rc, iv 1, iv 0, .unset, .unset, .unset, .unset, .unset, .unset, .unset, .unset, .unset, .unset, .unset] [(.ref wm)])) _
          refine XS.astore X27.here hx rfl (hb hby at_54) rfl rfl (l' := #[.val (.long q0), .second, iv p1, iv p2, .val (.long q3), .second, iv p3, .val (.long 0), .second, iv rc, iv 1, iv 0, rv wm, .unset, .unset, .unset, .unset, .unset, .unset, .unset, .unset, .unset, .unset]) rfl ?_
          show Steps p.tables e below (T27.setTop (mkF m 56 #[.val (.long q0), .second, iv p1, iv p2, .val (.long q3), .second, iv p3, .val (.long 0), .second, iv rc, iv 1, iv 0, rv wm, .unset, .unset, .unset, .unset, .unset, .unset, .unset, .unset, .unset, .unset] [])) _
          refine st28 _ ?_
          show Steps p.tables e below (T28.setTop (mkF m 59 #[.val (.long q0), .second, iv p1, iv p2, .val (.long q3), .second, iv p3, .val (.long 0), .second, iv rc, iv 1, iv 0, rv wm, .unset, .unset, .unset, .unset, .unset, .unset, .unset, .unset, .unset, .unset] [(.ref b28)])) _
          refine XS.dup X28.here hx rfl (hb hby at_59) rfl rfl ?_
          show Steps p.tables e below (T28.setTop (mkF m 60 #[.val (.long q0), .second, iv p1, iv p2, .val (.long q3), .second, iv p3, .val (.long 0), .second, iv rc, iv 1, iv 0, rv wm, .unset, .unset, .unset, .unset, .unset, .unset, .unset, .unset, .unset, .unset] [(.ref b28), (.ref b28)])) _
          refine XS.lload X28.here hx rfl (hb hby at_60) rfl ?_
          show Steps p.tables e below (T28.setTop (mkF m 62 #[.val (.long q0), .second, iv p1, iv p2, .val (.long q3), .second, iv p3, .val (.long 0), .second, iv rc, iv 1, iv 0, rv wm, .unset, .unset, .unset, .unset, .unset, .unset, .unset, .unset, .unset, .unset] [(.long 0), (.ref b28), (.ref b28)])) _
          refine XS.iload X28.here hx rfl (hb hby at_62) rfl ?_
          show Steps p.tables e below (T28.setTop (mkF m 64 #[.val (.long q0), .second, iv p1, iv p2, .val (.long q3), .second, iv p3, .val (.long 0), .second, iv rc, iv 1, iv 0, rv wm, .unset, .unset, .unset, .unset, .unset, .unset, .unset, .unset, .unset, .unset] [(.int rc), (.long 0), (.ref b28), (.ref b28)])) _
          refine XS.iload X28.here hx rfl (hb hby at_64) rfl ?_
          show Steps p.tables e below (T28.setTop (mkF m 66 #[.val (.long q0), .second, iv p1, iv p2, .val (.long q3), .second, iv p3, .val (.long 0), .second, iv rc, iv 1, iv 0, rv wm, .unset, .unset, .unset, .unset, .unset, .unset, .unset, .unset, .unset, .unset] [(.int 1), (.int rc), (.long 0), (.ref b28), (.ref b28)])) _
          refine XS.aload X28.here hx rfl (hb hby at_66) rfl rfl ?_
          show Steps p.tables e below (T28.setTop (mkF m 68 #[.val (.long q0), .second, iv p1, iv p2, .val (.long q3), .second, iv p3, .val (.long 0), .second, iv rc, iv 1, iv 0, rv wm, .unset, .unset, .unset, .unset, .unset, .unset, .unset, .unset, .unset, .unset] [(.ref wm), (.int 1), (.int rc), (.long 0), (.ref b28), (.ref b28)])) _
          refine st30.trans ?_
          show Steps p.tables e below (T30.setTop (mkF m 71 #[.val (.long q0), .second, iv p1, iv p2, .val (.long q3), .second, iv p3, .val (.long 0), .second, iv rc, iv 1, iv 0, rv wm, .unset, .unset, .unset, .unset, .unset, .unset, .unset, .unset, .unset, .unset] [(.ref b28)])) _
          refine XS.astore X30.here hx rfl (hb hby at_71) rfl rfl (l' := #[.val (.long q0), .second, iv p1, iv p2, .val (.long q3), .second, iv p3, .val (.long 0), .second, iv rc, iv 1, iv 0, rv wm, rv b28, .unset, .unset, .unset, .unset, .unset, .unset, .unset, .unset, .unset]) rfl ?_
          show Steps p.tables e below (T30.setTop (mkF m 73 #[.val (.long q0), .second, iv p1, iv p2, .val (.long q3), .second, iv p3, .val (.long 0), .second, iv rc, iv 1, iv 0, rv wm, rv b28, .unset, .unset, .unset, .unset, .unset, .unset, .unset, .unset, .unset] [])) _
          refine XS.iload X30.here hx rfl (hb hby at_73) rfl ?_
          show Steps p.tables e below (T30.setTop (mkF m 75 #[.val (.long q0), .second, iv p1, iv p2, .val (.long q3), .second, iv p3, .val (.long 0), .second, iv rc, iv 1, iv 0, rv wm, rv b28, .unset, .unset, .unset, .unset, .unset, .unset, .unset, .unset, .unset] [(.int 1)])) _
          refine XS.ifNo X30.here hx rfl (hb hby at_75) rfl ((if0 _ _).trans (feq (by decide)).1) ?_
          show Steps p.tables e below (T30.setTop (mkF m 78 #[.val (.long q0), .second, iv p1, iv p2, .val (.long q3), .second, iv p3, .val (.long 0), .second, iv rc, iv 1, iv 0, rv wm, rv b28, .unset, .unset, .unset, .unset, .unset, .unset, .unset, .unset, .unset] [])) _
          refine XS.lload X30.here hx rfl (hb hby at_78) rfl ?_
          show Steps p.tables e below (T30.setTop (mkF m 80 #[.val (.long q0), .second, iv p1, iv p2, .val (.long q3), .second, iv p3, .val (.long 0), .second, iv rc, iv 1, iv 0, rv wm, rv b28, .unset, .unset, .unset, .unset, .unset, .unset, .unset, .unset, .unset] [(.long 0)])) _
          refine XS.lconst X30.here hx rfl (hb hby at_80) ?_
          show Steps p.tables e below (T30.setTop (mkF m 81 #[.val (.long q0), .second, iv p1, iv p2, .val (.long q3), .second, iv p3, .val (.long 0), .second, iv rc, iv 1, iv 0, rv wm, rv b28, .unset, .unset, .unset, .unset, .unset, .unset, .unset, .unset, .unset] [(.long 0), (.long 0)])) _
          refine XS.lcmp X30.here hx rfl (hb hby at_81) rfl ?_
          show Steps p.tables e below (T30.setTop (mkF m 82 #[.val (.long q0), .second, iv p1, iv p2, .val (.long q3), .second, iv p3, .val (.long 0), .second, iv rc, iv 1, iv 0, rv wm, rv b28, .unset, .unset, .unset, .unset, .unset, .unset, .unset, .unset, .unset] [(.int (lcmpW (0 : Int64) (0 : Int64)))])) _
          refine XS.ifYes X30.here hx rfl (pc0 := 82) (pc' := 89) rfl (hb hby at_82) rfl ((if0 _ _).trans (flt (fun q => (show ¬ ((0 : Int64) < (0 : Int64)) from by decide) ((lw_gt _ _).mp q))).2.2.2) (by decide) (by decide) ?_
          show Steps p.tables e below (T30.setTop (mkF m 89 #[.val (.long q0), .second, iv p1, iv p2, .val (.long q3), .second, iv p3, .val (.long 0), .second, iv rc, iv 1, iv 0, rv wm, rv b28, .unset, .unset, .unset, .unset, .unset, .unset, .unset, .unset, .unset] [])) _
          refine XS.iconst X30.here hx rfl (hb hby at_89) ?_
          show Steps p.tables e below (T30.setTop (mkF m 90 #[.val (.long q0), .second, iv p1, iv p2, .val (.long q3), .second, iv p3, .val (.long 0), .second, iv rc, iv 1, iv 0, rv wm, rv b28, .unset, .unset, .unset, .unset, .unset, .unset, .unset, .unset, .unset] [(.int 0)])) _
          refine XS.istore X30.here hx rfl (hb hby at_90) rfl (l' := #[.val (.long q0), .second, iv p1, iv p2, .val (.long q3), .second, iv p3, .val (.long 0), .second, iv rc, iv 1, iv 0, rv wm, rv b28, iv 0, .unset, .unset, .unset, .unset, .unset, .unset, .unset, .unset]) rfl ?_
          show Steps p.tables e below (T30.setTop (mkF m 92 #[.val (.long q0), .second, iv p1, iv p2, .val (.long q3), .second, iv p3, .val (.long 0), .second, iv rc, iv 1, iv 0, rv wm, rv b28, iv 0, .unset, .unset, .unset, .unset, .unset, .unset, .unset, .unset] [])) _
          refine XS.iload X30.here hx rfl (hb hby at_92) rfl ?_
          show Steps p.tables e below (T30.setTop (mkF m 94 #[.val (.long q0), .second, iv p1, iv p2, .val (.long q3), .second, iv p3, .val (.long 0), .second, iv rc, iv 1, iv 0, rv wm, rv b28, iv 0, .unset, .unset, .unset, .unset, .unset, .unset, .unset, .unset] [(.int 1)])) _
          refine XS.ifNo X30.here hx rfl (hb hby at_94) rfl ((if0 _ _).trans (feq (by decide)).1) ?_
          show Steps p.tables e below (T30.setTop (mkF m 97 #[.val (.long q0), .second, iv p1, iv p2, .val (.long q3), .second, iv p3, .val (.long 0), .second, iv rc, iv 1, iv 0, rv wm, rv b28, iv 0, .unset, .unset, .unset, .unset, .unset, .unset, .unset, .unset] [])) _
          refine XS.lconst X30.here hx rfl (hb hby at_97) ?_
          show Steps p.tables e below (T30.setTop (mkF m 98 #[.val (.long q0), .second, iv p1, iv p2, .val (.long q3), .second, iv p3, .val (.long 0), .second, iv rc, iv 1, iv 0, rv wm, rv b28, iv 0, .unset, .unset, .unset, .unset, .unset, .unset, .unset, .unset] [(.long 1)])) _
          refine XS.goto X30.here hx rfl (pc0 := 98) (pc' := 106) rfl (hb hby at_98) (by decide) (by decide) ?_
          show Steps p.tables e below (T30.setTop (mkF m 106 #[.val (.long q0), .second, iv p1, iv p2, .val (.long q3), .second, iv p3, .val (.long 0), .second, iv rc, iv 1, iv 0, rv wm, rv b28, iv 0, .unset, .unset, .unset, .unset, .unset, .unset, .unset, .unset] [(.long 1)])) _
          refine XS.lstore X30.here hx rfl (hb hby at_106) rfl (l' := #[.val (.long q0), .second, iv p1, iv p2, .val (.long q3), .second, iv p3, .val (.long 0), .second, iv rc, iv 1, iv 0, rv wm, rv b28, iv 0, .val (.long 1), .second, .unset, .unset, .unset, .unset, .unset, .unset]) rfl ?_
          show Steps p.tables e below (T30.setTop (mkF m 108 #[.val (.long q0), .second, iv p1, iv p2, .val (.long q3), .second, iv p3, .val (.long 0), .second, iv rc, iv 1, iv 0, rv wm, rv b28, iv 0, .val (.long 1), .second, .unset, .unset, .unset, .unset, .unset, .unset] [])) _
          refine XS.lload X30.here hx rfl (hb hby at_108) rfl ?_
          show Steps p.tables e below (T30.setTop (mkF m 110 #[.val (.long q0), .second, iv p1, iv p2, .val (.long q3), .second, iv p3, .val (.long 0), .second, iv rc, iv 1, iv 0, rv wm, rv b28, iv 0, .val (.long 1), .second, .unset, .unset, .unset, .unset, .unset, .unset] [(.long 0)])) _
          refine XS.lconst X30.here hx rfl (hb hby at_110) ?_
          show Steps p.tables e below (T30.setTop (mkF m 111 #[.val (.long q0), .second, iv p1, iv p2, .val (.long q3), .second, iv p3, .val (.long 0), .second, iv rc, iv 1, iv 0, rv wm, rv b28, iv 0, .val (.long 1), .second, .unset, .unset, .unset, .unset, .unset, .unset] [(.long 0), (.long 0)])) _
          refine XS.lcmp X30.here hx rfl (hb hby at_111) rfl ?_
          show Steps p.tables e below (T30.setTop (mkF m 112 #[.val (.long q0), .second, iv p1, iv p2, .val (.long q3), .second, iv p3, .val (.long 0), .second, iv rc, iv 1, iv 0, rv wm, rv b28, iv 0, .val (.long 1), .second, .unset, .unset, .unset, .unset, .unset, .unset] [(.int (lcmpW (0 : Int64) (0 : Int64)))])) _
          refine XS.ifNo X30.here hx rfl (hb hby at_112) rfl ((if0 _ _).trans (teq ((lw_eq _ _).mpr (show ((0 : Int64) = (0 : Int64)) from by decide))).2) ?_
          show Steps p.tables e below (T30.setTop (mkF m 115 #[.val (.long q0), .second, iv p1, iv p2, .val (.long q3), .second, iv p3, .val (.long 0), .second, iv rc, iv 1, iv 0, rv wm, rv b28, iv 0, .val (.long 1), .second, .unset, .unset, .unset, .unset, .unset, .unset] [])) _
          refine XS.lconst X30.here hx rfl (hb hby at_115) ?_
          show Steps p.tables e below (T30.setTop (mkF m 116 #[.val (.long q0), .second, iv p1, iv p2, .val (.long q3), .second, iv p3, .val (.long 0), .second, iv rc, iv 1, iv 0, rv wm, rv b28, iv 0, .val (.long 1), .second, .unset, .unset, .unset, .unset, .unset, .unset] [(.long 0)])) _
          refine XS.lstore X30.here hx rfl (hb hby at_116) rfl (l' := #[.val (.long q0), .second, iv p1, iv p2, .val (.long q3), .second, iv p3, .val (.long 0), .second, iv rc, iv 1, iv 0, rv wm, rv b28, iv 0, .val (.long 1), .second, .val (.long 0), .second, .unset, .unset, .unset, .unset]) rfl ?_
          show Steps p.tables e below (T30.setTop (mkF m 118 #[.val (.long q0), .second, iv p1, iv p2, .val (.long q3), .second, iv p3, .val (.long 0), .second, iv rc, iv 1, iv 0, rv wm, rv b28, iv 0, .val (.long 1), .second, .val (.long 0), .second, .unset, .unset, .unset, .unset] [])) _
          refine XS.goto X30.here hx rfl (pc0 := 118) (pc' := 149) rfl (hb hby at_118) (by decide) (by decide) ?_
          show Steps p.tables e below (T30.setTop (mkF m 149 #[.val (.long q0), .second, iv p1, iv p2, .val (.long q3), .second, iv p3, .val (.long 0), .second, iv rc, iv 1, iv 0, rv wm, rv b28, iv 0, .val (.long 1), .second, .val (.long 0), .second, .unset, .unset, .unset, .unset] [])) _
          refine st32 _ ?_
          show Steps p.tables e below (T32.setTop (mkF m 257 #[.val (.long q0), .second, iv p1, iv p2, .val (.long q3), .second, iv p3, .val (.long 0), .second, iv rc, iv 1, iv 0, rv wm, rv b28, iv 0, .val (.long 1), .second, .val (.long 0), .second, .val (.int ((p3 &&& (2147483647 : Int32)) % (7 : Int32))), .val (.long pp), .second, .unset] [])) _
          refine XS.iload X32.here hx rfl (hb hby at_257) rfl ?_
          show Steps p.tables e below (T32.setTop (mkF m 259 #[.val (.long q0), .second, iv p1, iv p2, .val (.long q3), .second, iv p3, .val (.long 0), .second, iv rc, iv 1, iv 0, rv wm, rv b28, iv 0, .val (.long 1), .second, .val (.long 0), .second, .val (.int ((p3 &&& (2147483647 : Int32)) % (7 : Int32))), .val (.long pp), .second, .unset] [(.int 0)])) _
          refine XS.ifYes X32.here hx rfl (pc0 := 259) (pc' := 268) rfl (hb hby at_259) rfl ((if0 _ _).trans (teq (by decide)).1) (by decide) (by decide) ?_
          show Steps p.tables e below (T32.setTop (mkF m 268 #[.val (.long q0), .second, iv p1, iv p2, .val (.long q3), .second, iv p3, .val (.long 0), .second, iv rc, iv 1, iv 0, rv wm, rv b28, iv 0, .val (.long 1), .second, .val (.long 0), .second, .val (.int ((p3 &&& (2147483647 : Int32)) % (7 : Int32))), .val (.long pp), .second, .unset] [])) _
          refine XS.iload X32.here hx rfl (hb hby at_268) rfl ?_
          show Steps p.tables e below (T32.setTop (mkF m 270 #[.val (.long q0), .second, iv p1, iv p2, .val (.long q3), .second, iv p3, .val (.long 0), .second, iv rc, iv 1, iv 0, rv wm, rv b28, iv 0, .val (.long 1), .second, .val (.long 0), .second, .val (.int ((p3 &&& (2147483647 : Int32)) % (7 : Int32))), .val (.long pp), .second, .unset] [(.int 0)])) _
          refine XS.ifYes X32.here hx rfl (pc0 := 270) (pc' := 290) rfl (hb hby at_270) rfl ((if0 _ _).trans (teq (by decide)).1) (by decide) (by decide) ?_
          show Steps p.tables e below (T32.setTop (mkF m 290 #[.val (.long q0), .second, iv p1, iv p2, .val (.long q3), .second, iv p3, .val (.long 0), .second, iv rc, iv 1, iv 0, rv wm, rv b28, iv 0, .val (.long 1), .second, .val (.long 0), .second, .val (.int ((p3 &&& (2147483647 : Int32)) % (7 : Int32))), .val (.long pp), .second, .unset] [])) _
          refine XS.lload X32.here hx rfl (hb hby at_290) rfl ?_
          show Steps p.tables e below (T32.setTop (mkF m 292 #[.val (.long q0), .second, iv p1, iv p2, .val (.long q3), .second, iv p3, .val (.long 0), .second, iv rc, iv 1, iv 0, rv wm, rv b28, iv 0, .val (.long 1), .second, .val (.long 0), .second, .val (.int ((p3 &&& (2147483647 : Int32)) % (7 : Int32))), .val (.long pp), .second, .unset] [(.long pp)])) _
          refine XS.lload X32.here hx rfl (hb hby at_292) rfl ?_
          show Steps p.tables e below (T32.setTop (mkF m 294 #[.val (.long q0), .second, iv p1, iv p2, .val (.long q3), .second, iv p3, .val (.long 0), .second, iv rc, iv 1, iv 0, rv wm, rv b28, iv 0, .val (.long 1), .second, .val (.long 0), .second, .val (.int ((p3 &&& (2147483647 : Int32)) % (7 : Int32))), .val (.long pp), .second, .unset] [(.long 0), (.long pp)])) _
          exact kt
        by_cases hc33 : pp < (0 : Int64)
        · obtain ⟨cq35, kq35, q35a, q35b, q35c⟩ := isOf hZ e32 Eq
          obtain ⟨_, _, ⟨T35, L35, k35, n35⟩, -, X35, ⟨Lc35, hQ35, l35, y35, z35⟩, st35⟩ := X32.virtualBack hx (y := (⟨"com/example/vsyncopate/vsyncopate/animation/Timeline", "isOver", "(JZ)Z"⟩ : MethodName)) (z := (⟨"com/example/vsyncopate/vsyncopate/animation/Timeline", "isOver", "(JZ)Z"⟩ : MethodName)) hown (mvT hZ (hw _ (own_m 29 rfl))) (mvT hZ (hw _ (own_m 30 rfl))) (notFace_of_selects (args := #[]) (mvT hZ (hw _ (own_m 32 rfl)))) (mvT hZ (hw _ (own_m 32 rfl))) (mvT hZ (hw _ (own_m 31 rfl))) (by decide) (backOf (W := 0) (own_ovF0 l Z a0 hw [] w_A w_B b28 pp (0 : Int64) T30.heap n0 O31 S_A S_B Fe Ftq hc33) hZ (hw _ (own_m 33 rfl)) (hw _ (own_m 7 rfl)) (by decide) (by decide)) q35a q35c (g := (mkF m 311 #[.val (.long q0), .second, iv p1, iv p2, .val (.long q3), .second, iv p3, .val (.long 0), .second, iv rc, iv 1, iv 0, rv wm, rv b28, iv 0, .val (.long 1), .second, .val (.long 0), .second, .val (.int ((p3 &&& (2147483647 : Int32)) % (7 : Int32))), .val (.long pp), .second, iv 0] [(.int 0), (.long pp), (.ref b28)])) rfl (by rw [hml]; rfl) (Steps.refl _) (argsL := [(.long pp), (.int 0)]) (rest := []) (lenOf own_pd2 rfl) rfl (by show 2 * 0 + _ ≤ _; exact Nat.le_of_eq rfl) (hb hby at_311) (fun _ _ => ⟨rfl, e32, (by decide : 1 + 0 ≤ _), (by decide : 5 + 0 ≤ _)⟩)
          dsimp only [Pt.U, Pt.locs, Pt.cells, Pt.slots] at X35 l35 y35 z35 st35 hQ35
          subst l35 y35 z35
          obtain ⟨rfl, N35q, e35⟩ := hQ35
          have N35 := Fr.app N32 N35q
          obtain ⟨fs, hr, hrun, hended, hW, hsame⟩ := X35.leave (v := some (.int 1)) (fun h => by rw [Bd.returns] at h; cases h)
          refine ⟨_, _, pre34 _ ?_, hrun, hended, _, _, rfl, ?_, ⟨_, rfl⟩, hW, hsame.mono (by decide) (by decide)⟩
          · show Steps p.tables e below (T32.setTop (mkF m 294 #[.val (.long q0), .second, iv p1, iv p2, .val (.long q3), .second, iv p3, .val (.long 0), .second, iv rc, iv 1, iv 0, rv wm, rv b28, iv 0, .val (.long 1), .second, .val (.long 0), .second, .val (.int ((p3 &&& (2147483647 : Int32)) % (7 : Int32))), .val (.long pp), .second, .unset] [(.long 0), (.long pp)])) _
            refine XS.lcmp X32.here hx rfl (hb hby at_294) rfl ?_
            show Steps p.tables e below (T32.setTop (mkF m 295 #[.val (.long q0), .second, iv p1, iv p2, .val (.long q3), .second, iv p3, .val (.long 0), .second, iv rc, iv 1, iv 0, rv wm, rv b28, iv 0, .val (.long 1), .second, .val (.long 0), .second, .val (.int ((p3 &&& (2147483647 : Int32)) % (7 : Int32))), .val (.long pp), .second, .unset] [(.int (lcmpW pp (0 : Int64)))])) _
            refine XS.ifYes X32.here hx rfl (pc0 := 295) (pc' := 302) rfl (hb hby at_295) rfl ((if0 _ _).trans (tlt ((lw_lt _ _).mpr hc33)).1) (by decide) (by decide) ?_
            show Steps p.tables e below (T32.setTop (mkF m 302 #[.val (.long q0), .second, iv p1, iv p2, .val (.long q3), .second, iv p3, .val (.long 0), .second, iv rc, iv 1, iv 0, rv wm, rv b28, iv 0, .val (.long 1), .second, .val (.long 0), .second, .val (.int ((p3 &&& (2147483647 : Int32)) % (7 : Int32))), .val (.long pp), .second, .unset] [])) _
            refine XS.iconst X32.here hx rfl (hb hby at_302) ?_
            show Steps p.tables e below (T32.setTop (mkF m 303 #[.val (.long q0), .second, iv p1, iv p2, .val (.long q3), .second, iv p3, .val (.long 0), .second, iv rc, iv 1, iv 0, rv wm, rv b28, iv 0, .val (.long 1), .second, .val (.long 0), .second, .val (.int ((p3 &&& (2147483647 : Int32)) % (7 : Int32))), .val (.long pp), .second, .unset] [(.int 0)])) _
            refine XS.istore X32.here hx rfl (hb hby at_303) rfl (l' := #[.val (.long q0), .second, iv p1, iv p2, .val (.long q3), .second, iv p3, .val (.long 0), .second, iv rc, iv 1, iv 0, rv wm, rv b28, iv 0, .val (.long 1), .second, .val (.long 0), .second, .val (.int ((p3 &&& (2147483647 : Int32)) % (7 : Int32))), .val (.long pp), .second, iv 0]) rfl ?_
            show Steps p.tables e below (T32.setTop (mkF m 305 #[.val (.long q0), .second, iv p1, iv p2, .val (.long q3), .second, iv p3, .val (.long 0), .second, iv rc, iv 1, iv 0, rv wm, rv b28, iv 0, .val (.long 1), .second, .val (.long 0), .second, .val (.int ((p3 &&& (2147483647 : Int32)) % (7 : Int32))), .val (.long pp), .second, iv 0] [])) _
            refine XS.aload X32.here hx rfl (hb hby at_305) rfl rfl ?_
            show Steps p.tables e below (T32.setTop (mkF m 307 #[.val (.long q0), .second, iv p1, iv p2, .val (.long q3), .second, iv p3, .val (.long 0), .second, iv rc, iv 1, iv 0, rv wm, rv b28, iv 0, .val (.long 1), .second, .val (.long 0), .second, .val (.int ((p3 &&& (2147483647 : Int32)) % (7 : Int32))), .val (.long pp), .second, iv 0] [(.ref b28)])) _
            refine XS.lload X32.here hx rfl (hb hby at_307) rfl ?_
            show Steps p.tables e below (T32.setTop (mkF m 309 #[.val (.long q0), .second, iv p1, iv p2, .val (.long q3), .second, iv p3, .val (.long 0), .second, iv rc, iv 1, iv 0, rv wm, rv b28, iv 0, .val (.long 1), .second, .val (.long 0), .second, .val (.int ((p3 &&& (2147483647 : Int32)) % (7 : Int32))), .val (.long pp), .second, iv 0] [(.long pp), (.ref b28)])) _
            refine XS.iload X32.here hx rfl (hb hby at_309) rfl ?_
            show Steps p.tables e below (T32.setTop (mkF m 311 #[.val (.long q0), .second, iv p1, iv p2, .val (.long q3), .second, iv p3, .val (.long 0), .second, iv rc, iv 1, iv 0, rv wm, rv b28, iv 0, .val (.long 1), .second, .val (.long 0), .second, .val (.int ((p3 &&& (2147483647 : Int32)) % (7 : Int32))), .val (.long pp), .second, iv 0] [(.int 0), (.long pp), (.ref b28)])) _
            refine st35.trans ?_
            show Steps p.tables e below (T35.setTop (mkF m 314 #[.val (.long q0), .second, iv p1, iv p2, .val (.long q3), .second, iv p3, .val (.long 0), .second, iv rc, iv 1, iv 0, rv wm, rv b28, iv 0, .val (.long 1), .second, .val (.long 0), .second, .val (.int ((p3 &&& (2147483647 : Int32)) % (7 : Int32))), .val (.long pp), .second, iv 0] [(.int 0)])) _
            refine XS.iload X35.here hx rfl (hb hby at_314) rfl ?_
            show Steps p.tables e below (T35.setTop (mkF m 316 #[.val (.long q0), .second, iv p1, iv p2, .val (.long q3), .second, iv p3, .val (.long 0), .second, iv rc, iv 1, iv 0, rv wm, rv b28, iv 0, .val (.long 1), .second, .val (.long 0), .second, .val (.int ((p3 &&& (2147483647 : Int32)) % (7 : Int32))), .val (.long pp), .second, iv 0] [(.int 0), (.int 0)])) _
            refine XS.icmpNo X35.here hx rfl (hb hby at_316) rfl (teq (by decide)).2 ?_
            show Steps p.tables e below (T35.setTop (mkF m 319 #[.val (.long q0), .second, iv p1, iv p2, .val (.long q3), .second, iv p3, .val (.long 0), .second, iv rc, iv 1, iv 0, rv wm, rv b28, iv 0, .val (.long 1), .second, .val (.long 0), .second, .val (.int ((p3 &&& (2147483647 : Int32)) % (7 : Int32))), .val (.long pp), .second, iv 0] [])) _
            refine XS.iconst X35.here hx rfl (hb hby at_319) ?_
            show Steps p.tables e below (T35.setTop (mkF m 320 #[.val (.long q0), .second, iv p1, iv p2, .val (.long q3), .second, iv p3, .val (.long 0), .second, iv rc, iv 1, iv 0, rv wm, rv b28, iv 0, .val (.long 1), .second, .val (.long 0), .second, .val (.int ((p3 &&& (2147483647 : Int32)) % (7 : Int32))), .val (.long pp), .second, iv 0] [(.int 1)])) _
            refine XS.goto X35.here hx rfl (pc0 := 320) (pc' := 324) rfl (hb hby at_320) (by decide) (by decide) ?_
            show Steps p.tables e below (T35.setTop (mkF m 324 #[.val (.long q0), .second, iv p1, iv p2, .val (.long q3), .second, iv p3, .val (.long 0), .second, iv rc, iv 1, iv 0, rv wm, rv b28, iv 0, .val (.long 1), .second, .val (.long 0), .second, .val (.int ((p3 &&& (2147483647 : Int32)) % (7 : Int32))), .val (.long pp), .second, iv 0] [(.int 1)])) _
            exact retN X35 hx (t := .boolean) Bd.returns (by simp) (hb hby at_324) hr
          · show own_law_Q Z w_A w_B q0 p1 p2 q3 p3 h0 n0 _ T35.heap _
            rw [e35]
            exact ⟨rfl, N35⟩
        · obtain ⟨cq36, kq36, q36a, q36b, q36c⟩ := isOf hZ e32 Eq
          obtain ⟨_, _, ⟨T36, L36, k36, n36⟩, -, X36, ⟨Lc36, hQ36, l36, y36, z36⟩, st36⟩ := X32.virtualBack hx (y := (⟨"com/example/vsyncopate/vsyncopate/animation/Timeline", "isOver", "(JZ)Z"⟩ : MethodName)) (z := (⟨"com/example/vsyncopate/vsyncopate/animation/Timeline", "isOver", "(JZ)Z"⟩ : MethodName)) hown (mvT hZ (hw _ (own_m 29 rfl))) (mvT hZ (hw _ (own_m 30 rfl))) (notFace_of_selects (args := #[]) (mvT hZ (hw _ (own_m 32 rfl)))) (mvT hZ (hw _ (own_m 32 rfl))) (mvT hZ (hw _ (own_m 31 rfl))) (by decide) (backOf (W := 0) (own_ovF1 l Z a0 hw [] w_A w_B b28 pp (0 : Int64) T30.heap n0 O31 S_A S_B Fe Ftq hc33) hZ (hw _ (own_m 33 rfl)) (hw _ (own_m 7 rfl)) (by decide) (by decide)) q36a q36c (g := (mkF m 311 #[.val (.long q0), .second, iv p1, iv p2, .val (.long q3), .second, iv p3, .val (.long 0), .second, iv rc, iv 1, iv 0, rv wm, rv b28, iv 0, .val (.long 1), .second, .val (.long 0), .second, .val (.int ((p3 &&& (2147483647 : Int32)) % (7 : Int32))), .val (.long pp), .second, iv 1] [(.int 0), (.long pp), (.ref b28)])) rfl (by rw [hml]; rfl) (Steps.refl _) (argsL := [(.long pp), (.int 0)]) (rest := []) (lenOf own_pd2 rfl) rfl (by show 2 * 0 + _ ≤ _; exact Nat.le_of_eq rfl) (hb hby at_311) (fun _ _ => ⟨rfl, e32, (by decide : 1 + 0 ≤ _), (by decide : 5 + 0 ≤ _)⟩)
          dsimp only [Pt.U, Pt.locs, Pt.cells, Pt.slots] at X36 l36 y36 z36 st36 hQ36
          subst l36 y36 z36
          obtain ⟨rfl, N36q, e36⟩ := hQ36
          have N36 := Fr.app N32 N36q
          obtain ⟨fs, hr, hrun, hended, hW, hsame⟩ := X36.leave (v := some (.int 1)) (fun h => by rw [Bd.returns] at h; cases h)
          refine ⟨_, _, pre34 _ ?_, hrun, hended, _, _, rfl, ?_, ⟨_, rfl⟩, hW, hsame.mono (by decide) (by decide)⟩
          · show Steps p.tables e below (T32.setTop (mkF m 294 #[.val (.long q0), .second, iv p1, iv p2, .val (.long q3), .second, iv p3, .val (.long 0), .second, iv rc, iv 1, iv 0, rv wm, rv b28, iv 0, .val (.long 1), .second, .val (.long 0), .second, .val (.int ((p3 &&& (2147483647 : Int32)) % (7 : Int32))), .val (.long pp), .second, .unset] [(.long 0), (.long pp)])) _
            refine XS.lcmp X32.here hx rfl (hb hby at_294) rfl ?_
            show Steps p.tables e below (T32.setTop (mkF m 295 #[.val (.long q0), .second, iv p1, iv p2, .val (.long q3), .second, iv p3, .val (.long 0), .second, iv rc, iv 1, iv 0, rv wm, rv b28, iv 0, .val (.long 1), .second, .val (.long 0), .second, .val (.int ((p3 &&& (2147483647 : Int32)) % (7 : Int32))), .val (.long pp), .second, .unset] [(.int (lcmpW pp (0 : Int64)))])) _
            refine XS.ifNo X32.here hx rfl (hb hby at_295) rfl ((if0 _ _).trans (flt (fun q => hc33 ((lw_lt _ _).mp q))).1) ?_
            show Steps p.tables e below (T32.setTop (mkF m 298 #[.val (.long q0), .second, iv p1, iv p2, .val (.long q3), .second, iv p3, .val (.long 0), .second, iv rc, iv 1, iv 0, rv wm, rv b28, iv 0, .val (.long 1), .second, .val (.long 0), .second, .val (.int ((p3 &&& (2147483647 : Int32)) % (7 : Int32))), .val (.long pp), .second, .unset] [])) _
            refine XS.iconst X32.here hx rfl (hb hby at_298) ?_
            show Steps p.tables e below (T32.setTop (mkF m 299 #[.val (.long q0), .second, iv p1, iv p2, .val (.long q3), .second, iv p3, .val (.long 0), .second, iv rc, iv 1, iv 0, rv wm, rv b28, iv 0, .val (.long 1), .second, .val (.long 0), .second, .val (.int ((p3 &&& (2147483647 : Int32)) % (7 : Int32))), .val (.long pp), .second, .unset] [(.int 1)])) _
            refine XS.goto X32.here hx rfl (pc0 := 299) (pc' := 303) rfl (hb hby at_299) (by decide) (by decide) ?_
            show Steps p.tables e below (T32.setTop (mkF m 303 #[.val (.long q0), .second, iv p1, iv p2, .val (.long q3), .second, iv p3, .val (.long 0), .second, iv rc, iv 1, iv 0, rv wm, rv b28, iv 0, .val (.long 1), .second, .val (.long 0), .second, .val (.int ((p3 &&& (2147483647 : Int32)) % (7 : Int32))), .val (.long pp), .second, .unset] [(.int 1)])) _
            refine XS.istore X32.here hx rfl (hb hby at_303) rfl (l' := #[.val (.long q0), .second, iv p1, iv p2, .val (.long q3), .second, iv p3, .val (.long 0), .second, iv rc, iv 1, iv 0, rv wm, rv b28, iv 0, .val (.long 1), .second, .val (.long 0), .second, .val (.int ((p3 &&& (2147483647 : Int32)) % (7 : Int32))), .val (.long pp), .second, iv 1]) rfl ?_
            show Steps p.tables e below (T32.setTop (mkF m 305 #[.val (.long q0), .second, iv p1, iv p2, .val (.long q3), .second, iv p3, .val (.long 0), .second, iv rc, iv 1, iv 0, rv wm, rv b28, iv 0, .val (.long 1), .second, .val (.long 0), .second, .val (.int ((p3 &&& (2147483647 : Int32)) % (7 : Int32))), .val (.long pp), .second, iv 1] [])) _
            refine XS.aload X32.here hx rfl (hb hby at_305) rfl rfl ?_
            show Steps p.tables e below (T32.setTop (mkF m 307 #[.val (.long q0), .second, iv p1, iv p2, .val (.long q3), .second, iv p3, .val (.long 0), .second, iv rc, iv 1, iv 0, rv wm, rv b28, iv 0, .val (.long 1), .second, .val (.long 0), .second, .val (.int ((p3 &&& (2147483647 : Int32)) % (7 : Int32))), .val (.long pp), .second, iv 1] [(.ref b28)])) _
            refine XS.lload X32.here hx rfl (hb hby at_307) rfl ?_
            show Steps p.tables e below (T32.setTop (mkF m 309 #[.val (.long q0), .second, iv p1, iv p2, .val (.long q3), .second, iv p3, .val (.long 0), .second, iv rc, iv 1, iv 0, rv wm, rv b28, iv 0, .val (.long 1), .second, .val (.long 0), .second, .val (.int ((p3 &&& (2147483647 : Int32)) % (7 : Int32))), .val (.long pp), .second, iv 1] [(.long pp), (.ref b28)])) _
            refine XS.iload X32.here hx rfl (hb hby at_309) rfl ?_
            show Steps p.tables e below (T32.setTop (mkF m 311 #[.val (.long q0), .second, iv p1, iv p2, .val (.long q3), .second, iv p3, .val (.long 0), .second, iv rc, iv 1, iv 0, rv wm, rv b28, iv 0, .val (.long 1), .second, .val (.long 0), .second, .val (.int ((p3 &&& (2147483647 : Int32)) % (7 : Int32))), .val (.long pp), .second, iv 1] [(.int 0), (.long pp), (.ref b28)])) _
            refine st36.trans ?_
            show Steps p.tables e below (T36.setTop (mkF m 314 #[.val (.long q0), .second, iv p1, iv p2, .val (.long q3), .second, iv p3, .val (.long 0), .second, iv rc, iv 1, iv 0, rv wm, rv b28, iv 0, .val (.long 1), .second, .val (.long 0), .second, .val (.int ((p3 &&& (2147483647 : Int32)) % (7 : Int32))), .val (.long pp), .second, iv 1] [(.int 1)])) _
            refine XS.iload X36.here hx rfl (hb hby at_314) rfl ?_
            show Steps p.tables e below (T36.setTop (mkF m 316 #[.val (.long q0), .second, iv p1, iv p2, .val (.long q3), .second, iv p3, .val (.long 0), .second, iv rc, iv 1, iv 0, rv wm, rv b28, iv 0, .val (.long 1), .second, .val (.long 0), .second, .val (.int ((p3 &&& (2147483647 : Int32)) % (7 : Int32))), .val (.long pp), .second, iv 1] [(.int 1), (.int 1)])) _
            refine XS.icmpNo X36.here hx rfl (hb hby at_316) rfl (teq (by decide)).2 ?_
            show Steps p.tables e below (T36.setTop (mkF m 319 #[.val (.long q0), .second, iv p1, iv p2, .val (.long q3), .second, iv p3, .val (.long 0), .second, iv rc, iv 1, iv 0, rv wm, rv b28, iv 0, .val (.long 1), .second, .val (.long 0), .second, .val (.int ((p3 &&& (2147483647 : Int32)) % (7 : Int32))), .val (.long pp), .second, iv 1] [])) _
            refine XS.iconst X36.here hx rfl (hb hby at_319) ?_
            show Steps p.tables e below (T36.setTop (mkF m 320 #[.val (.long q0), .second, iv p1, iv p2, .val (.long q3), .second, iv p3, .val (.long 0), .second, iv rc, iv 1, iv 0, rv wm, rv b28, iv 0, .val (.long 1), .second, .val (.long 0), .second, .val (.int ((p3 &&& (2147483647 : Int32)) % (7 : Int32))), .val (.long pp), .second, iv 1] [(.int 1)])) _
            refine XS.goto X36.here hx rfl (pc0 := 320) (pc' := 324) rfl (hb hby at_320) (by decide) (by decide) ?_
            show Steps p.tables e below (T36.setTop (mkF m 324 #[.val (.long q0), .second, iv p1, iv p2, .val (.long q3), .second, iv p3, .val (.long 0), .second, iv rc, iv 1, iv 0, rv wm, rv b28, iv 0, .val (.long 1), .second, .val (.long 0), .second, .val (.int ((p3 &&& (2147483647 : Int32)) % (7 : Int32))), .val (.long pp), .second, iv 1] [(.int 1)])) _
            exact retN X36 hx (t := .boolean) Bd.returns (by simp) (hb hby at_324) hr
          · show own_law_Q Z w_A w_B q0 p1 p2 q3 p3 h0 n0 _ T36.heap _
            rw [e36]
            exact ⟨rfl, N36⟩
      · obtain ⟨wm, T37, Lj37, hj37, X37, N37, e37, st37⟩ := own_mode w_A w_B (.val (.long q0)) (.second) (iv p1) (.val (.long q3)) (.second) (iv p3) (.val (.long 0)) (.second) (iv rc) (iv 1) (iv 1) (.unset) (.unset) (.unset) (.unset) (.unset) (.unset) (.unset) (.unset) (.unset) (.unset) (.unset) (p2) X0 hx hZ hw hby hml hown e0 N0 O0 S_A S_B 
        obtain ⟨T38, h38, X38, e38, E38, A38, D38, -, st38⟩ := newO X37 hx hZ hown (hw _ (own_m 5 rfl)) (hw _ (own_m 6 rfl)) (hw _ (own_m 7 rfl)) e37 (g := (mkF m 56 #[.val (.long q0), .second, iv p1, iv p2, .val (.long q3), .second, iv p3, .val (.long 0), .second, iv rc, iv 1, iv 1, rv wm, .unset, .unset, .unset, .unset, .unset, .unset, .unset, .unset, .unset, .unset] [])) rfl (hb hby at_56) (by decide) (by decide)
        obtain ⟨b38, g38⟩ : ∃ z, z = h0.size := ⟨_, rfl⟩
        rw [← g38] at A38 D38 st38
        have gg_b38 : n0 ≤ b38 := g38 ▸ own_le O0
        have O39 := O0.ext E38
        have F_iterationNanos_b38 : Fld Z h38 b38 "com/example/vsyncopate/vsyncopate/animation/Timeline" "iterationNanos" "J" (.long 0) := D38 (Or.inr (hw _ (own_m 15 rfl))) (ty := .long) (by decide)
        have F_mode_b38 : Fld Z h38 b38 "com/example/vsyncopate/vsyncopate/animation/Timeline" "mode" "Lcom/example/vsyncopate/vsyncopate/animation/RepeatMode;" .null := D38 (Or.inr (hw _ (own_m 17 rfl))) (ty := (.object "com/example/vsyncopate/vsyncopate/animation/RepeatMode")) (by decide)
        have F_endless_b38 : Fld Z h38 b38 "com/example/vsyncopate/vsyncopate/animation/Timeline" "endless" "Z" (.int 0) := D38 (Or.inr (hw _ (own_m 19 rfl))) (ty := .boolean) (by decide)
        have F_iterations_b38 : Fld Z h38 b38 "com/example/vsyncopate/vsyncopate/animation/Timeline" "iterations" "J" (.long 0) := D38 (Or.inr (hw _ (own_m 21 rfl))) (ty := .long) (by decide)
        have F_totalNanos_b38 : Fld Z h38 b38 "com/example/vsyncopate/vsyncopate/animation/Timeline" "totalNanos" "J" (.long 0) := D38 (Or.inr (hw _ (own_m 28 rfl))) (ty := .long) (by decide)
        obtain ⟨_, _, ⟨T40, L40, k40, n40⟩, -, X40, ⟨Lc40, hQ40, l40, y40, z40⟩, st40⟩ := X38.specialBack hx (y := (⟨"com/example/vsyncopate/vsyncopate/animation/Timeline", "<init>", "(JIZLcom/example/vsyncopate/vsyncopate/animation/RepeatMode;)V"⟩ : MethodName)) rfl hown (mvT hZ (hw _ (own_m 8 rfl))) (mvT hZ (hw _ (own_m 9 rfl))) (mvT hZ (hw _ (own_m 10 rfl))) (by decide) (backOf (W := 1) (own_mk10 l Z a0 hw [] w_A w_B b38 (0 : Int64) rc wm h38 n0 O39 S_A S_B gg_b38 A38 F_iterationNanos_b38 F_mode_b38 F_endless_b38 F_iterations_b38 F_totalNanos_b38) hZ (hw _ (own_m 10 rfl)) (hw _ (own_m 7 rfl)) (by decide) (by decide)) (g := (mkF m 68 #[.val (.long q0), .second, iv p1, iv p2, .val (.long q3), .second, iv p3, .val (.long 0), .second, iv rc, iv 1, iv 1, rv wm, .unset, .unset, .unset, .unset, .unset, .unset, .unset, .unset, .unset, .unset] [(.ref wm), (.int 1), (.int rc), (.long 0), (.ref b38), (.ref b38)])) rfl (by rw [hml]; rfl) (Steps.refl _) (a := b38) (argsL := [(.long 0), (.int rc), (.int 1), (.ref wm)]) (rest := [(.ref b38)]) (lenOf own_pd1 rfl) rfl (by show 2 * 0 + _ ≤ _; exact Nat.le_of_eq rfl) (hb hby at_68) (fun _ _ => ⟨rfl, e38, (by decide : 1 + 0 ≤ _), (by decide : 5 + 0 ≤ _)⟩)
        dsimp only [Pt.U, Pt.locs, Pt.cells, Pt.slots] at X40 l40 y40 z40 st40 hQ40
        subst l40 y40 z40
        obtain ⟨rfl, N40q, K40, tq, hq, Eq, Fe, Ftq⟩ := hQ40
        have N40 := Fr.app N37 N40q
        subst hq
        have O41 := O39.keep K40 (allS gg_b38 all0)
        obtain ⟨pp, T42, Lj42, hj42, X42, N42, e42, st42⟩ := own_pp0 w_A w_B (.val (.long q0)) (.second) (iv p1) (iv p2) (.val (.long 0)) (.second) (iv rc) (iv 1) (iv 1) (rv wm) (rv b38) (iv 0) (.val (.long 1)) (.second) (q3) (p3) ((0 : Int64)) X40 hx hZ hw hby hml hown rfl N40 O41 S_A S_B 
        have pre44 : ∀ t, Steps p.tables e below (T42.setTop (mkF m 276 #[.val (.long q0), .second, iv p1, iv p2, .val (.long q3), .second, iv p3, .val (.long 0), .second, iv rc, iv 1, iv 1, rv wm, rv b38, iv 0, .val (.long 1), .second, .val (.long 0), .second, .val (.int ((p3 &&& (2147483647 : Int32)) % (7 : Int32))), .val (.long pp), .second, .unset] [(.long 0), (.long pp)])) t → Steps p.tables e below (s₁.setTop (entryFrame m #[(.long q0), (.int p1), (.int p2), (.long q3), (.int p3)] maxLocals)) t := fun t kt => by
          refine pre26 _ ?_
          show Steps p.tables e below (s₁.setTop (mkF m 28 #[.val (.long q0), .second, iv p1, iv p2, .val (.long q3), .second, iv p3, .val (.long 0), .second, iv rc, iv 1, .unset, .unset, .unset, .unset, .unset, .unset, .unset, .unset, .unset, .unset, .unset, .unset] [(.int 2), (.int p2)])) _
          refine XS.iand X0.here hx rfl (hb hby at_28) rfl ?_
          show Steps p.tables e below (s₁.setTop (mkF m 29 #[.val (.long q0), .second, iv p1, iv p2, .val (.long q3), .second, iv p3, .val (.long 0), .second, iv rc, iv 1, .unset, .unset, .unset, .unset, .unset, .unset, .unset, .unset, .unset, .unset, .unset, .unset] [(.int (p2 &&& (2 : Int32)))])) _
          refine XS.ifNo X0.here hx rfl (hb hby at_29) rfl ((if0 _ _).trans (feq hc25).1) ?_
          show Steps p.tables e below (s₁.setTop (mkF m 32 #[.val (.long q0), .second, iv p1, iv p2, .val (.long q3), .second, iv p3, .val (.long 0), .second, iv rc, iv 1, .unset, .unset, .unset, .unset, .unset, .unset, .unset, .unset, .unset, .unset, .unset, .unset] [])) _
          refine XS.iconst X0.here hx rfl (hb hby at_32) ?_
          show Steps p.tables e below (s₁.setTop (mkF m 33 #[.val (.long q0), .second, iv p1, iv p2, .val (.long q3), .second, iv p3, .val (.long 0), .second, iv rc, iv 1, .unset, .unset, .unset, .unset, .unset, .unset, .unset, .unset, .unset, .unset, .unset, .unset] [(.int 1)])) _
          refine XS.goto X0.here hx rfl (pc0 := 33) (pc' := 37) rfl (hb hby at_33) (by decide) (by decide) ?_
          show Steps p.tables e below (s₁.setTop (mkF m 37 #[.val (.long q0), .second, iv p1, iv p2, .val (.long q3), .second, iv p3, .val (.long 0), .second, iv rc, iv 1, .unset, .unset, .unset, .unset, .unset, .unset, .unset, .unset, .unset, .unset, .unset, .unset] [(.int 1)])) _
          refine XS.istore X0.here hx rfl (hb hby at_37) rfl (l' := #[.val (.long q0), .second, iv p1, iv p2, .val (.long q3), .second, iv p3, .val (.long 0), .second, iv rc, iv 1, iv 1, .unset, .unset, .unset, .unset, .unset, .unset, .unset, .unset, .unset, .unset, .unset]) rfl ?_
          show Steps p.tables e below (s₁.setTop (mkF m 39 #[.val (.long q0), .second, iv p1, iv p2, .val (.long q3), .second, iv p3, .val (.long 0), .second, iv rc, iv 1, iv 1, .unset, .unset, .unset, .unset, .unset, .unset, .unset, .unset, .unset, .unset, .unset] [])) _
          refine st37 _ ?_
          show Steps p.tables e below (T37.setTop (mkF m 54 #[.val (.long q0), .second, iv p1, iv p2, .val (.long q3), .second, iv p3, .val (.long 0), .second, iv rc, iv 1, iv 1, .unset, .unset, .unset, .unset, .unset, .unset, .unset, .unset, .unset, .unset, .unset] [(.ref wm)])) _
          refine XS.astore X37.here hx rfl (hb hby at_54) rfl rfl (l' := #[.val (.long q0), .second, iv p1, iv p2, .val (.long q3), .second, iv p3, .val (.long 0), .second, iv rc, iv 1, iv 1, rv wm, .unset, .unset, .unset, .unset, .unset, .unset, .unset, .unset, .unset, .unset]) rfl ?_
          show Steps p.tables e below (T37.setTop (mkF m 56 #[.val (.long q0), .second, iv p1, iv p2, .val (.long q3), .second, iv p3, .val (.long 0), .second, iv rc, iv 1, iv 1, rv wm, .unset, .unset, .unset, .unset, .unset, .unset, .unset, .unset, .unset, .unset] [])) _
          refine st38 _ ?_
          show Steps p.tables e below (T38.setTop (mkF m 59 #[.val (.long q0), .second, iv p1, iv p2, .val (.long q3), .second, iv p3, .val (.long 0), .second, iv rc, iv 1, iv 1, rv wm, .unset, .unset, .unset, .unset, .unset, .unset, .unset, .unset, .unset, .unset] [(.ref b38)])) _
          refine XS.dup X38.here hx rfl (hb hby at_59) rfl rfl ?_
          show Steps p.tables e below (T38.setTop (mkF m 60 #[.val (.long q0), .second, iv p1, iv p2, .val (.long q3), .second, iv p3, .val (.long 0), .second, iv rc, iv 1, iv 1, rv wm, .unset, .unset, .unset, .unset, .unset, .unset, .unset, .unset, .unset, .unset] [(.ref b38), (.ref b38)])) _
          refine XS.lload X38.here hx rfl (hb hby at_60) rfl ?_
          show Steps p.tables e below (T38.setTop (mkF m 62 #[.val (.long q0), .second, iv p1, iv p2, .val (.long q3), .second, iv p3, .val (.long 0), .second, iv rc, iv 1, iv 1, rv wm, .unset, .unset, .unset, .unset, .unset, .unset, .unset, .unset, .unset, .unset] [(.long 0), (.ref b38), (.ref b38)])) _
          refine XS.iload X38.here hx rfl (hb hby at_62) rfl ?_
          show Steps p.tables e below (T38.setTop (mkF m 64 #[.val (.long q0), .second, iv p1, iv p2, .val (.long q3), .second, iv p3, .val (.long 0), .second, iv rc, iv 1, iv 1, rv wm, .unset, .unset, .unset, .unset, .unset, .unset, .unset, .unset, .unset, .unset] [(.int rc), (.long 0), (.ref b38), (.ref b38)])) _
          refine XS.iload X38.here hx rfl (hb hby at_64) rfl ?_
          show Steps p.tables e below (T38.setTop (mkF m 66 #[.val (.long q0), .second, iv p1, iv p2, .val (.long q3), .second, iv p3, .val (.long 0), .second, iv rc, iv 1, iv 1, rv wm, .unset, .unset, .unset, .unset, .unset, .unset, .unset, .unset, .unset, .unset] [(.int 1), (.int rc), (.long 0), (.ref b38), (.ref b38)])) _
          refine XS.aload X38.here hx rfl (hb hby at_66) rfl rfl ?_
          show Steps p.tables e below (T38.setTop (mkF m 68 #[.val (.long q0), .second, iv p1, iv p2, .val (.long q3), .second, iv p3, .val (.long 0), .second, iv rc, iv 1, iv 1, rv wm, .unset, .unset, .unset, .unset, .unset, .unset, .unset, .unset, .unset, .unset] [(.ref wm), (.int 1), (.int rc), (.long 0), (.ref b38), (.ref b38)])) _
          refine st40.trans ?_
          show Steps p.tables e below (T40.setTop (mkF m 71 #[.val (.long q0), .second, iv p1, iv p2, .val (.long q3), .second, iv p3, .val (.long 0), .second, iv rc, iv 1, iv 1, rv wm, .unset, .unset, .unset, .unset, .unset, .unset, .unset, .unset, .unset, .unset] [(.ref b38)])) _
          refine XS.astore X40.here hx rfl (hb hby at_71) rfl rfl (l' := #[.val (.long q0), .second, iv p1, iv p2, .val (.long q3), .second, iv p3, .val (.long 0), .second, iv rc, iv 1, iv 1, rv wm, rv b38, .unset, .unset, .unset, .unset, .unset, .unset, .unset, .unset, .unset]) rfl ?_
          show Steps p.tables e below (T40.setTop (mkF m 73 #[.val (.long q0), .second, iv p1, iv p2, .val (.long q3), .second, iv p3, .val (.long 0), .second, iv rc, iv 1, iv 1, rv wm, rv b38, .unset, .unset, .unset, .unset, .unset, .unset, .unset, .unset, .unset] [])) _
          refine XS.iload X40.here hx rfl (hb hby at_73) rfl ?_
          show Steps p.tables e below (T40.setTop (mkF m 75 #[.val (.long q0), .second, iv p1, iv p2, .val (.long q3), .second, iv p3, .val (.long 0), .second, iv rc, iv 1, iv 1, rv wm, rv b38, .unset, .unset, .unset, .unset, .unset, .unset, .unset, .unset, .unset] [(.int 1)])) _
          refine XS.ifNo X40.here hx rfl (hb hby at_75) rfl ((if0 _ _).trans (feq (by decide)).1) ?_
          show Steps p.tables e below (T40.setTop (mkF m 78 #[.val (.long q0), .second, iv p1, iv p2, .val (.long q3), .second, iv p3, .val (.long 0), .second, iv rc, iv 1, iv 1, rv wm, rv b38, .unset, .unset, .unset, .unset, .unset, .unset, .unset, .unset, .unset] [])) _
          refine XS.lload X40.here hx rfl (hb hby at_78) rfl ?_
          show Steps p.tables e below (T40.setTop (mkF m 80 #[.val (.long q0), .second, iv p1, iv p2, .val (.long q3), .second, iv p3, .val (.long 0), .second, iv rc, iv 1, iv 1, rv wm, rv b38, .unset, .unset, .unset, .unset, .unset, .unset, .unset, .unset, .unset] [(.long 0)])) _
          refine XS.lconst X40.here hx rfl (hb hby at_80) ?_
          show Steps p.tables e below (T40.setTop (mkF m 81 #[.val (.long q0), .second, iv p1, iv p2, .val (.long q3), .second, iv p3, .val (.long 0), .second, iv rc, iv 1, iv 1, rv wm, rv b38, .unset, .unset, .unset, .unset, .unset, .unset, .unset, .unset, .unset] [(.long 0), (.long 0)])) _
          refine XS.lcmp X40.here hx rfl (hb hby at_81) rfl ?_
          show Steps p.tables e below (T40.setTop (mkF m 82 #[.val (.long q0), .second, iv p1, iv p2, .val (.long q3), .second, iv p3, .val (.long 0), .second, iv rc, iv 1, iv 1, rv wm, rv b38, .unset, .unset, .unset, .unset, .unset, .unset, .unset, .unset, .unset] [(.int (lcmpW (0 : Int64) (0 : Int64)))])) _
          refine XS.ifYes X40.here hx rfl (pc0 := 82) (pc' := 89) rfl (hb hby at_82) rfl ((if0 _ _).trans (flt (fun q => (show ¬ ((0 : Int64) < (0 : Int64)) from by decide) ((lw_gt _ _).mp q))).2.2.2) (by decide) (by decide) ?_
          show Steps p.tables e below (T40.setTop (mkF m 89 #[.val (.long q0), .second, iv p1, iv p2, .val (.long q3), .second, iv p3, .val (.long 0), .second, iv rc, iv 1, iv 1, rv wm, rv b38, .unset, .unset, .unset, .unset, .unset, .unset, .unset, .unset, .unset] [])) _
          refine XS.iconst X40.here hx rfl (hb hby at_89) ?_
          show Steps p.tables e below (T40.setTop (mkF m 90 #[.val (.long q0), .second, iv p1, iv p2, .val (.long q3), .second, iv p3, .val (.long 0), .second, iv rc, iv 1, iv 1, rv wm, rv b38, .unset, .unset, .unset, .unset, .unset, .unset, .unset, .unset, .unset] [(.int 0)])) _
          refine XS.istore X40.here hx rfl (hb hby at_90) rfl (l' := #[.val (.long q0), .second, iv p1, iv p2, .val (.long q3), .second, iv p3, .val (.long 0), .second, iv rc, iv 1, iv 1, rv wm, rv b38, iv 0, .unset, .unset, .unset, .unset, .unset, .unset, .unset, .unset]) rfl ?_
          show Steps p.tables e below (T40.setTop (mkF m 92 #[.val (.long q0), .second, iv p1, iv p2, .val (.long q3), .second, iv p3, .val (.long 0), .second, iv rc, iv 1, iv 1, rv wm, rv b38, iv 0, .unset, .unset, .unset, .unset, .unset, .unset, .unset, .unset] [])) _
          refine XS.iload X40.here hx rfl (hb hby at_92) rfl ?_
          show Steps p.tables e below (T40.setTop (mkF m 94 #[.val (.long q0), .second, iv p1, iv p2, .val (.long q3), .second, iv p3, .val (.long 0), .second, iv rc, iv 1, iv 1, rv wm, rv b38, iv 0, .unset, .unset, .unset, .unset, .unset, .unset, .unset, .unset] [(.int 1)])) _
          refine XS.ifNo X40.here hx rfl (hb hby at_94) rfl ((if0 _ _).trans (feq (by decide)).1) ?_
          show Steps p.tables e below (T40.setTop (mkF m 97 #[.val (.long q0), .second, iv p1, iv p2, .val (.long q3), .second, iv p3, .val (.long 0), .second, iv rc, iv 1, iv 1, rv wm, rv b38, iv 0, .unset, .unset, .unset, .unset, .unset, .unset, .unset, .unset] [])) _
          refine XS.lconst X40.here hx rfl (hb hby at_97) ?_
          show Steps p.tables e below (T40.setTop (mkF m 98 #[.val (.long q0), .second, iv p1, iv p2, .val (.long q3), .second, iv p3, .val (.long 0), .second, iv rc, iv 1, iv 1, rv wm, rv b38, iv 0, .unset, .unset, .unset, .unset, .unset, .unset, .unset, .unset] [(.long 1)])) _
          refine XS.goto X40.here hx rfl (pc0 := 98) (pc' := 106) rfl (hb hby at_98) (by decide) (by decide) ?_
          show Steps p.tables e below (T40.setTop (mkF m 106 #[.val (.long q0), .second, iv p1, iv p2, .val (.long q3), .second, iv p3, .val (.long 0), .second, iv rc, iv 1, iv 1, rv wm, rv b38, iv 0, .unset, .unset, .unset, .unset, .unset, .unset, .unset, .unset] [(.long 1)])) _
          refine XS.lstore X40.here hx rfl (hb hby at_106) rfl (l' := #[.val (.long q0), .second, iv p1, iv p2, .val (.long q3), .second, iv p3, .val (.long 0), .second, iv rc, iv 1, iv 1, rv wm, rv b38, iv 0, .val (.long 1), .second, .unset, .unset, .unset, .unset, .unset, .unset]) rfl ?_
          show Steps p.tables e below (T40.setTop (mkF m 108 #[.val (.long q0), .second, iv p1, iv p2, .val (.long q3), .second, iv p3, .val (.long 0), .second, iv rc, iv 1, iv 1, rv wm, rv b38, iv 0, .val (.long 1), .second, .unset, .unset, .unset, .unset, .unset, .unset] [])) _
          refine XS.lload X40.here hx rfl (hb hby at_108) rfl ?_
          show Steps p.tables e below (T40.setTop (mkF m 110 #[.val (.long q0), .second, iv p1, iv p2, .val (.long q3), .second, iv p3, .val (.long 0), .second, iv rc, iv 1, iv 1, rv wm, rv b38, iv 0, .val (.long 1), .second, .unset, .unset, .unset, .unset, .unset, .unset] [(.long 0)])) _
          refine XS.lconst X40.here hx rfl (hb hby at_110) ?_
          show Steps p.tables e below (T40.setTop (mkF m 111 #[.val (.long q0), .second, iv p1, iv p2, .val (.long q3), .second, iv p3, .val (.long 0), .second, iv rc, iv 1, iv 1, rv wm, rv b38, iv 0, .val (.long 1), .second, .unset, .unset, .unset, .unset, .unset, .unset] [(.long 0), (.long 0)])) _
          refine XS.lcmp X40.here hx rfl (hb hby at_111) rfl ?_
          show Steps p.tables e below (T40.setTop (mkF m 112 #[.val (.long q0), .second, iv p1, iv p2, .val (.long q3), .second, iv p3, .val (.long 0), .second, iv rc, iv 1, iv 1, rv wm, rv b38, iv 0, .val (.long 1), .second, .unset, .unset, .unset, .unset, .unset, .unset] [(.int (lcmpW (0 : Int64) (0 : Int64)))])) _
          refine XS.ifNo X40.here hx rfl (hb hby at_112) rfl ((if0 _ _).trans (teq ((lw_eq _ _).mpr (show ((0 : Int64) = (0 : Int64)) from by decide))).2) ?_
          show Steps p.tables e below (T40.setTop (mkF m 115 #[.val (.long q0), .second, iv p1, iv p2, .val (.long q3), .second, iv p3, .val (.long 0), .second, iv rc, iv 1, iv 1, rv wm, rv b38, iv 0, .val (.long 1), .second, .unset, .unset, .unset, .unset, .unset, .unset] [])) _
          refine XS.lconst X40.here hx rfl (hb hby at_115) ?_
          show Steps p.tables e below (T40.setTop (mkF m 116 #[.val (.long q0), .second, iv p1, iv p2, .val (.long q3), .second, iv p3, .val (.long 0), .second, iv rc, iv 1, iv 1, rv wm, rv b38, iv 0, .val (.long 1), .second, .unset, .unset, .unset, .unset, .unset, .unset] [(.long 0)])) _
          refine XS.lstore X40.here hx rfl (hb hby at_116) rfl (l' := #[.val (.long q0), .second, iv p1, iv p2, .val (.long q3), .second, iv p3, .val (.long 0), .second, iv rc, iv 1, iv 1, rv wm, rv b38, iv 0, .val (.long 1), .second, .val (.long 0), .second, .unset, .unset, .unset, .unset]) rfl ?_
          show Steps p.tables e below (T40.setTop (mkF m 118 #[.val (.long q0), .second, iv p1, iv p2, .val (.long q3), .second, iv p3, .val (.long 0), .second, iv rc, iv 1, iv 1, rv wm, rv b38, iv 0, .val (.long 1), .second, .val (.long 0), .second, .unset, .unset, .unset, .unset] [])) _
          refine XS.goto X40.here hx rfl (pc0 := 118) (pc' := 149) rfl (hb hby at_118) (by decide) (by decide) ?_
          show Steps p.tables e below (T40.setTop (mkF m 149 #[.val (.long q0), .second, iv p1, iv p2, .val (.long q3), .second, iv p3, .val (.long 0), .second, iv rc, iv 1, iv 1, rv wm, rv b38, iv 0, .val (.long 1), .second, .val (.long 0), .second, .unset, .unset, .unset, .unset] [])) _
          refine st42 _ ?_
          show Steps p.tables e below (T42.setTop (mkF m 257 #[.val (.long q0), .second, iv p1, iv p2, .val (.long q3), .second, iv p3, .val (.long 0), .second, iv rc, iv 1, iv 1, rv wm, rv b38, iv 0, .val (.long 1), .second, .val (.long 0), .second, .val (.int ((p3 &&& (2147483647 : Int32)) % (7 : Int32))), .val (.long pp), .second, .unset] [])) _
          refine XS.iload X42.here hx rfl (hb hby at_257) rfl ?_
          show Steps p.tables e below (T42.setTop (mkF m 259 #[.val (.long q0), .second, iv p1, iv p2, .val (.long q3), .second, iv p3, .val (.long 0), .second, iv rc, iv 1, iv 1, rv wm, rv b38, iv 0, .val (.long 1), .second, .val (.long 0), .second, .val (.int ((p3 &&& (2147483647 : Int32)) % (7 : Int32))), .val (.long pp), .second, .unset] [(.int 0)])) _
          refine XS.ifYes X42.here hx rfl (pc0 := 259) (pc' := 268) rfl (hb hby at_259) rfl ((if0 _ _).trans (teq (by decide)).1) (by decide) (by decide) ?_
          show Steps p.tables e below (T42.setTop (mkF m 268 #[.val (.long q0), .second, iv p1, iv p2, .val (.long q3), .second, iv p3, .val (.long 0), .second, iv rc, iv 1, iv 1, rv wm, rv b38, iv 0, .val (.long 1), .second, .val (.long 0), .second, .val (.int ((p3 &&& (2147483647 : Int32)) % (7 : Int32))), .val (.long pp), .second, .unset] [])) _
          refine XS.iload X42.here hx rfl (hb hby at_268) rfl ?_
          show Steps p.tables e below (T42.setTop (mkF m 270 #[.val (.long q0), .second, iv p1, iv p2, .val (.long q3), .second, iv p3, .val (.long 0), .second, iv rc, iv 1, iv 1, rv wm, rv b38, iv 0, .val (.long 1), .second, .val (.long 0), .second, .val (.int ((p3 &&& (2147483647 : Int32)) % (7 : Int32))), .val (.long pp), .second, .unset] [(.int 1)])) _
          refine XS.ifNo X42.here hx rfl (hb hby at_270) rfl ((if0 _ _).trans (feq (by decide)).1) ?_
          show Steps p.tables e below (T42.setTop (mkF m 273 #[.val (.long q0), .second, iv p1, iv p2, .val (.long q3), .second, iv p3, .val (.long 0), .second, iv rc, iv 1, iv 1, rv wm, rv b38, iv 0, .val (.long 1), .second, .val (.long 0), .second, .val (.int ((p3 &&& (2147483647 : Int32)) % (7 : Int32))), .val (.long pp), .second, .unset] [])) _
          refine XS.lload X42.here hx rfl (hb hby at_273) rfl ?_
          show Steps p.tables e below (T42.setTop (mkF m 275 #[.val (.long q0), .second, iv p1, iv p2, .val (.long q3), .second, iv p3, .val (.long 0), .second, iv rc, iv 1, iv 1, rv wm, rv b38, iv 0, .val (.long 1), .second, .val (.long 0), .second, .val (.int ((p3 &&& (2147483647 : Int32)) % (7 : Int32))), .val (.long pp), .second, .unset] [(.long pp)])) _
          refine XS.lconst X42.here hx rfl (hb hby at_275) ?_
          show Steps p.tables e below (T42.setTop (mkF m 276 #[.val (.long q0), .second, iv p1, iv p2, .val (.long q3), .second, iv p3, .val (.long 0), .second, iv rc, iv 1, iv 1, rv wm, rv b38, iv 0, .val (.long 1), .second, .val (.long 0), .second, .val (.int ((p3 &&& (2147483647 : Int32)) % (7 : Int32))), .val (.long pp), .second, .unset] [(.long 0), (.long pp)])) _
          exact kt
        by_cases hc43 : (0 : Int64) < pp
        · obtain ⟨cq45, kq45, q45a, q45b, q45c⟩ := isOf hZ e42 Eq
          obtain ⟨_, _, ⟨T45, L45, k45, n45⟩, -, X45, ⟨Lc45, hQ45, l45, y45, z45⟩, st45⟩ := X42.virtualBack hx (y := (⟨"com/example/vsyncopate/vsyncopate/animation/Timeline", "isOver", "(JZ)Z"⟩ : MethodName)) (z := (⟨"com/example/vsyncopate/vsyncopate/animation/Timeline", "isOver", "(JZ)Z"⟩ : MethodName)) hown (mvT hZ (hw _ (own_m 29 rfl))) (mvT hZ (hw _ (own_m 30 rfl))) (notFace_of_selects (args := #[]) (mvT hZ (hw _ (own_m 32 rfl)))) (mvT hZ (hw _ (own_m 32 rfl))) (mvT hZ (hw _ (own_m 31 rfl))) (by decide) (backOf (W := 0) (own_ovR0 l Z a0 hw [] w_A w_B b38 pp (0 : Int64) T40.heap n0 O41 S_A S_B Fe Ftq hc43) hZ (hw _ (own_m 33 rfl)) (hw _ (own_m 7 rfl)) (by decide) (by decide)) q45a q45c (g := (mkF m 311 #[.val (.long q0), .second, iv p1, iv p2, .val (.long q3), .second, iv p3, .val (.long 0), .second, iv rc, iv 1, iv 1, rv wm, rv b38, iv 0, .val (.long 1), .second, .val (.long 0), .second, .val (.int ((p3 &&& (2147483647 : Int32)) % (7 : Int32))), .val (.long pp), .second, iv 0] [(.int 1), (.long pp), (.ref b38)])) rfl (by rw [hml]; rfl) (Steps.refl _) (argsL := [(.long pp), (.int 1)]) (rest := []) (lenOf own_pd2 rfl) rfl (by show 2 * 0 + _ ≤ _; exact Nat.le_of_eq rfl) (hb hby at_311) (fun _ _ => ⟨rfl, e42, (by decide : 1 + 0 ≤ _), (by decide : 5 + 0 ≤ _)⟩)
          dsimp only [Pt.U, Pt.locs, Pt.cells, Pt.slots] at X45 l45 y45 z45 st45 hQ45
          subst l45 y45 z45
          obtain ⟨rfl, N45q, e45⟩ := hQ45
          have N45 := Fr.app N42 N45q
          obtain ⟨fs, hr, hrun, hended, hW, hsame⟩ := X45.leave (v := some (.int 1)) (fun h => by rw [Bd.returns] at h; cases h)
          refine ⟨_, _, pre44 _ ?_, hrun, hended, _, _, rfl, ?_, ⟨_, rfl⟩, hW, hsame.mono (by decide) (by decide)⟩
          · show Steps p.tables e below (T42.setTop (mkF m 276 #[.val (.long q0), .second, iv p1, iv p2, .val (.long q3), .second, iv p3, .val (.long 0), .second, iv rc, iv 1, iv 1, rv wm, rv b38, iv 0, .val (.long 1), .second, .val (.long 0), .second, .val (.int ((p3 &&& (2147483647 : Int32)) % (7 : Int32))), .val (.long pp), .second, .unset] [(.long 0), (.long pp)])) _
            refine XS.lcmp X42.here hx rfl (hb hby at_276) rfl ?_
            show Steps p.tables e below (T42.setTop (mkF m 277 #[.val (.long q0), .second, iv p1, iv p2, .val (.long q3), .second, iv p3, .val (.long 0), .second, iv rc, iv 1, iv 1, rv wm, rv b38, iv 0, .val (.long 1), .second, .val (.long 0), .second, .val (.int ((p3 &&& (2147483647 : Int32)) % (7 : Int32))), .val (.long pp), .second, .unset] [(.int (lcmpW pp (0 : Int64)))])) _
            refine XS.ifYes X42.here hx rfl (pc0 := 277) (pc' := 284) rfl (hb hby at_277) rfl ((if0 _ _).trans (tlt ((lw_gt _ _).mpr hc43)).2.2.1) (by decide) (by decide) ?_
            show Steps p.tables e below (T42.setTop (mkF m 284 #[.val (.long q0), .second, iv p1, iv p2, .val (.long q3), .second, iv p3, .val (.long 0), .second, iv rc, iv 1, iv 1, rv wm, rv b38, iv 0, .val (.long 1), .second, .val (.long 0), .second, .val (.int ((p3 &&& (2147483647 : Int32)) % (7 : Int32))), .val (.long pp), .second, .unset] [])) _
            refine XS.iconst X42.here hx rfl (hb hby at_284) ?_
            show Steps p.tables e below (T42.setTop (mkF m 285 #[.val (.long q0), .second, iv p1, iv p2, .val (.long q3), .second, iv p3, .val (.long 0), .second, iv rc, iv 1, iv 1, rv wm, rv b38, iv 0, .val (.long 1), .second, .val (.long 0), .second, .val (.int ((p3 &&& (2147483647 : Int32)) % (7 : Int32))), .val (.long pp), .second, .unset] [(.int 0)])) _
            refine XS.istore X42.here hx rfl (hb hby at_285) rfl (l' := #[.val (.long q0), .second, iv p1, iv p2, .val (.long q3), .second, iv p3, .val (.long 0), .second, iv rc, iv 1, iv 1, rv wm, rv b38, iv 0, .val (.long 1), .second, .val (.long 0), .second, .val (.int ((p3 &&& (2147483647 : Int32)) % (7 : Int32))), .val (.long pp), .second, iv 0]) rfl ?_
            show Steps p.tables e below (T42.setTop (mkF m 287 #[.val (.long q0), .second, iv p1, iv p2, .val (.long q3), .second, iv p3, .val (.long 0), .second, iv rc, iv 1, iv 1, rv wm, rv b38, iv 0, .val (.long 1), .second, .val (.long 0), .second, .val (.int ((p3 &&& (2147483647 : Int32)) % (7 : Int32))), .val (.long pp), .second, iv 0] [])) _
            refine XS.goto X42.here hx rfl (pc0 := 287) (pc' := 305) rfl (hb hby at_287) (by decide) (by decide) ?_
            show Steps p.tables e below (T42.setTop (mkF m 305 #[.val (.long q0), .second, iv p1, iv p2, .val (.long q3), .second, iv p3, .val (.long 0), .second, iv rc, iv 1, iv 1, rv wm, rv b38, iv 0, .val (.long 1), .second, .val (.long 0), .second, .val (.int ((p3 &&& (2147483647 : Int32)) % (7 : Int32))), .val (.long pp), .second, iv 0] [])) _
            refine XS.aload X42.here hx rfl (hb hby at_305) rfl rfl ?_
            show Steps p.tables e below (T42.setTop (mkF m 307 #[.val (.long q0), .second, iv p1, iv p2, .val (.long q3), .second, iv p3, .val (.long 0), .second, iv rc, iv 1, iv 1, rv wm, rv b38, iv 0, .val (.long 1), .second, .val (.long 0), .second, .val (.int ((p3 &&& (2147483647 : Int32)) % (7 : Int32))), .val (.long pp), .second, iv 0] [(.ref b38)])) _
            refine XS.lload X42.here hx rfl (hb hby at_307) rfl ?_
            show Steps p.tables e below (T42.setTop (mkF m 309 #[.val (.long q0), .second, iv p1, iv p2, .val (.long q3), .second, iv p3, .val (.long 0), .second, iv rc, iv 1, iv 1, rv wm, rv b38, iv 0, .val (.long 1), .second, .val (.long 0), .second, .val (.int ((p3 &&& (2147483647 : Int32)) % (7 : Int32))), .val (.long pp), .second, iv 0] [(.long pp), (.ref b38)])) _
            refine XS.iload X42.here hx rfl (hb hby at_309) rfl ?_
            show Steps p.tables e below (T42.setTop (mkF m 311 #[.val (.long q0), .second, iv p1, iv p2, .val (.long q3), .second, iv p3, .val (.long 0), .second, iv rc, iv 1, iv 1, rv wm, rv b38, iv 0, .val (.long 1), .second, .val (.long 0), .second, .val (.int ((p3 &&& (2147483647 : Int32)) % (7 : Int32))), .val (.long pp), .second, iv 0] [(.int 1), (.long pp), (.ref b38)])) _
            refine st45.trans ?_
            show Steps p.tables e below (T45.setTop (mkF m 314 #[.val (.long q0), .second, iv p1, iv p2, .val (.long q3), .second, iv p3, .val (.long 0), .second, iv rc, iv 1, iv 1, rv wm, rv b38, iv 0, .val (.long 1), .second, .val (.long 0), .second, .val (.int ((p3 &&& (2147483647 : Int32)) % (7 : Int32))), .val (.long pp), .second, iv 0] [(.int 0)])) _
            refine XS.iload X45.here hx rfl (hb hby at_314) rfl ?_
            show Steps p.tables e below (T45.setTop (mkF m 316 #[.val (.long q0), .second, iv p1, iv p2, .val (.long q3), .second, iv p3, .val (.long 0), .second, iv rc, iv 1, iv 1, rv wm, rv b38, iv 0, .val (.long 1), .second, .val (.long 0), .second, .val (.int ((p3 &&& (2147483647 : Int32)) % (7 : Int32))), .val (.long pp), .second, iv 0] [(.int 0), (.int 0)])) _
            refine XS.icmpNo X45.here hx rfl (hb hby at_316) rfl (teq (by decide)).2 ?_
            show Steps p.tables e below (T45.setTop (mkF m 319 #[.val (.long q0), .second, iv p1, iv p2, .val (.long q3), .second, iv p3, .val (.long 0), .second, iv rc, iv 1, iv 1, rv wm, rv b38, iv 0, .val (.long 1), .second, .val (.long 0), .second, .val (.int ((p3 &&& (2147483647 : Int32)) % (7 : Int32))), .val (.long pp), .second, iv 0] [])) _
            refine XS.iconst X45.here hx rfl (hb hby at_319) ?_
            show Steps p.tables e below (T45.setTop (mkF m 320 #[.val (.long q0), .second, iv p1, iv p2, .val (.long q3), .second, iv p3, .val (.long 0), .second, iv rc, iv 1, iv 1, rv wm, rv b38, iv 0, .val (.long 1), .second, .val (.long 0), .second, .val (.int ((p3 &&& (2147483647 : Int32)) % (7 : Int32))), .val (.long pp), .second, iv 0] [(.int 1)])) _
            refine XS.goto X45.here hx rfl (pc0 := 320) (pc' := 324) rfl (hb hby at_320) (by decide) (by decide) ?_
            show Steps p.tables e below (T45.setTop (mkF m 324 #[.val (.long q0), .second, iv p1, iv p2, .val (.long q3), .second, iv p3, .val (.long 0), .second, iv rc, iv 1, iv 1, rv wm, rv b38, iv 0, .val (.long 1), .second, .val (.long 0), .second, .val (.int ((p3 &&& (2147483647 : Int32)) % (7 : Int32))), .val (.long pp), .second, iv 0] [(.int 1)])) _
            exact retN X45 hx (t := .boolean) Bd.returns (by simp) (hb hby at_324) hr
          · show own_law_Q Z w_A w_B q0 p1 p2 q3 p3 h0 n0 _ T45.heap _
            rw [e45]
            exact ⟨rfl, N45⟩
        · obtain ⟨cq46, kq46, q46a, q46b, q46c⟩ := isOf hZ e42 Eq
          obtain ⟨_, _, ⟨T46, L46, k46, n46⟩, -, X46, ⟨Lc46, hQ46, l46, y46, z46⟩, st46⟩ := X42.virtualBack hx (y := (⟨"com/example/vsyncopate/vsyncopate/animation/Timeline", "isOver", "(JZ)Z"⟩ : MethodName)) (z := (⟨"com/example/vsyncopate/vsyncopate/animation/Timeline", "isOver", "(JZ)Z"⟩ : MethodName)) hown (mvT hZ (hw _ (own_m 29 rfl))) (mvT hZ (hw _ (own_m 30 rfl))) (notFace_of_selects (args := #[]) (mvT hZ (hw _ (own_m 32 rfl)))) (mvT hZ (hw _ (own_m 32 rfl))) (mvT hZ (hw _ (own_m 31 rfl))) (by decide) (backOf (W := 0) (own_ovR1 l Z a0 hw [] w_A w_B b38 pp (0 : Int64) T40.heap n0 O41 S_A S_B Fe Ftq hc43) hZ (hw _ (own_m 33 rfl)) (hw _ (own_m 7 rfl)) (by decide) (by decide)) q46a q46c (g := (mkF m 311 #[.val (.long q0), .second, iv p1, iv p2, .val (.long q3), .second, iv p3, .val (.long 0), .second, iv rc, iv 1, iv 1, rv wm, rv b38, iv 0, .val (.long 1), .second, .val (.long 0), .second, .val (.int ((p3 &&& (2147483647 : Int32)) % (7 : Int32))), .val (.long pp), .second, iv 1] [(.int 1), (.long pp), (.ref b38)])) rfl (by rw [hml]; rfl) (Steps.refl _) (argsL := [(.long pp), (.int 1)]) (rest := []) (lenOf own_pd2 rfl) rfl (by show 2 * 0 + _ ≤ _; exact Nat.le_of_eq rfl) (hb hby at_311) (fun _ _ => ⟨rfl, e42, (by decide : 1 + 0 ≤ _), (by decide : 5 + 0 ≤ _)⟩)
          dsimp only [Pt.U, Pt.locs, Pt.cells, Pt.slots] at X46 l46 y46 z46 st46 hQ46
          subst l46 y46 z46
          obtain ⟨rfl, N46q, e46⟩ := hQ46
          have N46 := Fr.app N42 N46q
          obtain ⟨fs, hr, hrun, hended, hW, hsame⟩ := X46.leave (v := some (.int 1)) (fun h => by rw [Bd.returns] at h; cases h)
          refine ⟨_, _, pre44 _ ?_, hrun, hended, _, _, rfl, ?_, ⟨_, rfl⟩, hW, hsame.mono (by decide) (by decide)⟩
          · show Steps p.tables e below (T42.setTop (mkF m 276 #[.val (.long q0), .second, iv p1, iv p2, .val (.long q3), .second, iv p3, .val (.long 0), .second, iv rc, iv 1, iv 1, rv wm, rv b38, iv 0, .val (.long 1), .second, .val (.long 0), .second, .val (.int ((p3 &&& (2147483647 : Int32)) % (7 : Int32))), .val (.long pp), .second, .unset] [(.long 0), (.long pp)])) _
            refine XS.lcmp X42.here hx rfl (hb hby at_276) rfl ?_
            show Steps p.tables e below (T42.setTop (mkF m 277 #[.val (.long q0), .second, iv p1, iv p2, .val (.long q3), .second, iv p3, .val (.long 0), .second, iv rc, iv 1, iv 1, rv wm, rv b38, iv 0, .val (.long 1), .second, .val (.long 0), .second, .val (.int ((p3 &&& (2147483647 : Int32)) % (7 : Int32))), .val (.long pp), .second, .unset] [(.int (lcmpW pp (0 : Int64)))])) _
            refine XS.ifNo X42.here hx rfl (hb hby at_277) rfl ((if0 _ _).trans (flt (fun q => hc43 ((lw_gt _ _).mp q))).2.2.1) ?_
            show Steps p.tables e below (T42.setTop (mkF m 280 #[.val (.long q0), .second, iv p1, iv p2, .val (.long q3), .second, iv p3, .val (.long 0), .second, iv rc, iv 1, iv 1, rv wm, rv b38, iv 0, .val (.long 1), .second, .val (.long 0), .second, .val (.int ((p3 &&& (2147483647 : Int32)) % (7 : Int32))), .val (.long pp), .second, .unset] [])) _
            refine XS.iconst X42.here hx rfl (hb hby at_280) ?_
            show Steps p.tables e below (T42.setTop (mkF m 281 #[.val (.long q0), .second, iv p1, iv p2, .val (.long q3), .second, iv p3, .val (.long 0), .second, iv rc, iv 1, iv 1, rv wm, rv b38, iv 0, .val (.long 1), .second, .val (.long 0), .second, .val (.int ((p3 &&& (2147483647 : Int32)) % (7 : Int32))), .val (.long pp), .second, .unset] [(.int 1)])) _
            refine XS.goto X42.here hx rfl (pc0 := 281) (pc' := 285) rfl (hb hby at_281) (by decide) (by decide) ?_
            show Steps p.tables e below (T42.setTop (mkF m 285 #[.val (.long q0), .second, iv p1, iv p2, .val (.long q3), .second, iv p3, .val (.long 0), .second, iv rc, iv 1, iv 1, rv wm, rv b38, iv 0, .val (.long 1), .second, .val (.long 0), .second, .val (.int ((p3 &&& (2147483647 : Int32)) % (7 : Int32))), .val (.long pp), .second, .unset] [(.int 1)])) _
            refine XS.istore X42.here hx rfl (hb hby at_285) rfl (l' := #[.val (.long q0), .second, iv p1, iv p2, .val (.long q3), .second, iv p3, .val (.long 0), .second, iv rc, iv 1, iv 1, rv wm, rv b38, iv 0, .val (.long 1), .second, .val (.long 0), .second, .val (.int ((p3 &&& (2147483647 : Int32)) % (7 : Int32))), .val (.long pp), .second, iv 1]) rfl ?_
            show Steps p.tables e below (T42.setTop (mkF m 287 #[.val (.long q0), .second, iv p1, iv p2, .val (.long q3), .second, iv p3, .val (.long 0), .second, iv rc, iv 1, iv 1, rv wm, rv b38, iv 0, .val (.long 1), .second, .val (.long 0), .second, .val (.int ((p3 &&& (2147483647 : Int32)) % (7 : Int32))), .val (.long pp), .second, iv 1] [])) _
            refine XS.goto X42.here hx rfl (pc0 := 287) (pc' := 305) rfl (hb hby at_287) (by decide) (by decide) ?_
            show Steps p.tables e below (T42.setTop (mkF m 305 #[.val (.long q0), .second, iv p1, iv p2, .val (.long q3), .second, iv p3, .val (.long 0), .second, iv rc, iv 1, iv 1, rv wm, rv b38, iv 0, .val (.long 1), .second, .val (.long 0), .second, .val (.int ((p3 &&& (2147483647 : Int32)) % (7 : Int32))), .val (.long pp), .second, iv 1] [])) _
            refine XS.aload X42.here hx rfl (hb hby at_305) rfl rfl ?_
            show Steps p.tables e below (T42.setTop (mkF m 307 #[.val (.long q0), .second, iv p1, iv p2, .val (.long q3), .second, iv p3, .val (.long 0), .second, iv rc, iv 1, iv 1, rv wm, rv b38, iv 0, .val (.long 1), .second, .val (.long 0), .second, .val (.int ((p3 &&& (2147483647 : Int32)) % (7 : Int32))), .val (.long pp), .second, iv 1] [(.ref b38)])) _
            refine XS.lload X42.here hx rfl (hb hby at_307) rfl ?_
            show Steps p.tables e below (T42.setTop (mkF m 309 #[.val (.long q0), .second, iv p1, iv p2, .val (.long q3), .second, iv p3, .val (.long 0), .second, iv rc, iv 1, iv 1, rv wm, rv b38, iv 0, .val (.long 1), .second, .val (.long 0), .second, .val (.int ((p3 &&& (2147483647 : Int32)) % (7 : Int32))), .val (.long pp), .second, iv 1] [(.long pp), (.ref b38)])) _
            refine XS.iload X42.here hx rfl (hb hby at_309) rfl ?_
            show Steps p.tables e below (T42.setTop (mkF m 311 #[.val (.long q0), .second, iv p1, iv p2, .val (.long q3), .second, iv p3, .val (.long 0), .second, iv rc, iv 1, iv 1, rv wm, rv b38, iv 0, .val (.long 1), .second, .val (.long 0), .second, .val (.int ((p3 &&& (2147483647 : Int32)) % (7 : Int32))), .val (.long pp), .second, iv 1] [(.int 1), (.long pp), (.ref b38)])) _
            refine st46.trans ?_
            show Steps p.tables e below (T46.setTop (mkF m 314 #[.val (.long q0), .second, iv p1, iv p2, .val (.long q3), .second, iv p3, .val (.long 0), .second, iv rc, iv 1, iv 1, rv wm, rv b38, iv 0, .val (.long 1), .second, .val (.long 0), .second, .val (.int ((p3 &&& (2147483647 : Int32)) % (7 : Int32))), .val (.long pp), .second, iv 1] [(.int 1)])) _
            refine XS.iload X46.here hx rfl (hb hby at_314) rfl ?_
            show Steps p.tables e below (T46.setTop (mkF m 316 #[.val (.long q0), .second, iv p1, iv p2, .val (.long q3), .second, iv p3, .val (.long 0), .second, iv rc, iv 1, iv 1, rv wm, rv b38, iv 0, .val (.long 1), .second, .val (.long 0), .second, .val (.int ((p3 &&& (2147483647 : Int32)) % (7 : Int32))), .val (.long pp), .second, iv 1] [(.int 1), (.int 1)])) _
            refine XS.icmpNo X46.here hx rfl (hb hby at_316) rfl (teq (by decide)).2 ?_
            show Steps p.tables e below (T46.setTop (mkF m 319 #[.val (.long q0), .second, iv p1, iv p2, .val (.long q3), .second, iv p3, .val (.long 0), .second, iv rc, iv 1, iv 1, rv wm, rv b38, iv 0, .val (.long 1), .second, .val (.long 0), .second, .val (.int ((p3 &&& (2147483647 : Int32)) % (7 : Int32))), .val (.long pp), .second, iv 1] [])) _
            refine XS.iconst X46.here hx rfl (hb hby at_319) ?_
            show Steps p.tables e below (T46.setTop (mkF m 320 #[.val (.long q0), .second, iv p1, iv p2, .val (.long q3), .second, iv p3, .val (.long 0), .second, iv rc, iv 1, iv 1, rv wm, rv b38, iv 0, .val (.long 1), .second, .val (.long 0), .second, .val (.int ((p3 &&& (2147483647 : Int32)) % (7 : Int32))), .val (.long pp), .second, iv 1] [(.int 1)])) _
            refine XS.goto X46.here hx rfl (pc0 := 320) (pc' := 324) rfl (hb hby at_320) (by decide) (by decide) ?_
            show Steps p.tables e below (T46.setTop (mkF m 324 #[.val (.long q0), .second, iv p1, iv p2, .val (.long q3), .second, iv p3, .val (.long 0), .second, iv rc, iv 1, iv 1, rv wm, rv b38, iv 0, .val (.long 1), .second, .val (.long 0), .second, .val (.int ((p3 &&& (2147483647 : Int32)) % (7 : Int32))), .val (.long pp), .second, iv 1] [(.int 1)])) _
            exact retN X46 hx (t := .boolean) Bd.returns (by simp) (hb hby at_324) hr
          · show own_law_Q Z w_A w_B q0 p1 p2 q3 p3 h0 n0 _ T46.heap _
            rw [e46]
            exact ⟨rfl, N46⟩
  · obtain ⟨it, hv⟩ : ∃ z, z = (q0 &&& (9223372036854775807 : Int64)) := ⟨_, rfl⟩
    have hp1 : ¬ it < (1 : Int64) := by rw [hv]; exact own_pos hit
    obtain ⟨rc, hrc⟩ : ∃ z, z = (p1 &&& (2147483647 : Int32)) := ⟨_, rfl⟩
    have hn : 0 ≤ rc.toInt := by rw [hrc]; exact own_rc p1
    have pre48 : ∀ t, Steps p.tables e below (s₁.setTop (mkF m 15 #[.val (.long q0), .second, iv p1, iv p2, .val (.long q3), .second, iv p3, .val (.long it), .second, iv rc, .unset, .unset, .unset, .unset, .unset, .unset, .unset, .unset, .unset, .unset, .unset, .unset, .unset] [(.int 1), (.int p2)])) t → Steps p.tables e below (s₁.setTop (entryFrame m #[(.long q0), (.int p1), (.int p2), (.long q3), (.int p3)] maxLocals)) t := fun t kt => by
      refine pre0 _ ?_
      show Steps p.tables e below (s₁.setTop (mkF m 0 #[.val (.long q0), .second, iv p1, iv p2, .val (.long q3), .second, iv p3, .unset, .unset, .unset, .unset, .unset, .unset, .unset, .unset, .unset, .unset, .unset, .unset, .unset, .unset, .unset, .unset] [])) _
      refine XS.lloadN X0.here hx rfl (hb hby at_0) rfl ?_
      show Steps p.tables e below (s₁.setTop (mkF m 1 #[.val (.long q0), .second, iv p1, iv p2, .val (.long q3), .second, iv p3, .unset, .unset, .unset, .unset, .unset, .unset, .unset, .unset, .unset, .unset, .unset, .unset, .unset, .unset, .unset, .unset] [(.long q0)])) _
      refine X0.ldc2Long hx hown (mvT hZ (hw _ (own_m 0 rfl))) (g := (mkF m 1 #[.val (.long q0), .second, iv p1, iv p2, .val (.long q3), .second, iv p3, .unset, .unset, .unset, .unset, .unset, .unset, .unset, .unset, .unset, .unset, .unset, .unset, .unset, .unset, .unset, .unset] [(.long q0)])) rfl (hb hby at_1) _ ?_
      show Steps p.tables e below (s₁.setTop (mkF m 4 #[.val (.long q0), .second, iv p1, iv p2, .val (.long q3), .second, iv p3, .unset, .unset, .unset, .unset, .unset, .unset, .unset, .unset, .unset, .unset, .unset, .unset, .unset, .unset, .unset, .unset] [(.long 9223372036854775807), (.long q0)])) _
      refine XS.land X0.here hx rfl (hb hby at_4) rfl ?_
      show Steps p.tables e below (s₁.setTop (mkF m 5 #[.val (.long q0), .second, iv p1, iv p2, .val (.long q3), .second, iv p3, .unset, .unset, .unset, .unset, .unset, .unset, .unset, .unset, .unset, .unset, .unset, .unset, .unset, .unset, .unset, .unset] [(.long (q0 &&& (9223372036854775807 : Int64)))])) _
      refine own_top (v' := (.long it)) (congrArg Value.long hv.symm) ?_
      show Steps p.tables e below (s₁.setTop (mkF m 5 #[.val (.long q0), .second, iv p1, iv p2, .val (.long q3), .second, iv p3, .unset, .unset, .unset, .unset, .unset, .unset, .unset, .unset, .unset, .unset, .unset, .unset, .unset, .unset, .unset, .unset] [(.long it)])) _
      refine XS.lstore X0.here hx rfl (hb hby at_5) rfl (l' := #[.val (.long q0), .second, iv p1, iv p2, .val (.long q3), .second, iv p3, .val (.long it), .second, .unset, .unset, .unset, .unset, .unset, .unset, .unset, .unset, .unset, .unset, .unset, .unset, .unset, .unset]) rfl ?_
      show Steps p.tables e below (s₁.setTop (mkF m 7 #[.val (.long q0), .second, iv p1, iv p2, .val (.long q3), .second, iv p3, .val (.long it), .second, .unset, .unset, .unset, .unset, .unset, .unset, .unset, .unset, .unset, .unset, .unset, .unset, .unset, .unset] [])) _
      refine XS.iloadN X0.here hx rfl (hb hby at_7) rfl ?_
      show Steps p.tables e below (s₁.setTop (mkF m 8 #[.val (.long q0), .second, iv p1, iv p2, .val (.long q3), .second, iv p3, .val (.long it), .second, .unset, .unset, .unset, .unset, .unset, .unset, .unset, .unset, .unset, .unset, .unset, .unset, .unset, .unset] [(.int p1)])) _
      refine X0.ldcInt hx hown (mvT hZ (hw _ (own_m 1 rfl))) (g := (mkF m 8 #[.val (.long q0), .second, iv p1, iv p2, .val (.long q3), .second, iv p3, .val (.long it), .second, .unset, .unset, .unset, .unset, .unset, .unset, .unset, .unset, .unset, .unset, .unset, .unset, .unset, .unset] [(.int p1)])) rfl (hb hby at_8) _ ?_
      show Steps p.tables e below (s₁.setTop (mkF m 10 #[.val (.long q0), .second, iv p1, iv p2, .val (.long q3), .second, iv p3, .val (.long it), .second, .unset, .unset, .unset, .unset, .unset, .unset, .unset, .unset, .unset, .unset, .unset, .unset, .unset, .unset] [(.int 2147483647), (.int p1)])) _
      refine XS.iand X0.here hx rfl (hb hby at_10) rfl ?_
      show Steps p.tables e below (s₁.setTop (mkF m 11 #[.val (.long q0), .second, iv p1, iv p2, .val (.long q3), .second, iv p3, .val (.long it), .second, .unset, .unset, .unset, .unset, .unset, .unset, .unset, .unset, .unset, .unset, .unset, .unset, .unset, .unset] [(.int (p1 &&& (2147483647 : Int32)))])) _
      refine own_top (v' := (.int rc)) (congrArg Value.int hrc.symm) ?_
      show Steps p.tables e below (s₁.setTop (mkF m 11 #[.val (.long q0), .second, iv p1, iv p2, .val (.long q3), .second, iv p3, .val (.long it), .second, .unset, .unset, .unset, .unset, .unset, .unset, .unset, .unset, .unset, .unset, .unset, .unset, .unset, .unset] [(.int rc)])) _
      refine XS.istore X0.here hx rfl (hb hby at_11) rfl (l' := #[.val (.long q0), .second, iv p1, iv p2, .val (.long q3), .second, iv p3, .val (.long it), .second, iv rc, .unset, .unset, .unset, .unset, .unset, .unset, .unset, .unset, .unset, .unset, .unset, .unset, .unset]) rfl ?_
      show Steps p.tables e below (s₁.setTop (mkF m 13 #[.val (.long q0), .second, iv p1, iv p2, .val (.long q3), .second, iv p3, .val (.long it), .second, iv rc, .unset, .unset, .unset, .unset, .unset, .unset, .unset, .unset, .unset, .unset, .unset, .unset, .unset] [])) _
      refine XS.iloadN X0.here hx rfl (hb hby at_13) rfl ?_
      show Steps p.tables e below (s₁.setTop (mkF m 14 #[.val (.long q0), .second, iv p1, iv p2, .val (.long q3), .second, iv p3, .val (.long it), .second, iv rc, .unset, .unset, .unset, .unset, .unset, .unset, .unset, .unset, .unset, .unset, .unset, .unset, .unset] [(.int p2)])) _
      refine XS.iconst X0.here hx rfl (hb hby at_14) ?_
      show Steps p.tables e below (s₁.setTop (mkF m 15 #[.val (.long q0), .second, iv p1, iv p2, .val (.long q3), .second, iv p3, .val (.long it), .second, iv rc, .unset, .unset, .unset, .unset, .unset, .unset, .unset, .unset, .unset, .unset, .unset, .unset, .unset] [(.int 1), (.int p2)])) _
      exact kt
    by_cases hc47 : (p2 &&& (1 : Int32)) = (0 : Int32)
    · have pre50 : ∀ t, Steps p.tables e below (s₁.setTop (mkF m 28 #[.val (.long q0), .second, iv p1, iv p2, .val (.long q3), .second, iv p3, .val (.long it), .second, iv rc, iv 0, .unset, .unset, .unset, .unset, .unset, .unset, .unset, .unset, .unset, .unset, .unset, .unset] [(.int 2), (.int p2)])) t → Steps p.tables e below (s₁.setTop (entryFrame m #[(.long q0), (.int p1), (.int p2), (.long q3), (.int p3)] maxLocals)) t := fun t kt => by
        refine pre48 _ ?_
        show Steps p.tables e below (s₁.setTop (mkF m 15 #[.val (.long q0), .second, iv p1, iv p2, .val (.long q3), .second, iv p3, .val (.long it), .second, iv rc, .unset, .unset, .unset, .unset, .unset, .unset, .unset, .unset, .unset, .unset, .unset, .unset, .unset] [(.int 1), (.int p2)])) _
        refine XS.iand X0.here hx rfl (hb hby at_15) rfl ?_
        show Steps p.tables e below (s₁.setTop (mkF m 16 #[.val (.long q0), .second, iv p1, iv p2, .val (.long q3), .second, iv p3, .val (.long it), .second, iv rc, .unset, .unset, .unset, .unset, .unset, .unset, .unset, .unset, .unset, .unset, .unset, .unset, .unset] [(.int (p2 &&& (1 : Int32)))])) _
        refine XS.ifYes X0.here hx rfl (pc0 := 16) (pc' := 23) rfl (hb hby at_16) rfl ((if0 _ _).trans (teq hc47).1) (by decide) (by decide) ?_
        show Steps p.tables e below (s₁.setTop (mkF m 23 #[.val (.long q0), .second, iv p1, iv p2, .val (.long q3), .second, iv p3, .val (.long it), .second, iv rc, .unset, .unset, .unset, .unset, .unset, .unset, .unset, .unset, .unset, .unset, .unset, .unset, .unset] [])) _
        refine XS.iconst X0.here hx rfl (hb hby at_23) ?_
        show Steps p.tables e below (s₁.setTop (mkF m 24 #[.val (.long q0), .second, iv p1, iv p2, .val (.long q3), .second, iv p3, .val (.long it), .second, iv rc, .unset, .unset, .unset, .unset, .unset, .unset, .unset, .unset, .unset, .unset, .unset, .unset, .unset] [(.int 0)])) _
        refine XS.istore X0.here hx rfl (hb hby at_24) rfl (l' := #[.val (.long q0), .second, iv p1, iv p2, .val (.long q3), .second, iv p3, .val (.long it), .second, iv rc, iv 0, .unset, .unset, .unset, .unset, .unset, .unset, .unset, .unset, .unset, .unset, .unset, .unset]) rfl ?_
        show Steps p.tables e below (s₁.setTop (mkF m 26 #[.val (.long q0), .second, iv p1, iv p2, .val (.long q3), .second, iv p3, .val (.long it), .second, iv rc, iv 0, .unset, .unset, .unset, .unset, .unset, .unset, .unset, .unset, .unset, .unset, .unset, .unset] [])) _
        refine XS.iloadN X0.here hx rfl (hb hby at_26) rfl ?_
        show Steps p.tables e below (s₁.setTop (mkF m 27 #[.val (.long q0), .second, iv p1, iv p2, .val (.long q3), .second, iv p3, .val (.long it), .second, iv rc, iv 0, .unset, .unset, .unset, .unset, .unset, .unset, .unset, .unset, .unset, .unset, .unset, .unset] [(.int p2)])) _
        refine XS.iconst X0.here hx rfl (hb hby at_27) ?_
        show Steps p.tables e below (s₁.setTop (mkF m 28 #[.val (.long q0), .second, iv p1, iv p2, .val (.long q3), .second, iv p3, .val (.long it), .second, iv rc, iv 0, .unset, .unset, .unset, .unset, .unset, .unset, .unset, .unset, .unset, .unset, .unset, .unset] [(.int 2), (.int p2)])) _
        exact kt
      by_cases hc49 : (p2 &&& (2 : Int32)) = (0 : Int32)
      · obtain ⟨wm, T51, Lj51, hj51, X51, N51, e51, st51⟩ := own_mode w_A w_B (.val (.long q0)) (.second) (iv p1) (.val (.long q3)) (.second) (iv p3) (.val (.long it)) (.second) (iv rc) (iv 0) (iv 0) (.unset) (.unset) (.unset) (.unset) (.unset) (.unset) (.unset) (.unset) (.unset) (.unset) (.unset) (p2) X0 hx hZ hw hby hml hown e0 N0 O0 S_A S_B 
        obtain ⟨T52, h52, X52, e52, E52, A52, D52, -, st52⟩ := newO X51 hx hZ hown (hw _ (own_m 5 rfl)) (hw _ (own_m 6 rfl)) (hw _ (own_m 7 rfl)) e51 (g := (mkF m 56 #[.val (.long q0), .second, iv p1, iv p2, .val (.long q3), .second, iv p3, .val (.long it), .second, iv rc, iv 0, iv 0, rv wm, .unset, .unset, .unset, .unset, .unset, .unset, .unset, .unset, .unset, .unset] [])) rfl (hb hby at_56) (by decide) (by decide)
        obtain ⟨b52, g52⟩ : ∃ z, z = h0.size := ⟨_, rfl⟩
        rw [← g52] at A52 D52 st52
        have gg_b52 : n0 ≤ b52 := g52 ▸ own_le O0
        have O53 := O0.ext E52
        have F_iterationNanos_b52 : Fld Z h52 b52 "com/example/vsyncopate/vsyncopate/animation/Timeline" "iterationNanos" "J" (.long 0) := D52 (Or.inr (hw _ (own_m 15 rfl))) (ty := .long) (by decide)
        have F_mode_b52 : Fld Z h52 b52 "com/example/vsyncopate/vsyncopate/animation/Timeline" "mode" "Lcom/example/vsyncopate/vsyncopate/animation/RepeatMode;" .null := D52 (Or.inr (hw _ (own_m 17 rfl))) (ty := (.object "com/example/vsyncopate/vsyncopate/animation/RepeatMode")) (by decide)
        have F_endless_b52 : Fld Z h52 b52 "com/example/vsyncopate/vsyncopate/animation/Timeline" "endless" "Z" (.int 0) := D52 (Or.inr (hw _ (own_m 19 rfl))) (ty := .boolean) (by decide)
        have F_iterations_b52 : Fld Z h52 b52 "com/example/vsyncopate/vsyncopate/animation/Timeline" "iterations" "J" (.long 0) := D52 (Or.inr (hw _ (own_m 21 rfl))) (ty := .long) (by decide)
        have F_totalNanos_b52 : Fld Z h52 b52 "com/example/vsyncopate/vsyncopate/animation/Timeline" "totalNanos" "J" (.long 0) := D52 (Or.inr (hw _ (own_m 28 rfl))) (ty := .long) (by decide)
        obtain ⟨_, _, ⟨T54, L54, k54, n54⟩, -, X54, ⟨Lc54, hQ54, l54, y54, z54⟩, st54⟩ := X52.specialBack hx (y := (⟨"com/example/vsyncopate/vsyncopate/animation/Timeline", "<init>", "(JIZLcom/example/vsyncopate/vsyncopate/animation/RepeatMode;)V"⟩ : MethodName)) rfl hown (mvT hZ (hw _ (own_m 8 rfl))) (mvT hZ (hw _ (own_m 9 rfl))) (mvT hZ (hw _ (own_m 10 rfl))) (by decide) (backOf (W := 1) (own_mk01 l Z a0 hw [] w_A w_B b52 it rc wm h52 n0 O53 S_A S_B gg_b52 A52 F_iterationNanos_b52 F_mode_b52 F_endless_b52 F_iterations_b52 F_totalNanos_b52 hp1) hZ (hw _ (own_m 10 rfl)) (hw _ (own_m 7 rfl)) (by decide) (by decide)) (g := (mkF m 68 #[.val (.long q0), .second, iv p1, iv p2, .val (.long q3), .second, iv p3, .val (.long it), .second, iv rc, iv 0, iv 0, rv wm, .unset, .unset, .unset, .unset, .unset, .unset, .unset, .unset, .unset, .unset] [(.ref wm), (.int 0), (.int rc), (.long it), (.ref b52), (.ref b52)])) rfl (by rw [hml]; rfl) (Steps.refl _) (a := b52) (argsL := [(.long it), (.int rc), (.int 0), (.ref wm)]) (rest := [(.ref b52)]) (lenOf own_pd1 rfl) rfl (by show 2 * 0 + _ ≤ _; exact Nat.le_of_eq rfl) (hb hby at_68) (fun _ _ => ⟨rfl, e52, (by decide : 1 + 0 ≤ _), (by decide : 5 + 0 ≤ _)⟩)
        dsimp only [Pt.U, Pt.locs, Pt.cells, Pt.slots] at X54 l54 y54 z54 st54 hQ54
        subst l54 y54 z54
        obtain ⟨rfl, N54q, K54, tq, hq, Eq, Fe, Ftq⟩ := hQ54
        have N54 := Fr.app N51 N54q
        have O55 := O53.keep K54 (allS gg_b52 all0)
        obtain ⟨tt, T56, Lj56, hj56, X56, N56, e56, st56⟩ : ∃ (tt : Int64) (T56 : State) (Lj56 : List Loc), (tt = own_tot ((rc.toInt64) + (1 : Int64)) it) ∧ Stand p l e room_1 s m #[(.long q0), (.int p1), (.int p2), (.long q3), (.int p3)] below meth c T56 Lj56 1 5 ∧ Fr n0 Lj56 ∧ T56.heap = T54.heap ∧ ∀ target, Steps p.tables e below (T56.setTop (mkF m 149 #[.val (.long q0), .second, iv p1, iv p2, .val (.long q3), .second, iv p3, .val (.long it), .second, iv rc, iv 0, iv 0, rv wm, rv b52, iv 0, .val (.long ((rc.toInt64) + (1 : Int64))), .second, .val (.long tt), .second, .val (.long (((rc.toInt64) + (1 : Int64)) * it)), .second, .unset, .unset] [])) target → Steps p.tables e below (T54.setTop (mkF m 121 #[.val (.long q0), .second, iv p1, iv p2, .val (.long q3), .second, iv p3, .val (.long it), .second, iv rc, iv 0, iv 0, rv wm, rv b52, iv 0, .val (.long ((rc.toInt64) + (1 : Int64))), .second, .unset, .unset, .unset, .unset, .unset, .unset] [])) target := by
          by_cases hc57 : ((((rc.toInt64) + (1 : Int64)) * it) / it) = ((rc.toInt64) + (1 : Int64))
          · refine ⟨(((rc.toInt64) + (1 : Int64)) * it), T54, _, own_t1 hp1 (own_nn hn) hc57, X54, N54, rfl, fun target kt => ?_⟩
            show Steps p.tables e below (T54.setTop (mkF m 121 #[.val (.long q0), .second, iv p1, iv p2, .val (.long q3), .second, iv p3, .val (.long it), .second, iv rc, iv 0, iv 0, rv wm, rv b52, iv 0, .val (.long ((rc.toInt64) + (1 : Int64))), .second, .unset, .unset, .unset, .unset, .unset, .unset] [])) _
            refine XS.lload X54.here hx rfl (hb hby at_121) rfl ?_
            show Steps p.tables e below (T54.setTop (mkF m 123 #[.val (.long q0), .second, iv p1, iv p2, .val (.long q3), .second, iv p3, .val (.long it), .second, iv rc, iv 0, iv 0, rv wm, rv b52, iv 0, .val (.long ((rc.toInt64) + (1 : Int64))), .second, .unset, .unset, .unset, .unset, .unset, .unset] [(.long ((rc.toInt64) + (1 : Int64)))])) _
            refine XS.lload X54.here hx rfl (hb hby at_123) rfl ?_
            show Steps p.tables e below (T54.setTop (mkF m 125 #[.val (.long q0), .second, iv p1, iv p2, .val (.long q3), .second, iv p3, .val (.long it), .second, iv rc, iv 0, iv 0, rv wm, rv b52, iv 0, .val (.long ((rc.toInt64) + (1 : Int64))), .second, .unset, .unset, .unset, .unset, .unset, .unset] [(.long it), (.long ((rc.toInt64) + (1 : Int64)))])) _
            refine XS.lmul X54.here hx rfl (hb hby at_125) rfl ?_
            show Steps p.tables e below (T54.setTop (mkF m 126 #[.val (.long q0), .second, iv p1, iv p2, .val (.long q3), .second, iv p3, .val (.long it), .second, iv rc, iv 0, iv 0, rv wm, rv b52, iv 0, .val (.long ((rc.toInt64) + (1 : Int64))), .second, .unset, .unset, .unset, .unset, .unset, .unset] [(.long (((rc.toInt64) + (1 : Int64)) * it))])) _
            refine XS.lstore X54.here hx rfl (hb hby at_126) rfl (l' := #[.val (.long q0), .second, iv p1, iv p2, .val (.long q3), .second, iv p3, .val (.long it), .second, iv rc, iv 0, iv 0, rv wm, rv b52, iv 0, .val (.long ((rc.toInt64) + (1 : Int64))), .second, .unset, .unset, .val (.long (((rc.toInt64) + (1 : Int64)) * it)), .second, .unset, .unset]) rfl ?_
            show Steps p.tables e below (T54.setTop (mkF m 128 #[.val (.long q0), .second, iv p1, iv p2, .val (.long q3), .second, iv p3, .val (.long it), .second, iv rc, iv 0, iv 0, rv wm, rv b52, iv 0, .val (.long ((rc.toInt64) + (1 : Int64))), .second, .unset, .unset, .val (.long (((rc.toInt64) + (1 : Int64)) * it)), .second, .unset, .unset] [])) _
            refine XS.lload X54.here hx rfl (hb hby at_128) rfl ?_
            show Steps p.tables e below (T54.setTop (mkF m 130 #[.val (.long q0), .second, iv p1, iv p2, .val (.long q3), .second, iv p3, .val (.long it), .second, iv rc, iv 0, iv 0, rv wm, rv b52, iv 0, .val (.long ((rc.toInt64) + (1 : Int64))), .second, .unset, .unset, .val (.long (((rc.toInt64) + (1 : Int64)) * it)), .second, .unset, .unset] [(.long (((rc.toInt64) + (1 : Int64)) * it))])) _
            refine XS.lload X54.here hx rfl (hb hby at_130) rfl ?_
            show Steps p.tables e below (T54.setTop (mkF m 132 #[.val (.long q0), .second, iv p1, iv p2, .val (.long q3), .second, iv p3, .val (.long it), .second, iv rc, iv 0, iv 0, rv wm, rv b52, iv 0, .val (.long ((rc.toInt64) + (1 : Int64))), .second, .unset, .unset, .val (.long (((rc.toInt64) + (1 : Int64)) * it)), .second, .unset, .unset] [(.long it), (.long (((rc.toInt64) + (1 : Int64)) * it))])) _
            refine XS.ldiv X54.here hx rfl (hb hby at_132) rfl (own_p2 hp1) ?_
            show Steps p.tables e below (T54.setTop (mkF m 133 #[.val (.long q0), .second, iv p1, iv p2, .val (.long q3), .second, iv p3, .val (.long it), .second, iv rc, iv 0, iv 0, rv wm, rv b52, iv 0, .val (.long ((rc.toInt64) + (1 : Int64))), .second, .unset, .unset, .val (.long (((rc.toInt64) + (1 : Int64)) * it)), .second, .unset, .unset] [(.long ((((rc.toInt64) + (1 : Int64)) * it) / it))])) _
            refine XS.lload X54.here hx rfl (hb hby at_133) rfl ?_
            show Steps p.tables e below (T54.setTop (mkF m 135 #[.val (.long q0), .second, iv p1, iv p2, .val (.long q3), .second, iv p3, .val (.long it), .second, iv rc, iv 0, iv 0, rv wm, rv b52, iv 0, .val (.long ((rc.toInt64) + (1 : Int64))), .second, .unset, .unset, .val (.long (((rc.toInt64) + (1 : Int64)) * it)), .second, .unset, .unset] [(.long ((rc.toInt64) + (1 : Int64))), (.long ((((rc.toInt64) + (1 : Int64)) * it) / it))])) _
            refine XS.lcmp X54.here hx rfl (hb hby at_135) rfl ?_
            show Steps p.tables e below (T54.setTop (mkF m 136 #[.val (.long q0), .second, iv p1, iv p2, .val (.long q3), .second, iv p3, .val (.long it), .second, iv rc, iv 0, iv 0, rv wm, rv b52, iv 0, .val (.long ((rc.toInt64) + (1 : Int64))), .second, .unset, .unset, .val (.long (((rc.toInt64) + (1 : Int64)) * it)), .second, .unset, .unset] [(.int (lcmpW ((((rc.toInt64) + (1 : Int64)) * it) / it) ((rc.toInt64) + (1 : Int64))))])) _
            refine XS.ifYes X54.here hx rfl (pc0 := 136) (pc' := 145) rfl (hb hby at_136) rfl ((if0 _ _).trans (teq ((lw_eq _ _).mpr hc57)).1) (by decide) (by decide) ?_
            show Steps p.tables e below (T54.setTop (mkF m 145 #[.val (.long q0), .second, iv p1, iv p2, .val (.long q3), .second, iv p3, .val (.long it), .second, iv rc, iv 0, iv 0, rv wm, rv b52, iv 0, .val (.long ((rc.toInt64) + (1 : Int64))), .second, .unset, .unset, .val (.long (((rc.toInt64) + (1 : Int64)) * it)), .second, .unset, .unset] [])) _
            refine XS.lload X54.here hx rfl (hb hby at_145) rfl ?_
            show Steps p.tables e below (T54.setTop (mkF m 147 #[.val (.long q0), .second, iv p1, iv p2, .val (.long q3), .second, iv p3, .val (.long it), .second, iv rc, iv 0, iv 0, rv wm, rv b52, iv 0, .val (.long ((rc.toInt64) + (1 : Int64))), .second, .unset, .unset, .val (.long (((rc.toInt64) + (1 : Int64)) * it)), .second, .unset, .unset] [(.long (((rc.toInt64) + (1 : Int64)) * it))])) _
            refine XS.lstore X54.here hx rfl (hb hby at_147) rfl (l' := #[.val (.long q0), .second, iv p1, iv p2, .val (.long q3), .second, iv p3, .val (.long it), .second, iv rc, iv 0, iv 0, rv wm, rv b52, iv 0, .val (.long ((rc.toInt64) + (1 : Int64))), .second, .val (.long (((rc.toInt64) + (1 : Int64)) * it)), .second, .val (.long (((rc.toInt64) + (1 : Int64)) * it)), .second, .unset, .unset]) rfl ?_
            show Steps p.tables e below (T54.setTop (mkF m 149 #[.val (.long q0), .second, iv p1, iv p2, .val (.long q3), .second, iv p3, .val (.long it), .second, iv rc, iv 0, iv 0, rv wm, rv b52, iv 0, .val (.long ((rc.toInt64) + (1 : Int64))), .second, .val (.long (((rc.toInt64) + (1 : Int64)) * it)), .second, .val (.long (((rc.toInt64) + (1 : Int64)) * it)), .second, .unset, .unset] [])) _
            exact kt
          · refine ⟨(9223372036854775807 : Int64), T54, _, own_t2 hp1 (own_nn hn) hc57, X54, N54, rfl, fun target kt => ?_⟩
            show Steps p.tables e below (T54.setTop (mkF m 121 #[.val (.long q0), .second, iv p1, iv p2, .val (.long q3), .second, iv p3, .val (.long it), .second, iv rc, iv 0, iv 0, rv wm, rv b52, iv 0, .val (.long ((rc.toInt64) + (1 : Int64))), .second, .unset, .unset, .unset, .unset, .unset, .unset] [])) _
            refine XS.lload X54.here hx rfl (hb hby at_121) rfl ?_
            show Steps p.tables e below (T54.setTop (mkF m 123 #[.val (.long q0), .second, iv p1, iv p2, .val (.long q3), .second, iv p3, .val (.long it), .second, iv rc, iv 0, iv 0, rv wm, rv b52, iv 0, .val (.long ((rc.toInt64) + (1 : Int64))), .second, .unset, .unset, .unset, .unset, .unset, .unset] [(.long ((rc.toInt64) + (1 : Int64)))])) _
            refine XS.lload X54.here hx rfl (hb hby at_123) rfl ?_
            show Steps p.tables e below (T54.setTop (mkF m 125 #[.val (.long q0), .second, iv p1, iv p2, .val (.long q3), .second, iv p3, .val (.long it), .second, iv rc, iv 0, iv 0, rv wm, rv b52, iv 0, .val (.long ((rc.toInt64) + (1 : Int64))), .second, .unset, .unset, .unset, .unset, .unset, .unset] [(.long it), (.long ((rc.toInt64) + (1 : Int64)))])) _
            refine XS.lmul X54.here hx rfl (hb hby at_125) rfl ?_
            show Steps p.tables e below (T54.setTop (mkF m 126 #[.val (.long q0), .second, iv p1, iv p2, .val (.long q3), .second, iv p3, .val (.long it), .second, iv rc, iv 0, iv 0, rv wm, rv b52, iv 0, .val (.long ((rc.toInt64) + (1 : Int64))), .second, .unset, .unset, .unset, .unset, .unset, .unset] [(.long (((rc.toInt64) + (1 : Int64)) * it))])) _
            refine XS.lstore X54.here hx rfl (hb hby at_126) rfl (l' := #[.val (.long q0), .second, iv p1, iv p2, .val (.long q3), .second, iv p3, .val (.long it), .second, iv rc, iv 0, iv 0, rv wm, rv b52, iv 0, .val (.long ((rc.toInt64) + (1 : Int64))), .second, .unset, .unset, .val (.long (((rc.toInt64) + (1 : Int64)) * it)), .second, .unset, .unset]) rfl ?_
            show Steps p.tables e below (T54.setTop (mkF m 128 #[.val (.long q0), .second, iv p1, iv p2, .val (.long q3), .second, iv p3, .val (.long it), .second, iv rc, iv 0, iv 0, rv wm, rv b52, iv 0, .val (.long ((rc.toInt64) + (1 : Int64))), .second, .unset, .unset, .val (.long (((rc.toInt64) + (1 : Int64)) * it)), .second, .unset, .unset] [])) _
            refine XS.lload X54.here hx rfl (hb hby at_128) rfl ?_
            show Steps p.tables e below (T54.setTop (mkF m 130 #[.val (.long q0), .second, iv p1, iv p2, .val (.long q3), .second, iv p3, .val (.long it), .second, iv rc, iv 0, iv 0, rv wm, rv b52, iv 0, .val (.long ((rc.toInt64) + (1 : Int64))), .second, .unset, .unset, .val (.long (((rc.toInt64) + (1 : Int64)) * it)), .second, .unset, .unset] [(.long (((rc.toInt64) + (1 : Int64)) * it))])) _
            refine XS.lload X54.here hx rfl (hb hby at_130) rfl ?_
            show Steps p.tables e below (T54.setTop (mkF m 132 #[.val (.long q0), .second, iv p1, iv p2, .val (.long q3), .second, iv p3, .val (.long it), .second, iv rc, iv 0, iv 0, rv wm, rv b52, iv 0, .val (.long ((rc.toInt64) + (1 : Int64))), .second, .unset, .unset, .val (.long (((rc.toInt64) + (1 : Int64)) * it)), .second, .unset, .unset] [(.long it), (.long (((rc.toInt64) + (1 : Int64)) * it))])) _
            refine XS.ldiv X54.here hx rfl (hb hby at_132) rfl (own_p2 hp1) ?_
            show Steps p.tables e below (T54.setTop (mkF m 133 #[.val (.long q0), .second, iv p1, iv p2, .val (.long q3), .second, iv p3, .val (.long it), .second, iv rc, iv 0, iv 0, rv wm, rv b52, iv 0, .val (.long ((rc.toInt64) + (1 : Int64))), .second, .unset, .unset, .val (.long (((rc.toInt64) + (1 : Int64)) * it)), .second, .unset, .unset] [(.long ((((rc.toInt64) + (1 : Int64)) * it) / it))])) _
            refine XS.lload X54.here hx rfl (hb hby at_133) rfl ?_
            show Steps p.tables e below (T54.setTop (mkF m 135 #[.val (.long q0), .second, iv p1, iv p2, .val (.long q3), .second, iv p3, .val (.long it), .second, iv rc, iv 0, iv 0, rv wm, rv b52, iv 0, .val (.long ((rc.toInt64) + (1 : Int64))), .second, .unset, .unset, .val (.long (((rc.toInt64) + (1 : Int64)) * it)), .second, .unset, .unset] [(.long ((rc.toInt64) + (1 : Int64))), (.long ((((rc.toInt64) + (1 : Int64)) * it) / it))])) _
            refine XS.lcmp X54.here hx rfl (hb hby at_135) rfl ?_
            show Steps p.tables e below (T54.setTop (mkF m 136 #[.val (.long q0), .second, iv p1, iv p2, .val (.long q3), .second, iv p3, .val (.long it), .second, iv rc, iv 0, iv 0, rv wm, rv b52, iv 0, .val (.long ((rc.toInt64) + (1 : Int64))), .second, .unset, .unset, .val (.long (((rc.toInt64) + (1 : Int64)) * it)), .second, .unset, .unset] [(.int (lcmpW ((((rc.toInt64) + (1 : Int64)) * it) / it) ((rc.toInt64) + (1 : Int64))))])) _
            refine XS.ifNo X54.here hx rfl (hb hby at_136) rfl ((if0 _ _).trans (feq (fun q => hc57 ((lw_eq _ _).mp q))).1) ?_
            show Steps p.tables e below (T54.setTop (mkF m 139 #[.val (.long q0), .second, iv p1, iv p2, .val (.long q3), .second, iv p3, .val (.long it), .second, iv rc, iv 0, iv 0, rv wm, rv b52, iv 0, .val (.long ((rc.toInt64) + (1 : Int64))), .second, .unset, .unset, .val (.long (((rc.toInt64) + (1 : Int64)) * it)), .second, .unset, .unset] [])) _
            refine X54.ldc2Long hx hown (mvT hZ (hw _ (own_m 0 rfl))) (g := (mkF m 139 #[.val (.long q0), .second, iv p1, iv p2, .val (.long q3), .second, iv p3, .val (.long it), .second, iv rc, iv 0, iv 0, rv wm, rv b52, iv 0, .val (.long ((rc.toInt64) + (1 : Int64))), .second, .unset, .unset, .val (.long (((rc.toInt64) + (1 : Int64)) * it)), .second, .unset, .unset] [])) rfl (hb hby at_139) _ ?_
            show Steps p.tables e below (T54.setTop (mkF m 142 #[.val (.long q0), .second, iv p1, iv p2, .val (.long q3), .second, iv p3, .val (.long it), .second, iv rc, iv 0, iv 0, rv wm, rv b52, iv 0, .val (.long ((rc.toInt64) + (1 : Int64))), .second, .unset, .unset, .val (.long (((rc.toInt64) + (1 : Int64)) * it)), .second, .unset, .unset] [(.long 9223372036854775807)])) _
            refine XS.goto X54.here hx rfl (pc0 := 142) (pc' := 147) rfl (hb hby at_142) (by decide) (by decide) ?_
            show Steps p.tables e below (T54.setTop (mkF m 147 #[.val (.long q0), .second, iv p1, iv p2, .val (.long q3), .second, iv p3, .val (.long it), .second, iv rc, iv 0, iv 0, rv wm, rv b52, iv 0, .val (.long ((rc.toInt64) + (1 : Int64))), .second, .unset, .unset, .val (.long (((rc.toInt64) + (1 : Int64)) * it)), .second, .unset, .unset] [(.long 9223372036854775807)])) _
            refine XS.lstore X54.here hx rfl (hb hby at_147) rfl (l' := #[.val (.long q0), .second, iv p1, iv p2, .val (.long q3), .second, iv p3, .val (.long it), .second, iv rc, iv 0, iv 0, rv wm, rv b52, iv 0, .val (.long ((rc.toInt64) + (1 : Int64))), .second, .val (.long 9223372036854775807), .second, .val (.long (((rc.toInt64) + (1 : Int64)) * it)), .second, .unset, .unset]) rfl ?_
            show Steps p.tables e below (T54.setTop (mkF m 149 #[.val (.long q0), .second, iv p1, iv p2, .val (.long q3), .second, iv p3, .val (.long it), .second, iv rc, iv 0, iv 0, rv wm, rv b52, iv 0, .val (.long ((rc.toInt64) + (1 : Int64))), .second, .val (.long 9223372036854775807), .second, .val (.long (((rc.toInt64) + (1 : Int64)) * it)), .second, .unset, .unset] [])) _
            exact kt
        have htt : tq = tt := hq.trans hj56.symm
        have Ft : Fld Z T54.heap b52 "com/example/vsyncopate/vsyncopate/animation/Timeline" "totalNanos" "J" (.long tt) := htt ▸ Ftq
        obtain ⟨pp, T58, Lj58, hj58, X58, N58, e58, st58⟩ := own_pp1 w_A w_B (.val (.long q0)) (.second) (iv p1) (iv p2) (.val (.long it)) (.second) (iv rc) (iv 0) (iv 0) (rv wm) (rv b52) (iv 0) (.val (.long ((rc.toInt64) + (1 : Int64)))) (.second) (q3) (p3) (tt) ((((rc.toInt64) + (1 : Int64)) * it)) X56 hx hZ hw hby hml hown e56 N56 O55 S_A S_B 
        have pre60 : ∀ t, Steps p.tables e below (T58.setTop (mkF m 294 #[.val (.long q0), .second, iv p1, iv p2, .val (.long q3), .second, iv p3, .val (.long it), .second, iv rc, iv 0, iv 0, rv wm, rv b52, iv 0, .val (.long ((rc.toInt64) + (1 : Int64))), .second, .val (.long tt), .second, .val (.int ((p3 &&& (2147483647 : Int32)) % (7 : Int32))), .val (.long pp), .second, .unset] [(.long tt), (.long pp)])) t → Steps p.tables e below (s₁.setTop (entryFrame m #[(.long q0), (.int p1), (.int p2), (.long q3), (.int p3)] maxLocals)) t := fun t kt => by
          refine pre50 _ ?_
          show Steps p.tables e below (s₁.setTop (mkF m 28 #[.val (.long q0), .second, iv p1, iv p2, .val (.long q3), .second, iv p3, .val (.long it), .second, iv rc, iv 0, .unset, .unset, .unset, .unset, .unset, .unset, .unset, .unset, .unset, .unset, .unset, .unset] [(.int 2), (.int p2)])) _
          refine XS.iand X0.here hx rfl (hb hby at_28) rfl ?_
          show Steps p.tables e below (s₁.setTop (mkF m 29 #[.val (.long q0), .second, iv p1, iv p2, .val (.long q3), .second, iv p3, .val (.long it), .second, iv rc, iv 0, .unset, .unset, .unset, .unset, .unset, .unset, .unset, .unset, .unset, .unset, .unset, .unset] [(.int (p2 &&& (2 : Int32)))])) _
          refine XS.ifYes X0.here hx rfl (pc0 := 29) (pc' := 36) rfl (hb hby at_29) rfl ((if0 _ _).trans (teq hc49).1) (by decide) (by decide) ?_
          show Steps p.tables e below (s₁.setTop (mkF m 36 #[.val (.long q0), .second, iv p1, iv p2, .val (.long q3), .second, iv p3, .val (.long it), .second, iv rc, iv 0, .unset, .unset, .unset, .unset, .unset, .unset, .unset, .unset, .unset, .unset, .unset, .unset] [])) _
          refine XS.iconst X0.here hx rfl (hb hby at_36) ?_
          show Steps p.tables e below (s₁.setTop (mkF m 37 #[.val (.long q0), .second, iv p1, iv p2, .val (.long q3), .second, iv p3, .val (.long it), .second, iv rc, iv 0, .unset, .unset, .unset, .unset, .unset, .unset, .unset, .unset, .unset, .unset, .unset, .unset] [(.int 0)])) _
          refine XS.istore X0.here hx rfl (hb hby at_37) rfl (l' := #[.val (.long q0), .second, iv p1, iv p2, .val (.long q3), .second, iv p3, .val (.long it), .second, iv rc, iv 0, iv 0, .unset, .unset, .unset, .unset, .unset, .unset, .unset, .unset, .unset, .unset, .unset]) rfl ?_
          show Steps p.tables e below (s₁.setTop (mkF m 39 #[.val (.long q0), .second, iv p1, iv p2, .val (.long q3), .second, iv p3, .val (.long it), .second, iv rc, iv 0, iv 0, .unset, .unset, .unset, .unset, .unset, .unset, .unset, .unset, .unset, .unset, .unset] [])) _
          refine st51 _ ?_
          show Steps p.tables e below (T51.setTop (mkF m 54 #[.val (.long q0), .second, iv p1, iv p2, .val (.long q3), .second, iv p3, .val (.long it), .second, iv rc, iv 0, iv 0, .unset, .unset, .unset, .unset, .unset, .unset, .unset, .unset, .unset, .unset, .unset] [(.ref wm)])) _
          refine XS.astore X51.here hx rfl (hb hby at_54) rfl rfl (l' := #[.val (.long q0), .second, iv p1, iv p2, .val (.long q3), .second, iv p3, .val (.long it), .second, iv rc, iv 0, iv 0, rv wm, .unset, .unset, .unset, .unset, .unset, .unset, .unset, .unset, .unset, .unset]) rfl ?_
          show Steps p.tables e below (T51.setTop (mkF m 56 #[.val (.long q0), .second, iv p1, iv p2, .val (.long q3), .second, iv p3, .val (.long it), .second, iv rc, iv 0, iv 0, rv wm, .unset, .unset, .unset, .unset, .unset, .unset, .unset, .unset, .unset, .unset] [])) _
          refine st52 _ ?_
          show Steps p.tables e below (T52.setTop (mkF m 59 #[.val (.long q0), .second, iv p1, iv p2, .val (.long q3), .second, iv p3, .val (.long it), .second, iv rc, iv 0, iv 0, rv wm, .unset, .unset, .unset, .unset, .unset, .unset, .unset, .unset, .unset, .unset] [(.ref b52)])) _
          refine XS.dup X52.here hx rfl (hb hby at_59) rfl rfl ?_
          show Steps p.tables e below (T52.setTop (mkF m 60 #[.val (.long q0), .second, iv p1, iv p2, .val (.long q3), .second, iv p3, .val (.long it), .second, iv rc, iv 0, iv 0, rv wm, .unset, .unset, .unset, .unset, .unset, .unset, .unset, .unset, .unset, .unset] [(.ref b52), (.ref b52)])) _
          refine XS.lload X52.here hx rfl (hb hby at_60) rfl ?_
          show Steps p.tables e below (T52.setTop (mkF m 62 #[.val (.long q0), .second, iv p1, iv p2, .val (.long q3), .second, iv p3, .val (.long it), .second, iv rc, iv 0, iv 0, rv wm, .unset, .unset, .unset, .unset, .unset, .unset, .unset, .unset, .unset, .unset] [(.long it), (.ref b52), (.ref b52)])) _
          refine XS.iload X52.here hx rfl (hb hby at_62) rfl ?_
          show Steps p.tables e below (T52.setTop (mkF m 64 #[.val (.long q0), .second, iv p1, iv p2, .val (.long q3), .second, iv p3, .val (.long it), .second, iv rc, iv 0, iv 0, rv wm, .unset, .unset, .unset, .unset, .unset, .unset, .unset, .unset, .unset, .unset] [(.int rc), (.long it), (.ref b52), (.ref b52)])) _
          refine XS.iload X52.here hx rfl (hb hby at_64) rfl ?_
          show Steps p.tables e below (T52.setTop (mkF m 66 #[.val (.long q0), .second, iv p1, iv p2, .val (.long q3), .second, iv p3, .val (.long it), .second, iv rc, iv 0, iv 0, rv wm, .unset, .unset, .unset, .unset, .unset, .unset, .unset, .unset, .unset, .unset] [(.int 0), (.int rc), (.long it), (.ref b52), (.ref b52)])) _
          refine XS.aload X52.here hx rfl (hb hby at_66) rfl rfl ?_
          show Steps p.tables e below (T52.setTop (mkF m 68 #[.val (.long q0), .second, iv p1, iv p2, .val (.long q3), .second, iv p3, .val (.long it), .second, iv rc, iv 0, iv 0, rv wm, .unset, .unset, .unset, .unset, .unset, .unset, .unset, .unset, .unset, .unset] [(.ref wm), (.int 0), (.int rc), (.long it), (.ref b52), (.ref b52)])) _
          refine st54.trans ?_
          show Steps p.tables e below (T54.setTop (mkF m 71 #[.val (.long q0), .second, iv p1, iv p2, .val (.long q3), .second, iv p3, .val (.long it), .second, iv rc, iv 0, iv 0, rv wm, .unset, .unset, .unset, .unset, .unset, .unset, .unset, .unset, .unset, .unset] [(.ref b52)])) _
          refine XS.astore X54.here hx rfl (hb hby at_71) rfl rfl (l' := #[.val (.long q0), .second, iv p1, iv p2, .val (.long q3), .second, iv p3, .val (.long it), .second, iv rc, iv 0, iv 0, rv wm, rv b52, .unset, .unset, .unset, .unset, .unset, .unset, .unset, .unset, .unset]) rfl ?_
          show Steps p.tables e below (T54.setTop (mkF m 73 #[.val (.long q0), .second, iv p1, iv p2, .val (.long q3), .second, iv p3, .val (.long it), .second, iv rc, iv 0, iv 0, rv wm, rv b52, .unset, .unset, .unset, .unset, .unset, .unset, .unset, .unset, .unset] [])) _
          refine XS.iload X54.here hx rfl (hb hby at_73) rfl ?_
          show Steps p.tables e below (T54.setTop (mkF m 75 #[.val (.long q0), .second, iv p1, iv p2, .val (.long q3), .second, iv p3, .val (.long it), .second, iv rc, iv 0, iv 0, rv wm, rv b52, .unset, .unset, .unset, .unset, .unset, .unset, .unset, .unset, .unset] [(.int 0)])) _
          refine XS.ifYes X54.here hx rfl (pc0 := 75) (pc' := 89) rfl (hb hby at_75) rfl ((if0 _ _).trans (teq (by decide)).1) (by decide) (by decide) ?_
          show Steps p.tables e below (T54.setTop (mkF m 89 #[.val (.long q0), .second, iv p1, iv p2, .val (.long q3), .second, iv p3, .val (.long it), .second, iv rc, iv 0, iv 0, rv wm, rv b52, .unset, .unset, .unset, .unset, .unset, .unset, .unset, .unset, .unset] [])) _
          refine XS.iconst X54.here hx rfl (hb hby at_89) ?_
          show Steps p.tables e below (T54.setTop (mkF m 90 #[.val (.long q0), .second, iv p1, iv p2, .val (.long q3), .second, iv p3, .val (.long it), .second, iv rc, iv 0, iv 0, rv wm, rv b52, .unset, .unset, .unset, .unset, .unset, .unset, .unset, .unset, .unset] [(.int 0)])) _
          refine XS.istore X54.here hx rfl (hb hby at_90) rfl (l' := #[.val (.long q0), .second, iv p1, iv p2, .val (.long q3), .second, iv p3, .val (.long it), .second, iv rc, iv 0, iv 0, rv wm, rv b52, iv 0, .unset, .unset, .unset, .unset, .unset, .unset, .unset, .unset]) rfl ?_
          show Steps p.tables e below (T54.setTop (mkF m 92 #[.val (.long q0), .second, iv p1, iv p2, .val (.long q3), .second, iv p3, .val (.long it), .second, iv rc, iv 0, iv 0, rv wm, rv b52, iv 0, .unset, .unset, .unset, .unset, .unset, .unset, .unset, .unset] [])) _
          refine XS.iload X54.here hx rfl (hb hby at_92) rfl ?_
          show Steps p.tables e below (T54.setTop (mkF m 94 #[.val (.long q0), .second, iv p1, iv p2, .val (.long q3), .second, iv p3, .val (.long it), .second, iv rc, iv 0, iv 0, rv wm, rv b52, iv 0, .unset, .unset, .unset, .unset, .unset, .unset, .unset, .unset] [(.int 0)])) _
          refine XS.ifYes X54.here hx rfl (pc0 := 94) (pc' := 101) rfl (hb hby at_94) rfl ((if0 _ _).trans (teq (by decide)).1) (by decide) (by decide) ?_
          show Steps p.tables e below (T54.setTop (mkF m 101 #[.val (.long q0), .second, iv p1, iv p2, .val (.long q3), .second, iv p3, .val (.long it), .second, iv rc, iv 0, iv 0, rv wm, rv b52, iv 0, .unset, .unset, .unset, .unset, .unset, .unset, .unset, .unset] [])) _
          refine XS.iload X54.here hx rfl (hb hby at_101) rfl ?_
          show Steps p.tables e below (T54.setTop (mkF m 103 #[.val (.long q0), .second, iv p1, iv p2, .val (.long q3), .second, iv p3, .val (.long it), .second, iv rc, iv 0, iv 0, rv wm, rv b52, iv 0, .unset, .unset, .unset, .unset, .unset, .unset, .unset, .unset] [(.int rc)])) _
          refine XS.i2l X54.here hx rfl (hb hby at_103) rfl ?_
          show Steps p.tables e below (T54.setTop (mkF m 104 #[.val (.long q0), .second, iv p1, iv p2, .val (.long q3), .second, iv p3, .val (.long it), .second, iv rc, iv 0, iv 0, rv wm, rv b52, iv 0, .unset, .unset, .unset, .unset, .unset, .unset, .unset, .unset] [(.long (rc.toInt64))])) _
          refine XS.lconst X54.here hx rfl (hb hby at_104) ?_
          show Steps p.tables e below (T54.setTop (mkF m 105 #[.val (.long q0), .second, iv p1, iv p2, .val (.long q3), .second, iv p3, .val (.long it), .second, iv rc, iv 0, iv 0, rv wm, rv b52, iv 0, .unset, .unset, .unset, .unset, .unset, .unset, .unset, .unset] [(.long 1), (.long (rc.toInt64))])) _
          refine XS.ladd X54.here hx rfl (hb hby at_105) rfl ?_
          show Steps p.tables e below (T54.setTop (mkF m 106 #[.val (.long q0), .second, iv p1, iv p2, .val (.long q3), .second, iv p3, .val (.long it), .second, iv rc, iv 0, iv 0, rv wm, rv b52, iv 0, .unset, .unset, .unset, .unset, .unset, .unset, .unset, .unset] [(.long ((rc.toInt64) + (1 : Int64)))])) _
          refine XS.lstore X54.here hx rfl (hb hby at_106) rfl (l' := #[.val (.long q0), .second, iv p1, iv p2, .val (.long q3), .second, iv p3, .val (.long it), .second, iv rc, iv 0, iv 0, rv wm, rv b52, iv 0, .val (.long ((rc.toInt64) + (1 : Int64))), .second, .unset, .unset, .unset, .unset, .unset, .unset]) rfl ?_
          show Steps p.tables e below (T54.setTop (mkF m 108 #[.val (.long q0), .second, iv p1, iv p2, .val (.long q3), .second, iv p3, .val (.long it), .second, iv rc, iv 0, iv 0, rv wm, rv b52, iv 0, .val (.long ((rc.toInt64) + (1 : Int64))), .second, .unset, .unset, .unset, .unset, .unset, .unset] [])) _
          refine XS.lload X54.here hx rfl (hb hby at_108) rfl ?_
          show Steps p.tables e below (T54.setTop (mkF m 110 #[.val (.long q0), .second, iv p1, iv p2, .val (.long q3), .second, iv p3, .val (.long it), .second, iv rc, iv 0, iv 0, rv wm, rv b52, iv 0, .val (.long ((rc.toInt64) + (1 : Int64))), .second, .unset, .unset, .unset, .unset, .unset, .unset] [(.long it)])) _
          refine XS.lconst X54.here hx rfl (hb hby at_110) ?_
          show Steps p.tables e below (T54.setTop (mkF m 111 #[.val (.long q0), .second, iv p1, iv p2, .val (.long q3), .second, iv p3, .val (.long it), .second, iv rc, iv 0, iv 0, rv wm, rv b52, iv 0, .val (.long ((rc.toInt64) + (1 : Int64))), .second, .unset, .unset, .unset, .unset, .unset, .unset] [(.long 0), (.long it)])) _
          refine XS.lcmp X54.here hx rfl (hb hby at_111) rfl ?_
          show Steps p.tables e below (T54.setTop (mkF m 112 #[.val (.long q0), .second, iv p1, iv p2, .val (.long q3), .second, iv p3, .val (.long it), .second, iv rc, iv 0, iv 0, rv wm, rv b52, iv 0, .val (.long ((rc.toInt64) + (1 : Int64))), .second, .unset, .unset, .unset, .unset, .unset, .unset] [(.int (lcmpW it (0 : Int64)))])) _
          refine XS.ifYes X54.here hx rfl (pc0 := 112) (pc' := 121) rfl (hb hby at_112) rfl ((if0 _ _).trans (feq (fun q => (own_p2 hp1) ((lw_eq _ _).mp q))).2) (by decide) (by decide) ?_
          show Steps p.tables e below (T54.setTop (mkF m 121 #[.val (.long q0), .second, iv p1, iv p2, .val (.long q3), .second, iv p3, .val (.long it), .second, iv rc, iv 0, iv 0, rv wm, rv b52, iv 0, .val (.long ((rc.toInt64) + (1 : Int64))), .second, .unset, .unset, .unset, .unset, .unset, .unset] [])) _
          refine st56 _ ?_
          show Steps p.tables e below (T56.setTop (mkF m 149 #[.val (.long q0), .second, iv p1, iv p2, .val (.long q3), .second, iv p3, .val (.long it), .second, iv rc, iv 0, iv 0, rv wm, rv b52, iv 0, .val (.long ((rc.toInt64) + (1 : Int64))), .second, .val (.long tt), .second, .val (.long (((rc.toInt64) + (1 : Int64)) * it)), .second, .unset, .unset] [])) _
          refine st58 _ ?_
          show Steps p.tables e below (T58.setTop (mkF m 257 #[.val (.long q0), .second, iv p1, iv p2, .val (.long q3), .second, iv p3, .val (.long it), .second, iv rc, iv 0, iv 0, rv wm, rv b52, iv 0, .val (.long ((rc.toInt64) + (1 : Int64))), .second, .val (.long tt), .second, .val (.int ((p3 &&& (2147483647 : Int32)) % (7 : Int32))), .val (.long pp), .second, .unset] [])) _
          refine XS.iload X58.here hx rfl (hb hby at_257) rfl ?_
          show Steps p.tables e below (T58.setTop (mkF m 259 #[.val (.long q0), .second, iv p1, iv p2, .val (.long q3), .second, iv p3, .val (.long it), .second, iv rc, iv 0, iv 0, rv wm, rv b52, iv 0, .val (.long ((rc.toInt64) + (1 : Int64))), .second, .val (.long tt), .second, .val (.int ((p3 &&& (2147483647 : Int32)) % (7 : Int32))), .val (.long pp), .second, .unset] [(.int 0)])) _
          refine XS.ifYes X58.here hx rfl (pc0 := 259) (pc' := 268) rfl (hb hby at_259) rfl ((if0 _ _).trans (teq (by decide)).1) (by decide) (by decide) ?_
          show Steps p.tables e below (T58.setTop (mkF m 268 #[.val (.long q0), .second, iv p1, iv p2, .val (.long q3), .second, iv p3, .val (.long it), .second, iv rc, iv 0, iv 0, rv wm, rv b52, iv 0, .val (.long ((rc.toInt64) + (1 : Int64))), .second, .val (.long tt), .second, .val (.int ((p3 &&& (2147483647 : Int32)) % (7 : Int32))), .val (.long pp), .second, .unset] [])) _
          refine XS.iload X58.here hx rfl (hb hby at_268) rfl ?_
          show Steps p.tables e below (T58.setTop (mkF m 270 #[.val (.long q0), .second, iv p1, iv p2, .val (.long q3), .second, iv p3, .val (.long it), .second, iv rc, iv 0, iv 0, rv wm, rv b52, iv 0, .val (.long ((rc.toInt64) + (1 : Int64))), .second, .val (.long tt), .second, .val (.int ((p3 &&& (2147483647 : Int32)) % (7 : Int32))), .val (.long pp), .second, .unset] [(.int 0)])) _
          refine XS.ifYes X58.here hx rfl (pc0 := 270) (pc' := 290) rfl (hb hby at_270) rfl ((if0 _ _).trans (teq (by decide)).1) (by decide) (by decide) ?_
          show Steps p.tables e below (T58.setTop (mkF m 290 #[.val (.long q0), .second, iv p1, iv p2, .val (.long q3), .second, iv p3, .val (.long it), .second, iv rc, iv 0, iv 0, rv wm, rv b52, iv 0, .val (.long ((rc.toInt64) + (1 : Int64))), .second, .val (.long tt), .second, .val (.int ((p3 &&& (2147483647 : Int32)) % (7 : Int32))), .val (.long pp), .second, .unset] [])) _
          refine XS.lload X58.here hx rfl (hb hby at_290) rfl ?_
          show Steps p.tables e below (T58.setTop (mkF m 292 #[.val (.long q0), .second, iv p1, iv p2, .val (.long q3), .second, iv p3, .val (.long it), .second, iv rc, iv 0, iv 0, rv wm, rv b52, iv 0, .val (.long ((rc.toInt64) + (1 : Int64))), .second, .val (.long tt), .second, .val (.int ((p3 &&& (2147483647 : Int32)) % (7 : Int32))), .val (.long pp), .second, .unset] [(.long pp)])) _
          refine XS.lload X58.here hx rfl (hb hby at_292) rfl ?_
          show Steps p.tables e below (T58.setTop (mkF m 294 #[.val (.long q0), .second, iv p1, iv p2, .val (.long q3), .second, iv p3, .val (.long it), .second, iv rc, iv 0, iv 0, rv wm, rv b52, iv 0, .val (.long ((rc.toInt64) + (1 : Int64))), .second, .val (.long tt), .second, .val (.int ((p3 &&& (2147483647 : Int32)) % (7 : Int32))), .val (.long pp), .second, .unset] [(.long tt), (.long pp)])) _
          exact kt
        by_cases hc59 : pp < tt
        · obtain ⟨cq61, kq61, q61a, q61b, q61c⟩ := isOf hZ e58 Eq
          obtain ⟨_, _, ⟨T61, L61, k61, n61⟩, -, X61, ⟨Lc61, hQ61, l61, y61, z61⟩, st61⟩ := X58.virtualBack hx (y := (⟨"com/example/vsyncopate/vsyncopate/animation/Timeline", "isOver", "(JZ)Z"⟩ : MethodName)) (z := (⟨"com/example/vsyncopate/vsyncopate/animation/Timeline", "isOver", "(JZ)Z"⟩ : MethodName)) hown (mvT hZ (hw _ (own_m 29 rfl))) (mvT hZ (hw _ (own_m 30 rfl))) (notFace_of_selects (args := #[]) (mvT hZ (hw _ (own_m 32 rfl)))) (mvT hZ (hw _ (own_m 32 rfl))) (mvT hZ (hw _ (own_m 31 rfl))) (by decide) (backOf (W := 0) (own_ovF0 l Z a0 hw [] w_A w_B b52 pp tt T54.heap n0 O55 S_A S_B Fe Ft hc59) hZ (hw _ (own_m 33 rfl)) (hw _ (own_m 7 rfl)) (by decide) (by decide)) q61a q61c (g := (mkF m 311 #[.val (.long q0), .second, iv p1, iv p2, .val (.long q3), .second, iv p3, .val (.long it), .second, iv rc, iv 0, iv 0, rv wm, rv b52, iv 0, .val (.long ((rc.toInt64) + (1 : Int64))), .second, .val (.long tt), .second, .val (.int ((p3 &&& (2147483647 : Int32)) % (7 : Int32))), .val (.long pp), .second, iv 0] [(.int 0), (.long pp), (.ref b52)])) rfl (by rw [hml]; rfl) (Steps.refl _) (argsL := [(.long pp), (.int 0)]) (rest := []) (lenOf own_pd2 rfl) rfl (by show 2 * 0 + _ ≤ _; exact Nat.le_of_eq rfl) (hb hby at_311) (fun _ _ => ⟨rfl, e58, (by decide : 1 + 0 ≤ _), (by decide : 5 + 0 ≤ _)⟩)
          dsimp only [Pt.U, Pt.locs, Pt.cells, Pt.slots] at X61 l61 y61 z61 st61 hQ61
          subst l61 y61 z61
          obtain ⟨rfl, N61q, e61⟩ := hQ61
          have N61 := Fr.app N58 N61q
          obtain ⟨fs, hr, hrun, hended, hW, hsame⟩ := X61.leave (v := some (.int 1)) (fun h => by rw [Bd.returns] at h; cases h)
          refine ⟨_, _, pre60 _ ?_, hrun, hended, _, _, rfl, ?_, ⟨_, rfl⟩, hW, hsame.mono (by decide) (by decide)⟩
          · show Steps p.tables e below (T58.setTop (mkF m 294 #[.val (.long q0), .second, iv p1, iv p2, .val (.long q3), .second, iv p3, .val (.long it), .second, iv rc, iv 0, iv 0, rv wm, rv b52, iv 0, .val (.long ((rc.toInt64) + (1 : Int64))), .second, .val (.long tt), .second, .val (.int ((p3 &&& (2147483647 : Int32)) % (7 : Int32))), .val (.long pp), .second, .unset] [(.long tt), (.long pp)])) _
            refine XS.lcmp X58.here hx rfl (hb hby at_294) rfl ?_
            show Steps p.tables e below (T58.setTop (mkF m 295 #[.val (.long q0), .second, iv p1, iv p2, .val (.long q3), .second, iv p3, .val (.long it), .second, iv rc, iv 0, iv 0, rv wm, rv b52, iv 0, .val (.long ((rc.toInt64) + (1 : Int64))), .second, .val (.long tt), .second, .val (.int ((p3 &&& (2147483647 : Int32)) % (7 : Int32))), .val (.long pp), .second, .unset] [(.int (lcmpW pp tt))])) _
            refine XS.ifYes X58.here hx rfl (pc0 := 295) (pc' := 302) rfl (hb hby at_295) rfl ((if0 _ _).trans (tlt ((lw_lt _ _).mpr hc59)).1) (by decide) (by decide) ?_
            show Steps p.tables e below (T58.setTop (mkF m 302 #[.val (.long q0), .second, iv p1, iv p2, .val (.long q3), .second, iv p3, .val (.long it), .second, iv rc, iv 0, iv 0, rv wm, rv b52, iv 0, .val (.long ((rc.toInt64) + (1 : Int64))), .second, .val (.long tt), .second, .val (.int ((p3 &&& (2147483647 : Int32)) % (7 : Int32))), .val (.long pp), .second, .unset] [])) _
            refine XS.iconst X58.here hx rfl (hb hby at_302) ?_
            show Steps p.tables e below (T58.setTop (mkF m 303 #[.val (.long q0), .second, iv p1, iv p2, .val (.long q3), .second, iv p3, .val (.long it), .second, iv rc, iv 0, iv 0, rv wm, rv b52, iv 0, .val (.long ((rc.toInt64) + (1 : Int64))), .second, .val (.long tt), .second, .val (.int ((p3 &&& (2147483647 : Int32)) % (7 : Int32))), .val (.long pp), .second, .unset] [(.int 0)])) _
            refine XS.istore X58.here hx rfl (hb hby at_303) rfl (l' := #[.val (.long q0), .second, iv p1, iv p2, .val (.long q3), .second, iv p3, .val (.long it), .second, iv rc, iv 0, iv 0, rv wm, rv b52, iv 0, .val (.long ((rc.toInt64) + (1 : Int64))), .second, .val (.long tt), .second, .val (.int ((p3 &&& (2147483647 : Int32)) % (7 : Int32))), .val (.long pp), .second, iv 0]) rfl ?_
            show Steps p.tables e below (T58.setTop (mkF m 305 #[.val (.long q0), .second, iv p1, iv p2, .val (.long q3), .second, iv p3, .val (.long it), .second, iv rc, iv 0, iv 0, rv wm, rv b52, iv 0, .val (.long ((rc.toInt64) + (1 : Int64))), .second, .val (.long tt), .second, .val (.int ((p3 &&& (2147483647 : Int32)) % (7 : Int32))), .val (.long pp), .second, iv 0] [])) _
            refine XS.aload X58.here hx rfl (hb hby at_305) rfl rfl ?_
            show Steps p.tables e below (T58.setTop (mkF m 307 #[.val (.long q0), .second, iv p1, iv p2, .val (.long q3), .second, iv p3, .val (.long it), .second, iv rc, iv 0, iv 0, rv wm, rv b52, iv 0, .val (.long ((rc.toInt64) + (1 : Int64))), .second, .val (.long tt), .second, .val (.int ((p3 &&& (2147483647 : Int32)) % (7 : Int32))), .val (.long pp), .second, iv 0] [(.ref b52)])) _
            refine XS.lload X58.here hx rfl (hb hby at_307) rfl ?_
            show Steps p.tables e below (T58.setTop (mkF m 309 #[.val (.long q0), .second, iv p1, iv p2, .val (.long q3), .second, iv p3, .val (.long it), .second, iv rc, iv 0, iv 0, rv wm, rv b52, iv 0, .val (.long ((rc.toInt64) + (1 : Int64))), .second, .val (.long tt), .second, .val (.int ((p3 &&& (2147483647 : Int32)) % (7 : Int32))), .val (.long pp), .second, iv 0] [(.long pp), (.ref b52)])) _
            refine XS.iload X58.here hx rfl (hb hby at_309) rfl ?_
            show Steps p.tables e below (T58.setTop (mkF m 311 #[.val (.long q0), .second, iv p1, iv p2, .val (.long q3), .second, iv p3, .val (.long it), .second, iv rc, iv 0, iv 0, rv wm, rv b52, iv 0, .val (.long ((rc.toInt64) + (1 : Int64))), .second, .val (.long tt), .second, .val (.int ((p3 &&& (2147483647 : Int32)) % (7 : Int32))), .val (.long pp), .second, iv 0] [(.int 0), (.long pp), (.ref b52)])) _
            refine st61.trans ?_
            show Steps p.tables e below (T61.setTop (mkF m 314 #[.val (.long q0), .second, iv p1, iv p2, .val (.long q3), .second, iv p3, .val (.long it), .second, iv rc, iv 0, iv 0, rv wm, rv b52, iv 0, .val (.long ((rc.toInt64) + (1 : Int64))), .second, .val (.long tt), .second, .val (.int ((p3 &&& (2147483647 : Int32)) % (7 : Int32))), .val (.long pp), .second, iv 0] [(.int 0)])) _
            refine XS.iload X61.here hx rfl (hb hby at_314) rfl ?_
            show Steps p.tables e below (T61.setTop (mkF m 316 #[.val (.long q0), .second, iv p1, iv p2, .val (.long q3), .second, iv p3, .val (.long it), .second, iv rc, iv 0, iv 0, rv wm, rv b52, iv 0, .val (.long ((rc.toInt64) + (1 : Int64))), .second, .val (.long tt), .second, .val (.int ((p3 &&& (2147483647 : Int32)) % (7 : Int32))), .val (.long pp), .second, iv 0] [(.int 0), (.int 0)])) _
            refine XS.icmpNo X61.here hx rfl (hb hby at_316) rfl (teq (by decide)).2 ?_
            show Steps p.tables e below (T61.setTop (mkF m 319 #[.val (.long q0), .second, iv p1, iv p2, .val (.long q3), .second, iv p3, .val (.long it), .second, iv rc, iv 0, iv 0, rv wm, rv b52, iv 0, .val (.long ((rc.toInt64) + (1 : Int64))), .second, .val (.long tt), .second, .val (.int ((p3 &&& (2147483647 : Int32)) % (7 : Int32))), .val (.long pp), .second, iv 0] [])) _
            refine XS.iconst X61.here hx rfl (hb hby at_319) ?_
            show Steps p.tables e below (T61.setTop (mkF m 320 #[.val (.long q0), .second, iv p1, iv p2, .val (.long q3), .second, iv p3, .val (.long it), .second, iv rc, iv 0, iv 0, rv wm, rv b52, iv 0, .val (.long ((rc.toInt64) + (1 : Int64))), .second, .val (.long tt), .second, .val (.int ((p3 &&& (2147483647 : Int32)) % (7 : Int32))), .val (.long pp), .second, iv 0] [(.int 1)])) _
            refine XS.goto X61.here hx rfl (pc0 := 320) (pc' := 324) rfl (hb hby at_320) (by decide) (by decide) ?_
            show Steps p.tables e below (T61.setTop (mkF m 324 #[.val (.long q0), .second, iv p1, iv p2, .val (.long q3), .second, iv p3, .val (.long it), .second, iv rc, iv 0, iv 0, rv wm, rv b52, iv 0, .val (.long ((rc.toInt64) + (1 : Int64))), .second, .val (.long tt), .second, .val (.int ((p3 &&& (2147483647 : Int32)) % (7 : Int32))), .val (.long pp), .second, iv 0] [(.int 1)])) _
            exact retN X61 hx (t := .boolean) Bd.returns (by simp) (hb hby at_324) hr
          · show own_law_Q Z w_A w_B q0 p1 p2 q3 p3 h0 n0 _ T61.heap _
            rw [e61]
            exact ⟨rfl, N61⟩
        · obtain ⟨cq62, kq62, q62a, q62b, q62c⟩ := isOf hZ e58 Eq
          obtain ⟨_, _, ⟨T62, L62, k62, n62⟩, -, X62, ⟨Lc62, hQ62, l62, y62, z62⟩, st62⟩ := X58.virtualBack hx (y := (⟨"com/example/vsyncopate/vsyncopate/animation/Timeline", "isOver", "(JZ)Z"⟩ : MethodName)) (z := (⟨"com/example/vsyncopate/vsyncopate/animation/Timeline", "isOver", "(JZ)Z"⟩ : MethodName)) hown (mvT hZ (hw _ (own_m 29 rfl))) (mvT hZ (hw _ (own_m 30 rfl))) (notFace_of_selects (args := #[]) (mvT hZ (hw _ (own_m 32 rfl)))) (mvT hZ (hw _ (own_m 32 rfl))) (mvT hZ (hw _ (own_m 31 rfl))) (by decide) (backOf (W := 0) (own_ovF1 l Z a0 hw [] w_A w_B b52 pp tt T54.heap n0 O55 S_A S_B Fe Ft hc59) hZ (hw _ (own_m 33 rfl)) (hw _ (own_m 7 rfl)) (by decide) (by decide)) q62a q62c (g := (mkF m 311 #[.val (.long q0), .second, iv p1, iv p2, .val (.long q3), .second, iv p3, .val (.long it), .second, iv rc, iv 0, iv 0, rv wm, rv b52, iv 0, .val (.long ((rc.toInt64) + (1 : Int64))), .second, .val (.long tt), .second, .val (.int ((p3 &&& (2147483647 : Int32)) % (7 : Int32))), .val (.long pp), .second, iv 1] [(.int 0), (.long pp), (.ref b52)])) rfl (by rw [hml]; rfl) (Steps.refl _) (argsL := [(.long pp), (.int 0)]) (rest := []) (lenOf own_pd2 rfl) rfl (by show 2 * 0 + _ ≤ _; exact Nat.le_of_eq rfl) (hb hby at_311) (fun _ _ => ⟨rfl, e58, (by decide : 1 + 0 ≤ _), (by decide : 5 + 0 ≤ _)⟩)
          dsimp only [Pt.U, Pt.locs, Pt.cells, Pt.slots] at X62 l62 y62 z62 st62 hQ62
          subst l62 y62 z62
          obtain ⟨rfl, N62q, e62⟩ := hQ62
          have N62 := Fr.app N58 N62q
          obtain ⟨fs, hr, hrun, hended, hW, hsame⟩ := X62.leave (v := some (.int 1)) (fun h => by rw [Bd.returns] at h; cases h)
          refine ⟨_, _, pre60 _ ?_, hrun, hended, _, _, rfl, ?_, ⟨_, rfl⟩, hW, hsame.mono (by decide) (by decide)⟩
          · show Steps p.tables e below (T58.setTop (mkF m 294 #[.val (.long q0), .second, iv p1, iv p2, .val (.long q3), .second, iv p3, .val (.long it), .second, iv rc, iv 0, iv 0, rv wm, rv b52, iv 0, .val (.long ((rc.toInt64) + (1 : Int64))), .second, .val (.long tt), .second, .val (.int ((p3 &&& (2147483647 : Int32)) % (7 : Int32))), .val (.long pp), .second, .unset] [(.long tt), (.long pp)])) _
            refine XS.lcmp X58.here hx rfl (hb hby at_294) rfl ?_
            show Steps p.tables e below (T58.setTop (mkF m 295 #[.val (.long q0), .second, iv p1, iv p2, .val (.long q3), .second, iv p3, .val (.long it), .second, iv rc, iv 0, iv 0, rv wm, rv b52, iv 0, .val (.long ((rc.toInt64) + (1 : Int64))), .second, .val (.long tt), .second, .val (.int ((p3 &&& (2147483647 : Int32)) % (7 : Int32))), .val (.long pp), .second, .unset] [(.int (lcmpW pp tt))])) _
            refine XS.ifNo X58.here hx rfl (hb hby at_295) rfl ((if0 _ _).trans (flt (fun q => hc59 ((lw_lt _ _).mp q))).1) ?_
            show Steps p.tables e below (T58.setTop (mkF m 298 #[.val (.long q0), .second, iv p1, iv p2, .val (.long q3), .second, iv p3, .val (.long it), .second, iv rc, iv 0, iv 0, rv wm, rv b52, iv 0, .val (.long ((rc.toInt64) + (1 : Int64))), .second, .val (.long tt), .second, .val (.int ((p3 &&& (2147483647 : Int32)) % (7 : Int32))), .val (.long pp), .second, .unset] [])) _
            refine XS.iconst X58.here hx rfl (hb hby at_298) ?_
            show Steps p.tables e below (T58.setTop (mkF m 299 #[.val (.long q0), .second, iv p1, iv p2, .val (.long q3), .second, iv p3, .val (.long it), .second, iv rc, iv 0, iv 0, rv wm, rv b52, iv 0, .val (.long ((rc.toInt64) + (1 : Int64))), .second, .val (.long tt), .second, .val (.int ((p3 &&& (2147483647 : Int32)) % (7 : Int32))), .val (.long pp), .second, .unset] [(.int 1)])) _
            refine XS.goto X58.here hx rfl (pc0 := 299) (pc' := 303) rfl (hb hby at_299) (by decide) (by decide) ?_
            show Steps p.tables e below (T58.setTop (mkF m 303 #[.val (.long q0), .second, iv p1, iv p2, .val (.long q3), .second, iv p3, .val (.long it), .second, iv rc, iv 0, iv 0, rv wm, rv b52, iv 0, .val (.long ((rc.toInt64) + (1 : Int64))), .second, .val (.long tt), .second, .val (.int ((p3 &&& (2147483647 : Int32)) % (7 : Int32))), .val (.long pp), .second, .unset] [(.int 1)])) _
            refine XS.istore X58.here hx rfl (hb hby at_303) rfl (l' := #[.val (.long q0), .second, iv p1, iv p2, .val (.long q3), .second, iv p3, .val (.long it), .second, iv rc, iv 0, iv 0, rv wm, rv b52, iv 0, .val (.long ((rc.toInt64) + (1 : Int64))), .second, .val (.long tt), .second, .val (.int ((p3 &&& (2147483647 : Int32)) % (7 : Int32))), .val (.long pp), .second, iv 1]) rfl ?_
            show Steps p.tables e below (T58.setTop (mkF m 305 #[.val (.long q0), .second, iv p1, iv p2, .val (.long q3), .second, iv p3, .val (.long it), .second, iv rc, iv 0, iv 0, rv wm, rv b52, iv 0, .val (.long ((rc.toInt64) + (1 : Int64))), .second, .val (.long tt), .second, .val (.int ((p3 &&& (2147483647 : Int32)) % (7 : Int32))), .val (.long pp), .second, iv 1] [])) _
            refine XS.aload X58.here hx rfl (hb hby at_305) rfl rfl ?_
            show Steps p.tables e below (T58.setTop (mkF m 307 #[.val (.long q0), .second, iv p1, iv p2, .val (.long q3), .second, iv p3, .val (.long it), .second, iv rc, iv 0, iv 0, rv wm, rv b52, iv 0, .val (.long ((rc.toInt64) + (1 : Int64))), .second, .val (.long tt), .second, .val (.int ((p3 &&& (2147483647 : Int32)) % (7 : Int32))), .val (.long pp), .second, iv 1] [(.ref b52)])) _
            refine XS.lload X58.here hx rfl (hb hby at_307) rfl ?_
            show Steps p.tables e below (T58.setTop (mkF m 309 #[.val (.long q0), .second, iv p1, iv p2, .val (.long q3), .second, iv p3, .val (.long it), .second, iv rc, iv 0, iv 0, rv wm, rv b52, iv 0, .val (.long ((rc.toInt64) + (1 : Int64))), .second, .val (.long tt), .second, .val (.int ((p3 &&& (2147483647 : Int32)) % (7 : Int32))), .val (.long pp), .second, iv 1] [(.long pp), (.ref b52)])) _
            refine XS.iload X58.here hx rfl (hb hby at_309) rfl ?_
            show Steps p.tables e below (T58.setTop (mkF m 311 #[.val (.long q0), .second, iv p1, iv p2, .val (.long q3), .second, iv p3, .val (.long it), .second, iv rc, iv 0, iv 0, rv wm, rv b52, iv 0, .val (.long ((rc.toInt64) + (1 : Int64))), .second, .val (.long tt), .second, .val (.int ((p3 &&& (2147483647 : Int32)) % (7 : Int32))), .val (.long pp), .second, iv 1] [(.int 0), (.long pp), (.ref b52)])) _
            refine st62.trans ?_
            show Steps p.tables e below (T62.setTop (mkF m 314 #[.val (.long q0), .second, iv p1, iv p2, .val (.long q3), .second, iv p3, .val (.long it), .second, iv rc, iv 0, iv 0, rv wm, rv b52, iv 0, .val (.long ((rc.toInt64) + (1 : Int64))), .second, .val (.long tt), .second, .val (.int ((p3 &&& (2147483647 : Int32)) % (7 : Int32))), .val (.long pp), .second, iv 1] [(.int 1)])) _
            refine XS.iload X62.here hx rfl (hb hby at_314) rfl ?_
            show Steps p.tables e below (T62.setTop (mkF m 316 #[.val (.long q0), .second, iv p1, iv p2, .val (.long q3), .second, iv p3, .val (.long it), .second, iv rc, iv 0, iv 0, rv wm, rv b52, iv 0, .val (.long ((rc.toInt64) + (1 : Int64))), .second, .val (.long tt), .second, .val (.int ((p3 &&& (2147483647 : Int32)) % (7 : Int32))), .val (.long pp), .second, iv 1] [(.int 1), (.int 1)])) _
            refine XS.icmpNo X62.here hx rfl (hb hby at_316) rfl (teq (by decide)).2 ?_
            show Steps p.tables e below (T62.setTop (mkF m 319 #[.val (.long q0), .second, iv p1, iv p2, .val (.long q3), .second, iv p3, .val (.long it), .second, iv rc, iv 0, iv 0, rv wm, rv b52, iv 0, .val (.long ((rc.toInt64) + (1 : Int64))), .second, .val (.long tt), .second, .val (.int ((p3 &&& (2147483647 : Int32)) % (7 : Int32))), .val (.long pp), .second, iv 1] [])) _
            refine XS.iconst X62.here hx rfl (hb hby at_319) ?_
            show Steps p.tables e below (T62.setTop (mkF m 320 #[.val (.long q0), .second, iv p1, iv p2, .val (.long q3), .second, iv p3, .val (.long it), .second, iv rc, iv 0, iv 0, rv wm, rv b52, iv 0, .val (.long ((rc.toInt64) + (1 : Int64))), .second, .val (.long tt), .second, .val (.int ((p3 &&& (2147483647 : Int32)) % (7 : Int32))), .val (.long pp), .second, iv 1] [(.int 1)])) _
            refine XS.goto X62.here hx rfl (pc0 := 320) (pc' := 324) rfl (hb hby at_320) (by decide) (by decide) ?_
            show Steps p.tables e below (T62.setTop (mkF m 324 #[.val (.long q0), .second, iv p1, iv p2, .val (.long q3), .second, iv p3, .val (.long it), .second, iv rc, iv 0, iv 0, rv wm, rv b52, iv 0, .val (.long ((rc.toInt64) + (1 : Int64))), .second, .val (.long tt), .second, .val (.int ((p3 &&& (2147483647 : Int32)) % (7 : Int32))), .val (.long pp), .second, iv 1] [(.int 1)])) _
            exact retN X62 hx (t := .boolean) Bd.returns (by simp) (hb hby at_324) hr
          · show own_law_Q Z w_A w_B q0 p1 p2 q3 p3 h0 n0 _ T62.heap _
            rw [e62]
            exact ⟨rfl, N62⟩
      · obtain ⟨wm, T63, Lj63, hj63, X63, N63, e63, st63⟩ := own_mode w_A w_B (.val (.long q0)) (.second) (iv p1) (.val (.long q3)) (.second) (iv p3) (.val (.long it)) (.second) (iv rc) (iv 0) (iv 1) (.unset) (.unset) (.unset) (.unset) (.unset) (.unset) (.unset) (.unset) (.unset) (.unset) (.unset) (p2) X0 hx hZ hw hby hml hown e0 N0 O0 S_A S_B 
        obtain ⟨T64, h64, X64, e64, E64, A64, D64, -, st64⟩ := newO X63 hx hZ hown (hw _ (own_m 5 rfl)) (hw _ (own_m 6 rfl)) (hw _ (own_m 7 rfl)) e63 (g := (mkF m 56 #[.val (.long q0), .second, iv p1, iv p2, .val (.long q3), .second, iv p3, .val (.long it), .second, iv rc, iv 0, iv 1, rv wm, .unset, .unset, .unset, .unset, .unset, .unset, .unset, .unset, .unset, .unset] [])) rfl (hb hby at_56) (by decide) (by decide)
        obtain ⟨b64, g64⟩ : ∃ z, z = h0.size := ⟨_, rfl⟩
        rw [← g64] at A64 D64 st64
        have gg_b64 : n0 ≤ b64 := g64 ▸ own_le O0
        have O65 := O0.ext E64
        have F_iterationNanos_b64 : Fld Z h64 b64 "com/example/vsyncopate/vsyncopate/animation/Timeline" "iterationNanos" "J" (.long 0) := D64 (Or.inr (hw _ (own_m 15 rfl))) (ty := .long) (by decide)
        have F_mode_b64 : Fld Z h64 b64 "com/example/vsyncopate/vsyncopate/animation/Timeline" "mode" "Lcom/example/vsyncopate/vsyncopate/animation/RepeatMode;" .null := D64 (Or.inr (hw _ (own_m 17 rfl))) (ty := (.object "com/example/vsyncopate/vsyncopate/animation/RepeatMode")) (by decide)
        have F_endless_b64 : Fld Z h64 b64 "com/example/vsyncopate/vsyncopate/animation/Timeline" "endless" "Z" (.int 0) := D64 (Or.inr (hw _ (own_m 19 rfl))) (ty := .boolean) (by decide)
        have F_iterations_b64 : Fld Z h64 b64 "com/example/vsyncopate/vsyncopate/animation/Timeline" "iterations" "J" (.long 0) := D64 (Or.inr (hw _ (own_m 21 rfl))) (ty := .long) (by decide)
        have F_totalNanos_b64 : Fld Z h64 b64 "com/example/vsyncopate/vsyncopate/animation/Timeline" "totalNanos" "J" (.long 0) := D64 (Or.inr (hw _ (own_m 28 rfl))) (ty := .long) (by decide)
        obtain ⟨_, _, ⟨T66, L66, k66, n66⟩, -, X66, ⟨Lc66, hQ66, l66, y66, z66⟩, st66⟩ := X64.specialBack hx (y := (⟨"com/example/vsyncopate/vsyncopate/animation/Timeline", "<init>", "(JIZLcom/example/vsyncopate/vsyncopate/animation/RepeatMode;)V"⟩ : MethodName)) rfl hown (mvT hZ (hw _ (own_m 8 rfl))) (mvT hZ (hw _ (own_m 9 rfl))) (mvT hZ (hw _ (own_m 10 rfl))) (by decide) (backOf (W := 1) (own_mk01 l Z a0 hw [] w_A w_B b64 it rc wm h64 n0 O65 S_A S_B gg_b64 A64 F_iterationNanos_b64 F_mode_b64 F_endless_b64 F_iterations_b64 F_totalNanos_b64 hp1) hZ (hw _ (own_m 10 rfl)) (hw _ (own_m 7 rfl)) (by decide) (by decide)) (g := (mkF m 68 #[.val (.long q0), .second, iv p1, iv p2, .val (.long q3), .second, iv p3, .val (.long it), .second, iv rc, iv 0, iv 1, rv wm, .unset, .unset, .unset, .unset, .unset, .unset, .unset, .unset, .unset, .unset] [(.ref wm), (.int 0), (.int rc), (.long it), (.ref b64), (.ref b64)])) rfl (by rw [hml]; rfl) (Steps.refl _) (a := b64) (argsL := [(.long it), (.int rc), (.int 0), (.ref wm)]) (rest := [(.ref b64)]) (lenOf own_pd1 rfl) rfl (by show 2 * 0 + _ ≤ _; exact Nat.le_of_eq rfl) (hb hby at_68) (fun _ _ => ⟨rfl, e64, (by decide : 1 + 0 ≤ _), (by decide : 5 + 0 ≤ _)⟩)
        dsimp only [Pt.U, Pt.locs, Pt.cells, Pt.slots] at X66 l66 y66 z66 st66 hQ66
        subst l66 y66 z66
        obtain ⟨rfl, N66q, K66, tq, hq, Eq, Fe, Ftq⟩ := hQ66
        have N66 := Fr.app N63 N66q
        have O67 := O65.keep K66 (allS gg_b64 all0)
        obtain ⟨tt, T68, Lj68, hj68, X68, N68, e68, st68⟩ : ∃ (tt : Int64) (T68 : State) (Lj68 : List Loc), (tt = own_tot ((rc.toInt64) + (1 : Int64)) it) ∧ Stand p l e room_1 s m #[(.long q0), (.int p1), (.int p2), (.long q3), (.int p3)] below meth c T68 Lj68 1 5 ∧ Fr n0 Lj68 ∧ T68.heap = T66.heap ∧ ∀ target, Steps p.tables e below (T68.setTop (mkF m 149 #[.val (.long q0), .second, iv p1, iv p2, .val (.long q3), .second, iv p3, .val (.long it), .second, iv rc, iv 0, iv 1, rv wm, rv b64, iv 0, .val (.long ((rc.toInt64) + (1 : Int64))), .second, .val (.long tt), .second, .val (.long (((rc.toInt64) + (1 : Int64)) * it)), .second, .unset, .unset] [])) target → Steps p.tables e below (T66.setTop (mkF m 121 #[.val (.long q0), .second, iv p1, iv p2, .val (.long q3), .second, iv p3, .val (.long it), .second, iv rc, iv 0, iv 1, rv wm, rv b64, iv 0, .val (.long ((rc.toInt64) + (1 : Int64))), .second, .unset, .unset, .unset, .unset, .unset, .unset] [])) target := by
          by_cases hc69 : ((((rc.toInt64) + (1 : Int64)) * it) / it) = ((rc.toInt64) + (1 : Int64))
          · refine ⟨(((rc.toInt64) + (1 : Int64)) * it), T66, _, own_t1 hp1 (own_nn hn) hc69, X66, N66, rfl, fun target kt => ?_⟩
            show Steps p.tables e below (T66.setTop (mkF m 121 #[.val (.long q0), .second, iv p1, iv p2, .val (.long q3), .second, iv p3, .val (.long it), .second, iv rc, iv 0, iv 1, rv wm, rv b64, iv 0, .val (.long ((rc.toInt64) + (1 : Int64))), .second, .unset, .unset, .unset, .unset, .unset, .unset] [])) _
            refine XS.lload X66.here hx rfl (hb hby at_121) rfl ?_
            show Steps p.tables e below (T66.setTop (mkF m 123 #[.val (.long q0), .second, iv p1, iv p2, .val (.long q3), .second, iv p3, .val (.long it), .second, iv rc, iv 0, iv 1, rv wm, rv b64, iv 0, .val (.long ((rc.toInt64) + (1 : Int64))), .second, .unset, .unset, .unset, .unset, .unset, .unset] [(.long ((rc.toInt64) + (1 : Int64)))])) _
            refine XS.lload X66.here hx rfl (hb hby at_123) rfl ?_
            show Steps p.tables e below (T66.setTop (mkF m 125 #[.val (.long q0), .second, iv p1, iv p2, .val (.long q3), .second, iv p3, .val (.long it), .second, iv rc, iv 0, iv 1, rv wm, rv b64, iv 0, .val (.long ((rc.toInt64) + (1 : Int64))), .second, .unset, .unset, .unset, .unset, .unset, .unset] [(.long it), (.long ((rc.toInt64) + (1 : Int64)))])) _
            refine XS.lmul X66.here hx rfl (hb hby at_125) rfl ?_
            show Steps p.tables e below (T66.setTop (mkF m 126 #[.val (.long q0), .second, iv p1, iv p2, .val (.long q3), .second, iv p3, .val (.long it), .second, iv rc, iv 0, iv 1, rv wm, rv b64, iv 0, .val (.long ((rc.toInt64) + (1 : Int64))), .second, .unset, .unset, .unset, .unset, .unset, .unset] [(.long (((rc.toInt64) + (1 : Int64)) * it))])) _
            refine XS.lstore X66.here hx rfl (hb hby at_126) rfl (l' := #[.val (.long q0), .second, iv p1, iv p2, .val (.long q3), .second, iv p3, .val (.long it), .second, iv rc, iv 0, iv 1, rv wm, rv b64, iv 0, .val (.long ((rc.toInt64) + (1 : Int64))), .second, .unset, .unset, .val (.long (((rc.toInt64) + (1 : Int64)) * it)), .second, .unset, .unset]) rfl ?_
            show Steps p.tables e below (T66.setTop (mkF m 128 #[.val (.long q0), .second, iv p1, iv p2, .val (.long q3), .second, iv p3, .val (.long it), .second, iv rc, iv 0, iv 1, rv wm, rv b64, iv 0, .val (.long ((rc.toInt64) + (1 : Int64))), .second, .unset, .unset, .val (.long (((rc.toInt64) + (1 : Int64)) * it)), .second, .unset, .unset] [])) _
            refine XS.lload X66.here hx rfl (hb hby at_128) rfl ?_
            show Steps p.tables e below (T66.setTop (mkF m 130 #[.val (.long q0), .second, iv p1, iv p2, .val (.long q3), .second, iv p3, .val (.long it), .second, iv rc, iv 0, iv 1, rv wm, rv b64, iv 0, .val (.long ((rc.toInt64) + (1 : Int64))), .second, .unset, .unset, .val (.long (((rc.toInt64) + (1 : Int64)) * it)), .second, .unset, .unset] [(.long (((rc.toInt64) + (1 : Int64)) * it))])) _
            refine XS.lload X66.here hx rfl (hb hby at_130) rfl ?_
            show Steps p.tables e below (T66.setTop (mkF m 132 #[.val (.long q0), .second, iv p1, iv p2, .val (.long q3), .second, iv p3, .val (.long it), .second, iv rc, iv 0, iv 1, rv wm, rv b64, iv 0, .val (.long ((rc.toInt64) + (1 : Int64))), .second, .unset, .unset, .val (.long (((rc.toInt64) + (1 : Int64)) * it)), .second, .unset, .unset] [(.long it), (.long (((rc.toInt64) + (1 : Int64)) * it))])) _
            refine XS.ldiv X66.here hx rfl (hb hby at_132) rfl (own_p2 hp1) ?_
            show Steps p.tables e below (T66.setTop (mkF m 133 #[.val (.long q0), .second, iv p1, iv p2, .val (.long q3), .second, iv p3, .val (.long it), .second, iv rc, iv 0, iv 1, rv wm, rv b64, iv 0, .val (.long ((rc.toInt64) + (1 : Int64))), .second, .unset, .unset, .val (.long (((rc.toInt64) + (1 : Int64)) * it)), .second, .unset, .unset] [(.long ((((rc.toInt64) + (1 : Int64)) * it) / it))])) _
            refine XS.lload X66.here hx rfl (hb hby at_133) rfl ?_
            show Steps p.tables e below (T66.setTop (mkF m 135 #[.val (.long q0), .second, iv p1, iv p2, .val (.long q3), .second, iv p3, .val (.long it), .second, iv rc, iv 0, iv 1, rv wm, rv b64, iv 0, .val (.long ((rc.toInt64) + (1 : Int64))), .second, .unset, .unset, .val (.long (((rc.toInt64) + (1 : Int64)) * it)), .second, .unset, .unset] [(.long ((rc.toInt64) + (1 : Int64))), (.long ((((rc.toInt64) + (1 : Int64)) * it) / it))])) _
            refine XS.lcmp X66.here hx rfl (hb hby at_135) rfl ?_
            show Steps p.tables e below (T66.setTop (mkF m 136 #[.val (.long q0), .second, iv p1, iv p2, .val (.long q3), .second, iv p3, .val (.long it), .second, iv rc, iv 0, iv 1, rv wm, rv b64, iv 0, .val (.long ((rc.toInt64) + (1 : Int64))), .second, .unset, .unset, .val (.long (((rc.toInt64) + (1 : Int64)) * it)), .second, .unset, .unset] [(.int (lcmpW ((((rc.toInt64) + (1 : Int64)) * it) / it) ((rc.toInt64) + (1 : Int64))))])) _
            refine XS.ifYes X66.here hx rfl (pc0 := 136) (pc' := 145) rfl (hb hby at_136) rfl ((if0 _ _).trans (teq ((lw_eq _ _).mpr hc69)).1) (by decide) (by decide) ?_
            show Steps p.tables e below (T66.setTop (mkF m 145 #[.val (.long q0), .second, iv p1, iv p2, .val (.long q3), .second, iv p3, .val (.long it), .second, iv rc, iv 0, iv 1, rv wm, rv b64, iv 0, .val (.long ((rc.toInt64) + (1 : Int64))), .second, .unset, .unset, .val (.long (((rc.toInt64) + (1 : Int64)) * it)), .second, .unset, .unset] [])) _
            refine XS.lload X66.here hx rfl (hb hby at_145) rfl ?_
            show Steps p.tables e below (T66.setTop (mkF m 147 #[.val (.long q0), .second, iv p1, iv p2, .val (.long q3), .second, iv p3, .val (.long it), .second, iv rc, iv 0, iv 1, rv wm, rv b64, iv 0, .val (.long ((rc.toInt64) + (1 : Int64))), .second, .unset, .unset, .val (.long (((rc.toInt64) + (1 : Int64)) * it)), .second, .unset, .unset] [(.long (((rc.toInt64) + (1 : Int64)) * it))])) _
            refine XS.lstore X66.here hx rfl (hb hby at_147) rfl (l' := #[.val (.long q0), .second, iv p1, iv p2, .val (.long q3), .second, iv p3, .val (.long it), .second, iv rc, iv 0, iv 1, rv wm, rv b64, iv 0, .val (.long ((rc.toInt64) + (1 : Int64))), .second, .val (.long (((rc.toInt64) + (1 : Int64)) * it)), .second, .val (.long (((rc.toInt64) + (1 : Int64)) * it)), .second, .unset, .unset]) rfl ?_
            show Steps p.tables e below (T66.setTop (mkF m 149 #[.val (.long q0), .second, iv p1, iv p2, .val (.long q3), .second, iv p3, .val (.long it), .second, iv rc, iv 0, iv 1, rv wm, rv b64, iv 0, .val (.long ((rc.toInt64) + (1 : Int64))), .second, .val (.long (((rc.toInt64) + (1 : Int64)) * it)), .second, .val (.long (((rc.toInt64) + (1 : Int64)) * it)), .second, .unset, .unset] [])) _
            exact kt
          · refine ⟨(9223372036854775807 : Int64), T66, _, own_t2 hp1 (own_nn hn) hc69, X66, N66, rfl, fun target kt => ?_⟩
            show Steps p.tables e below (T66.setTop (mkF m 121 #[.val (.long q0), .second, iv p1, iv p2, .val (.long q3), .second, iv p3, .val (.long it), .second, iv rc, iv 0, iv 1, rv wm, rv b64, iv 0, .val (.long ((rc.toInt64) + (1 : Int64))), .second, .unset, .unset, .unset, .unset, .unset, .unset] [])) _
            refine XS.lload X66.here hx rfl (hb hby at_121) rfl ?_
            show Steps p.tables e below (T66.setTop (mkF m 123 #[.val (.long q0), .second, iv p1, iv p2, .val (.long q3), .second, iv p3, .val (.long it), .second, iv rc, iv 0, iv 1, rv wm, rv b64, iv 0, .val (.long ((rc.toInt64) + (1 : Int64))), .second, .unset, .unset, .unset, .unset, .unset, .unset] [(.long ((rc.toInt64) + (1 : Int64)))])) _
            refine XS.lload X66.here hx rfl (hb hby at_123) rfl ?_
            show Steps p.tables e below (T66.setTop (mkF m 125 #[.val (.long q0), .second, iv p1, iv p2, .val (.long q3), .second, iv p3, .val (.long it), .second, iv rc, iv 0, iv 1, rv wm, rv b64, iv 0, .val (.long ((rc.toInt64) + (1 : Int64))), .second, .unset, .unset, .unset, .unset, .unset, .unset] [(.long it), (.long ((rc.toInt64) + (1 : Int64)))])) _
            refine XS.lmul X66.here hx rfl (hb hby at_125) rfl ?_
            show Steps p.tables e below (T66.setTop (mkF m 126 #[.val (.long q0), .second, iv p1, iv p2, .val (.long q3), .second, iv p3, .val (.long it), .second, iv rc, iv 0, iv 1, rv wm, rv b64, iv 0, .val (.long ((rc.toInt64) + (1 : Int64))), .second, .unset, .unset, .unset, .unset, .unset, .unset] [(.long (((rc.toInt64) + (1 : Int64)) * it))])) _
            refine XS.lstore X66.here hx rfl (hb hby at_126) rfl (l' := #[.val (.long q0), .second, iv p1, iv p2, .val (.long q3), .second, iv p3, .val (.long it), .second, iv rc, iv 0, iv 1, rv wm, rv b64, iv 0, .val (.long ((rc.toInt64) + (1 : Int64))), .second, .unset, .unset, .val (.long (((rc.toInt64) + (1 : Int64)) * it)), .second, .unset, .unset]) rfl ?_
            show Steps p.tables e below (T66.setTop (mkF m 128 #[.val (.long q0), .second, iv p1, iv p2, .val (.long q3), .second, iv p3, .val (.long it), .second, iv rc, iv 0, iv 1, rv wm, rv b64, iv 0, .val (.long ((rc.toInt64) + (1 : Int64))), .second, .unset, .unset, .val (.long (((rc.toInt64) + (1 : Int64)) * it)), .second, .unset, .unset] [])) _
            refine XS.lload X66.here hx rfl (hb hby at_128) rfl ?_
            show Steps p.tables e below (T66.setTop (mkF m 130 #[.val (.long q0), .second, iv p1, iv p2, .val (.long q3), .second, iv p3, .val (.long it), .second, iv rc, iv 0, iv 1, rv wm, rv b64, iv 0, .val (.long ((rc.toInt64) + (1 : Int64))), .second, .unset, .unset, .val (.long (((rc.toInt64) + (1 : Int64)) * it)), .second, .unset, .unset] [(.long (((rc.toInt64) + (1 : Int64)) * it))])) _
            refine XS.lload X66.here hx rfl (hb hby at_130) rfl ?_
            show Steps p.tables e below (T66.setTop (mkF m 132 #[.val (.long q0), .second, iv p1, iv p2, .val (.long q3), .second, iv p3, .val (.long it), .second, iv rc, iv 0, iv 1, rv wm, rv b64, iv 0, .val (.long ((rc.toInt64) + (1 : Int64))), .second, .unset, .unset, .val (.long (((rc.toInt64) + (1 : Int64)) * it)), .second, .unset, .unset] [(.long it), (.long (((rc.toInt64) + (1 : Int64)) * it))])) _
            refine XS.ldiv X66.here hx rfl (hb hby at_132) rfl (own_p2 hp1) ?_
            show Steps p.tables e below (T66.setTop (mkF m 133 #[.val (.long q0), .second, iv p1, iv p2, .val (.long q3), .second, iv p3, .val (.long it), .second, iv rc, iv 0, iv 1, rv wm, rv b64, iv 0, .val (.long ((rc.toInt64) + (1 : Int64))), .second, .unset, .unset, .val (.long (((rc.toInt64) + (1 : Int64)) * it)), .second, .unset, .unset] [(.long ((((rc.toInt64) + (1 : Int64)) * it) / it))])) _
            refine XS.lload X66.here hx rfl (hb hby at_133) rfl ?_
            show Steps p.tables e below (T66.setTop (mkF m 135 #[.val (.long q0), .second, iv p1, iv p2, .val (.long q3), .second, iv p3, .val (.long it), .second, iv rc, iv 0, iv 1, rv wm, rv b64, iv 0, .val (.long ((rc.toInt64) + (1 : Int64))), .second, .unset, .unset, .val (.long (((rc.toInt64) + (1 : Int64)) * it)), .second, .unset, .unset] [(.long ((rc.toInt64) + (1 : Int64))), (.long ((((rc.toInt64) + (1 : Int64)) * it) / it))])) _
            refine XS.lcmp X66.here hx rfl (hb hby at_135) rfl ?_
            show Steps p.tables e below (T66.setTop (mkF m 136 #[.val (.long q0), .second, iv p1, iv p2, .val (.long q3), .second, iv p3, .val (.long it), .second, iv rc, iv 0, iv 1, rv wm, rv b64, iv 0, .val (.long ((rc.toInt64) + (1 : Int64))), .second, .unset, .unset, .val (.long (((rc.toInt64) + (1 : Int64)) * it)), .second, .unset, .unset] [(.int (lcmpW ((((rc.toInt64) + (1 : Int64)) * it) / it) ((rc.toInt64) + (1 : Int64))))])) _
            refine XS.ifNo X66.here hx rfl (hb hby at_136) rfl ((if0 _ _).trans (feq (fun q => hc69 ((lw_eq _ _).mp q))).1) ?_
            show Steps p.tables e below (T66.setTop (mkF m 139 #[.val (.long q0), .second, iv p1, iv p2, .val (.long q3), .second, iv p3, .val (.long it), .second, iv rc, iv 0, iv 1, rv wm, rv b64, iv 0, .val (.long ((rc.toInt64) + (1 : Int64))), .second, .unset, .unset, .val (.long (((rc.toInt64) + (1 : Int64)) * it)), .second, .unset, .unset] [])) _
            refine X66.ldc2Long hx hown (mvT hZ (hw _ (own_m 0 rfl))) (g := (mkF m 139 #[.val (.long q0), .second, iv p1, iv p2, .val (.long q3), .second, iv p3, .val (.long it), .second, iv rc, iv 0, iv 1, rv wm, rv b64, iv 0, .val (.long ((rc.toInt64) + (1 : Int64))), .second, .unset, .unset, .val (.long (((rc.toInt64) + (1 : Int64)) * it)), .second, .unset, .unset] [])) rfl (hb hby at_139) _ ?_
            show Steps p.tables e below (T66.setTop (mkF m 142 #[.val (.long q0), .second, iv p1, iv p2, .val (.long q3), .second, iv p3, .val (.long it), .second, iv rc, iv 0, iv 1, rv wm, rv b64, iv 0, .val (.long ((rc.toInt64) + (1 : Int64))), .second, .unset, .unset, .val (.long (((rc.toInt64) + (1 : Int64)) * it)), .second, .unset, .unset] [(.long 9223372036854775807)])) _
            refine XS.goto X66.here hx rfl (pc0 := 142) (pc' := 147) rfl (hb hby at_142) (by decide) (by decide) ?_
            show Steps p.tables e below (T66.setTop (mkF m 147 #[.val (.long q0), .second, iv p1, iv p2, .val (.long q3), .second, iv p3, .val (.long it), .second, iv rc, iv 0, iv 1, rv wm, rv b64, iv 0, .val (.long ((rc.toInt64) + (1 : Int64))), .second, .unset, .unset, .val (.long (((rc.toInt64) + (1 : Int64)) * it)), .second, .unset, .unset] [(.long 9223372036854775807)])) _
            refine XS.lstore X66.here hx rfl (hb hby at_147) rfl (l' := #[.val (.long q0), .second, iv p1, iv p2, .val (.long q3), .second, iv p3, .val (.long it), .second, iv rc, iv 0, iv 1, rv wm, rv b64, iv 0, .val (.long ((rc.toInt64) + (1 : Int64))), .second, .val (.long 9223372036854775807), .second, .val (.long (((rc.toInt64) + (1 : Int64)) * it)), .second, .unset, .unset]) rfl ?_
            show Steps p.tables e below (T66.setTop (mkF m 149 #[.val (.long q0), .second, iv p1, iv p2, .val (.long q3), .second, iv p3, .val (.long it), .second, iv rc, iv 0, iv 1, rv wm, rv b64, iv 0, .val (.long ((rc.toInt64) + (1 : Int64))), .second, .val (.long 9223372036854775807), .second, .val (.long (((rc.toInt64) + (1 : Int64)) * it)), .second, .unset, .unset] [])) _
            exact kt
        have htt : tq = tt := hq.trans hj68.symm
        have Ft : Fld Z T66.heap b64 "com/example/vsyncopate/vsyncopate/animation/Timeline" "totalNanos" "J" (.long tt) := htt ▸ Ftq
        obtain ⟨pp, T70, Lj70, hj70, X70, N70, e70, st70⟩ := own_pp1 w_A w_B (.val (.long q0)) (.second) (iv p1) (iv p2) (.val (.long it)) (.second) (iv rc) (iv 0) (iv 1) (rv wm) (rv b64) (iv 0) (.val (.long ((rc.toInt64) + (1 : Int64)))) (.second) (q3) (p3) (tt) ((((rc.toInt64) + (1 : Int64)) * it)) X68 hx hZ hw hby hml hown e68 N68 O67 S_A S_B 
        have pre72 : ∀ t, Steps p.tables e below (T70.setTop (mkF m 276 #[.val (.long q0), .second, iv p1, iv p2, .val (.long q3), .second, iv p3, .val (.long it), .second, iv rc, iv 0, iv 1, rv wm, rv b64, iv 0, .val (.long ((rc.toInt64) + (1 : Int64))), .second, .val (.long tt), .second, .val (.int ((p3 &&& (2147483647 : Int32)) % (7 : Int32))), .val (.long pp), .second, .unset] [(.long 0), (.long pp)])) t → Steps p.tables e below (s₁.setTop (entryFrame m #[(.long q0), (.int p1), (.int p2), (.long q3), (.int p3)] maxLocals)) t := fun t kt => by
          refine pre50 _ ?_
          show Steps p.tables e below (s₁.setTop (mkF m 28 #[.val (.long q0), .second, iv p1, iv p2, .val (.long q3), .second, iv p3, .val (.long it), .second, iv rc, iv 0, .unset, .unset, .unset, .unset, .unset, .unset, .unset, .unset, .unset, .unset, .unset, .unset] [(.int 2), (.int p2)])) _
          refine XS.iand X0.here hx rfl (hb hby at_28) rfl ?_
          show Steps p.tables e below (s₁.setTop (mkF m 29 #[.val (.long q0), .second, iv p1, iv p2, .val (.long q3), .second, iv p3, .val (.long it), .second, iv rc, iv 0, .unset, .unset, .unset, .unset, .unset, .unset, .unset, .unset, .unset, .unset, .unset, .unset] [(.int (p2 &&& (2 : Int32)))])) _
          refine XS.ifNo X0.here hx rfl (hb hby at_29) rfl ((if0 _ _).trans (feq hc49).1) ?_
          show Steps p.tables e below (s₁.setTop (mkF m 32 #[.val (.long q0), .second, iv p1, iv p2, .val (.long q3), .second, iv p3, .val (.long it), .second, iv rc, iv 0, .unset, .unset, .unset, .unset, .unset, .unset, .unset, .unset, .unset, .unset, .unset, .unset] [])) _
          refine XS.iconst X0.here hx rfl (hb hby at_32) ?_
          show Steps p.tables e below (s₁.setTop (mkF m 33 #[.val (.long q0), .second, iv p1, iv p2, .val (.long q3), .second, iv p3, .val (.long it), .second, iv rc, iv 0, .unset, .unset, .unset, .unset, .unset, .unset, .unset, .unset, .unset, .unset, .unset, .unset] [(.int 1)])) _
          refine XS.goto X0.here hx rfl (pc0 := 33) (pc' := 37) rfl (hb hby at_33) (by decide) (by decide) ?_
          show Steps p.tables e below (s₁.setTop (mkF m 37 #[.val (.long q0), .second, iv p1, iv p2, .val (.long q3), .second, iv p3, .val (.long it), .second, iv rc, iv 0, .unset, .unset, .unset, .unset, .unset, .unset, .unset, .unset, .unset, .unset, .unset, .unset] [(.int 1)])) _
          refine XS.istore X0.here hx rfl (hb hby at_37) rfl (l' := #[.val (.long q0), .second, iv p1, iv p2, .val (.long q3), .second, iv p3, .val (.long it), .second, iv rc, iv 0, iv 1, .unset, .unset, .unset, .unset, .unset, .unset, .unset, .unset, .unset, .unset, .unset]) rfl ?_
          show Steps p.tables e below (s₁.setTop (mkF m 39 #[.val (.long q0), .second, iv p1, iv p2, .val (.long q3), .second, iv p3, .val (.long it), .second, iv rc, iv 0, iv 1, .unset, .unset, .unset, .unset, .unset, .unset, .unset, .unset, .unset, .unset, .unset] [])) _
          refine st63 _ ?_
          show Steps p.tables e below (T63.setTop (mkF m 54 #[.val (.long q0), .second, iv p1, iv p2, .val (.long q3), .second, iv p3, .val (.long it), .second, iv rc, iv 0, iv 1, .unset, .unset, .unset, .unset, .unset, .unset, .unset, .unset, .unset, .unset, .unset] [(.ref wm)])) _
          refine XS.astore X63.here hx rfl (hb hby at_54) rfl rfl (l' := #[.val (.long q0), .second, iv p1, iv p2, .val (.long q3), .second, iv p3, .val (.long it), .second, iv rc, iv 0, iv 1, rv wm, .unset, .unset, .unset, .unset, .unset, .unset, .unset, .unset, .unset, .unset]) rfl ?_
          show Steps p.tables e below (T63.setTop (mkF m 56 #[.val (.long q0), .second, iv p1, iv p2, .val (.long q3), .second, iv p3, .val (.long it), .second, iv rc, iv 0, iv 1, rv wm, .unset, .unset, .unset, .unset, .unset, .unset, .unset, .unset, .unset, .unset] [])) _
          refine st64 _ ?_
          show Steps p.tables e below (T64.setTop (mkF m 59 #[.val (.long q0), .second, iv p1, iv p2, .val (.long q3), .second, iv p3, .val (.long it), .second, iv rc, iv 0, iv 1, rv wm, .unset, .unset, .unset, .unset, .unset, .unset, .unset, .unset, .unset, .unset] [(.ref b64)])) _
          refine XS.dup X64.here hx rfl (hb hby at_59) rfl rfl ?_
          show Steps p.tables e below (T64.setTop (mkF m 60 #[.val (.long q0), .second, iv p1, iv p2, .val (.long q3), .second, iv p3, .val (.long it), .second, iv rc, iv 0, iv 1, rv wm, .unset, .unset, .unset, .unset, .unset, .unset, .unset, .unset, .unset, .unset] [(.ref b64), (.ref b64)])) _
          refine XS.lload X64.here hx rfl (hb hby at_60) rfl ?_
          show Steps p.tables e below (T64.setTop (mkF m 62 #[.val (.long q0), .second, iv p1, iv p2, .val (.long q3), .second, iv p3, .val (.long it), .second, iv rc, iv 0, iv 1, rv wm, .unset, .unset, .unset, .unset, .unset, .unset, .unset, .unset, .unset, .unset] [(.long it), (.ref b64), (.ref b64)])) _
          refine XS.iload X64.here hx rfl (hb hby at_62) rfl ?_
          show Steps p.tables e below (T64.setTop (mkF m 64 #[.val (.long q0), .second, iv p1, iv p2, .val (.long q3), .second, iv p3, .val (.long it), .second, iv rc, iv 0, iv 1, rv wm, .unset, .unset, .unset, .unset, .unset, .unset, .unset, .unset, .unset, .unset] [(.int rc), (.long it), (.ref b64), (.ref b64)])) _
          refine XS.iload X64.here hx rfl (hb hby at_64) rfl ?_
          show Steps p.tables e below (T64.setTop (mkF m 66 #[.val (.long q0), .second, iv p1, iv p2, .val (.long q3), .second, iv p3, .val (.long it), .second, iv rc, iv 0, iv 1, rv wm, .unset, .unset, .unset, .unset, .unset, .unset, .unset, .unset, .unset, .unset] [(.int 0), (.int rc), (.long it), (.ref b64), (.ref b64)])) _
          refine XS.aload X64.here hx rfl (hb hby at_66) rfl rfl ?_
          show Steps p.tables e below (T64.setTop (mkF m 68 #[.val (.long q0), .second, iv p1, iv p2, .val (.long q3), .second, iv p3, .val (.long it), .second, iv rc, iv 0, iv 1, rv wm, .unset, .unset, .unset, .unset, .unset, .unset, .unset, .unset, .unset, .unset] [(.ref wm), (.int 0), (.int rc), (.long it), (.ref b64), (.ref b64)])) _
          refine st66.trans ?_
          show Steps p.tables e below (T66.setTop (mkF m 71 #[.val (.long q0), .second, iv p1, iv p2, .val (.long q3), .second, iv p3, .val (.long it), .second, iv rc, iv 0, iv 1, rv wm, .unset, .unset, .unset, .unset, .unset, .unset, .unset, .unset, .unset, .unset] [(.ref b64)])) _
          refine XS.astore X66.here hx rfl (hb hby at_71) rfl rfl (l' := #[.val (.long q0), .second, iv p1, iv p2, .val (.long q3), .second, iv p3, .val (.long it), .second, iv rc, iv 0, iv 1, rv wm, rv b64, .unset, .unset, .unset, .unset, .unset, .unset, .unset, .unset, .unset]) rfl ?_
          show Steps p.tables e below (T66.setTop (mkF m 73 #[.val (.long q0), .second, iv p1, iv p2, .val (.long q3), .second, iv p3, .val (.long it), .second, iv rc, iv 0, iv 1, rv wm, rv b64, .unset, .unset, .unset, .unset, .unset, .unset, .unset, .unset, .unset] [])) _
          refine XS.iload X66.here hx rfl (hb hby at_73) rfl ?_
          show Steps p.tables e below (T66.setTop (mkF m 75 #[.val (.long q0), .second, iv p1, iv p2, .val (.long q3), .second, iv p3, .val (.long it), .second, iv rc, iv 0, iv 1, rv wm, rv b64, .unset, .unset, .unset, .unset, .unset, .unset, .unset, .unset, .unset] [(.int 0)])) _
          refine XS.ifYes X66.here hx rfl (pc0 := 75) (pc' := 89) rfl (hb hby at_75) rfl ((if0 _ _).trans (teq (by decide)).1) (by decide) (by decide) ?_
          show Steps p.tables e below (T66.setTop (mkF m 89 #[.val (.long q0), .second, iv p1, iv p2, .val (.long q3), .second, iv p3, .val (.long it), .second, iv rc, iv 0, iv 1, rv wm, rv b64, .unset, .unset, .unset, .unset, .unset, .unset, .unset, .unset, .unset] [])) _
          refine XS.iconst X66.here hx rfl (hb hby at_89) ?_
          show Steps p.tables e below (T66.setTop (mkF m 90 #[.val (.long q0), .second, iv p1, iv p2, .val (.long q3), .second, iv p3, .val (.long it), .second, iv rc, iv 0, iv 1, rv wm, rv b64, .unset, .unset, .unset, .unset, .unset, .unset, .unset, .unset, .unset] [(.int 0)])) _
          refine XS.istore X66.here hx rfl (hb hby at_90) rfl (l' := #[.val (.long q0), .second, iv p1, iv p2, .val (.long q3), .second, iv p3, .val (.long it), .second, iv rc, iv 0, iv 1, rv wm, rv b64, iv 0, .unset, .unset, .unset, .unset, .unset, .unset, .unset, .unset]) rfl ?_
          show Steps p.tables e below (T66.setTop (mkF m 92 #[.val (.long q0), .second, iv p1, iv p2, .val (.long q3), .second, iv p3, .val (.long it), .second, iv rc, iv 0, iv 1, rv wm, rv b64, iv 0, .unset, .unset, .unset, .unset, .unset, .unset, .unset, .unset] [])) _
          refine XS.iload X66.here hx rfl (hb hby at_92) rfl ?_
          show Steps p.tables e below (T66.setTop (mkF m 94 #[.val (.long q0), .second, iv p1, iv p2, .val (.long q3), .second, iv p3, .val (.long it), .second, iv rc, iv 0, iv 1, rv wm, rv b64, iv 0, .unset, .unset, .unset, .unset, .unset, .unset, .unset, .unset] [(.int 0)])) _
          refine XS.ifYes X66.here hx rfl (pc0 := 94) (pc' := 101) rfl (hb hby at_94) rfl ((if0 _ _).trans (teq (by decide)).1) (by decide) (by decide) ?_
          show Steps p.tables e below (T66.setTop (mkF m 101 #[.val (.long q0), .second, iv p1, iv p2, .val (.long q3), .second, iv p3, .val (.long it), .second, iv rc, iv 0, iv 1, rv wm, rv b64, iv 0, .unset, .unset, .unset, .unset, .unset, .unset, .unset, .unset] [])) _
          refine XS.iload X66.here hx rfl (hb hby at_101) rfl ?_
          show Steps p.tables e below (T66.setTop (mkF m 103 #[.val (.long q0), .second, iv p1, iv p2, .val (.long q3), .second, iv p3, .val (.long it), .second, iv rc, iv 0, iv 1, rv wm, rv b64, iv 0, .unset, .unset, .unset, .unset, .unset, .unset, .unset, .unset] [(.int rc)])) _
          refine XS.i2l X66.here hx rfl (hb hby at_103) rfl ?_
          show Steps p.tables e below (T66.setTop (mkF m 104 #[.val (.long q0), .second, iv p1, iv p2, .val (.long q3), .second, iv p3, .val (.long it), .second, iv rc, iv 0, iv 1, rv wm, rv b64, iv 0, .unset, .unset, .unset, .unset, .unset, .unset, .unset, .unset] [(.long (rc.toInt64))])) _
          refine XS.lconst X66.here hx rfl (hb hby at_104) ?_
          show Steps p.tables e below (T66.setTop (mkF m 105 #[.val (.long q0), .second, iv p1, iv p2, .val (.long q3), .second, iv p3, .val (.long it), .second, iv rc, iv 0, iv 1, rv wm, rv b64, iv 0, .unset, .unset, .unset, .unset, .unset, .unset, .unset, .unset] [(.long 1), (.long (rc.toInt64))])) _
          refine XS.ladd X66.here hx rfl (hb hby at_105) rfl ?_
          show Steps p.tables e below (T66.setTop (mkF m 106 #[.val (.long q0), .second, iv p1, iv p2, .val (.long q3), .second, iv p3, .val (.long it), .second, iv rc, iv 0, iv 1, rv wm, rv b64, iv 0, .unset, .unset, .unset, .unset, .unset, .unset, .unset, .unset] [(.long ((rc.toInt64) + (1 : Int64)))])) _
          refine XS.lstore X66.here hx rfl (hb hby at_106) rfl (l' := #[.val (.long q0), .second, iv p1, iv p2, .val (.long q3), .second, iv p3, .val (.long it), .second, iv rc, iv 0, iv 1, rv wm, rv b64, iv 0, .val (.long ((rc.toInt64) + (1 : Int64))), .second, .unset, .unset, .unset, .unset, .unset, .unset]) rfl ?_
          show Steps p.tables e below (T66.setTop (mkF m 108 #[.val (.long q0), .second, iv p1, iv p2, .val (.long q3), .second, iv p3, .val (.long it), .second, iv rc, iv 0, iv 1, rv wm, rv b64, iv 0, .val (.long ((rc.toInt64) + (1 : Int64))), .second, .unset, .unset, .unset, .unset, .unset, .unset] [])) _
          refine XS.lload X66.here hx rfl (hb hby at_108) rfl ?_
          show Steps p.tables e below (T66.setTop (mkF m 110 #[.val (.long q0), .second, iv p1, iv p2, .val (.long q3), .second, iv p3, .val (.long it), .second, iv rc, iv 0, iv 1, rv wm, rv b64, iv 0, .val (.long ((rc.toInt64) + (1 : Int64))), .second, .unset, .unset, .unset, .unset, .unset, .unset] [(.long it)])) _
          refine XS.lconst X66.here hx rfl (hb hby at_110) ?_
          show Steps p.tables e below (T66.setTop (mkF m 111 #[.val (.long q0), .second, iv p1, iv p2, .val (.long q3), .second, iv p3, .val (.long it), .second, iv rc, iv 0, iv 1, rv wm, rv b64, iv 0, .val (.long ((rc.toInt64) + (1 : Int64))), .second, .unset, .unset, .unset, .unset, .unset, .unset] [(.long 0), (.long it)])) _
          refine XS.lcmp X66.here hx rfl (hb hby at_111) rfl ?_
          show Steps p.tables e below (T66.setTop (mkF m 112 #[.val (.long q0), .second, iv p1, iv p2, .val (.long q3), .second, iv p3, .val (.long it), .second, iv rc, iv 0, iv 1, rv wm, rv b64, iv 0, .val (.long ((rc.toInt64) + (1 : Int64))), .second, .unset, .unset, .unset, .unset, .unset, .unset] [(.int (lcmpW it (0 : Int64)))])) _
          refine XS.ifYes X66.here hx rfl (pc0 := 112) (pc' := 121) rfl (hb hby at_112) rfl ((if0 _ _).trans (feq (fun q => (own_p2 hp1) ((lw_eq _ _).mp q))).2) (by decide) (by decide) ?_
          show Steps p.tables e below (T66.setTop (mkF m 121 #[.val (.long q0), .second, iv p1, iv p2, .val (.long q3), .second, iv p3, .val (.long it), .second, iv rc, iv 0, iv 1, rv wm, rv b64, iv 0, .val (.long ((rc.toInt64) + (1 : Int64))), .second, .unset, .unset, .unset, .unset, .unset, .unset] [])) _
          refine st68 _ ?_
          show Steps p.tables e below (T68.setTop (mkF m 149 #[.val (.long q0), .second, iv p1, iv p2, .val (.long q3), .second, iv p3, .val (.long it), .second, iv rc, iv 0, iv 1, rv wm, rv b64, iv 0, .val (.long ((rc.toInt64) + (1 : Int64))), .second, .val (.long tt), .second, .val (.long (((rc.toInt64) + (1 : Int64)) * it)), .second, .unset, .unset] [])) _
          refine st70 _ ?_
          show Steps p.tables e below (T70.setTop (mkF m 257 #[.val (.long q0), .second, iv p1, iv p2, .val (.long q3), .second, iv p3, .val (.long it), .second, iv rc, iv 0, iv 1, rv wm, rv b64, iv 0, .val (.long ((rc.toInt64) + (1 : Int64))), .second, .val (.long tt), .second, .val (.int ((p3 &&& (2147483647 : Int32)) % (7 : Int32))), .val (.long pp), .second, .unset] [])) _
          refine XS.iload X70.here hx rfl (hb hby at_257) rfl ?_
          show Steps p.tables e below (T70.setTop (mkF m 259 #[.val (.long q0), .second, iv p1, iv p2, .val (.long q3), .second, iv p3, .val (.long it), .second, iv rc, iv 0, iv 1, rv wm, rv b64, iv 0, .val (.long ((rc.toInt64) + (1 : Int64))), .second, .val (.long tt), .second, .val (.int ((p3 &&& (2147483647 : Int32)) % (7 : Int32))), .val (.long pp), .second, .unset] [(.int 0)])) _
          refine XS.ifYes X70.here hx rfl (pc0 := 259) (pc' := 268) rfl (hb hby at_259) rfl ((if0 _ _).trans (teq (by decide)).1) (by decide) (by decide) ?_
          show Steps p.tables e below (T70.setTop (mkF m 268 #[.val (.long q0), .second, iv p1, iv p2, .val (.long q3), .second, iv p3, .val (.long it), .second, iv rc, iv 0, iv 1, rv wm, rv b64, iv 0, .val (.long ((rc.toInt64) + (1 : Int64))), .second, .val (.long tt), .second, .val (.int ((p3 &&& (2147483647 : Int32)) % (7 : Int32))), .val (.long pp), .second, .unset] [])) _
          refine XS.iload X70.here hx rfl (hb hby at_268) rfl ?_
          show Steps p.tables e below (T70.setTop (mkF m 270 #[.val (.long q0), .second, iv p1, iv p2, .val (.long q3), .second, iv p3, .val (.long it), .second, iv rc, iv 0, iv 1, rv wm, rv b64, iv 0, .val (.long ((rc.toInt64) + (1 : Int64))), .second, .val (.long tt), .second, .val (.int ((p3 &&& (2147483647 : Int32)) % (7 : Int32))), .val (.long pp), .second, .unset] [(.int 1)])) _
          refine XS.ifNo X70.here hx rfl (hb hby at_270) rfl ((if0 _ _).trans (feq (by decide)).1) ?_
          show Steps p.tables e below (T70.setTop (mkF m 273 #[.val (.long q0), .second, iv p1, iv p2, .val (.long q3), .second, iv p3, .val (.long it), .second, iv rc, iv 0, iv 1, rv wm, rv b64, iv 0, .val (.long ((rc.toInt64) + (1 : Int64))), .second, .val (.long tt), .second, .val (.int ((p3 &&& (2147483647 : Int32)) % (7 : Int32))), .val (.long pp), .second, .unset] [])) _
          refine XS.lload X70.here hx rfl (hb hby at_273) rfl ?_
          show Steps p.tables e below (T70.setTop (mkF m 275 #[.val (.long q0), .second, iv p1, iv p2, .val (.long q3), .second, iv p3, .val (.long it), .second, iv rc, iv 0, iv 1, rv wm, rv b64, iv 0, .val (.long ((rc.toInt64) + (1 : Int64))), .second, .val (.long tt), .second, .val (.int ((p3 &&& (2147483647 : Int32)) % (7 : Int32))), .val (.long pp), .second, .unset] [(.long pp)])) _
          refine XS.lconst X70.here hx rfl (hb hby at_275) ?_
          show Steps p.tables e below (T70.setTop (mkF m 276 #[.val (.long q0), .second, iv p1, iv p2, .val (.long q3), .second, iv p3, .val (.long it), .second, iv rc, iv 0, iv 1, rv wm, rv b64, iv 0, .val (.long ((rc.toInt64) + (1 : Int64))), .second, .val (.long tt), .second, .val (.int ((p3 &&& (2147483647 : Int32)) % (7 : Int32))), .val (.long pp), .second, .unset] [(.long 0), (.long pp)])) _
          exact kt
        by_cases hc71 : (0 : Int64) < pp
        · obtain ⟨cq73, kq73, q73a, q73b, q73c⟩ := isOf hZ e70 Eq
          obtain ⟨_, _, ⟨T73, L73, k73, n73⟩, -, X73, ⟨Lc73, hQ73, l73, y73, z73⟩, st73⟩ := X70.virtualBack hx (y := (⟨"com/example/vsyncopate/vsyncopate/animation/Timeline", "isOver", "(JZ)Z"⟩ : MethodName)) (z := (⟨"com/example/vsyncopate/vsyncopate/animation/Timeline", "isOver", "(JZ)Z"⟩ : MethodName)) hown (mvT hZ (hw _ (own_m 29 rfl))) (mvT hZ (hw _ (own_m 30 rfl))) (notFace_of_selects (args := #[]) (mvT hZ (hw _ (own_m 32 rfl)))) (mvT hZ (hw _ (own_m 32 rfl))) (mvT hZ (hw _ (own_m 31 rfl))) (by decide) (backOf (W := 0) (own_ovR0 l Z a0 hw [] w_A w_B b64 pp tt T66.heap n0 O67 S_A S_B Fe Ft hc71) hZ (hw _ (own_m 33 rfl)) (hw _ (own_m 7 rfl)) (by decide) (by decide)) q73a q73c (g := (mkF m 311 #[.val (.long q0), .second, iv p1, iv p2, .val (.long q3), .second, iv p3, .val (.long it), .second, iv rc, iv 0, iv 1, rv wm, rv b64, iv 0, .val (.long ((rc.toInt64) + (1 : Int64))), .second, .val (.long tt), .second, .val (.int ((p3 &&& (2147483647 : Int32)) % (7 : Int32))), .val (.long pp), .second, iv 0] [(.int 1), (.long pp), (.ref b64)])) rfl (by rw [hml]; rfl) (Steps.refl _) (argsL := [(.long pp), (.int 1)]) (rest := []) (lenOf own_pd2 rfl) rfl (by show 2 * 0 + _ ≤ _; exact Nat.le_of_eq rfl) (hb hby at_311) (fun _ _ => ⟨rfl, e70, (by decide : 1 + 0 ≤ _), (by decide : 5 + 0 ≤ _)⟩)
          dsimp only [Pt.U, Pt.locs, Pt.cells, Pt.slots] at X73 l73 y73 z73 st73 hQ73
          subst l73 y73 z73
          obtain ⟨rfl, N73q, e73⟩ := hQ73
          have N73 := Fr.app N70 N73q
          obtain ⟨fs, hr, hrun, hended, hW, hsame⟩ := X73.leave (v := some (.int 1)) (fun h => by rw [Bd.returns] at h; cases h)
          refine ⟨_, _, pre72 _ ?_, hrun, hended, _, _, rfl, ?_, ⟨_, rfl⟩, hW, hsame.mono (by decide) (by decide)⟩
          · show Steps p.tables e below (T70.setTop (mkF m 276 #[.val (.long q0), .second, iv p1, iv p2, .val (.long q3), .second, iv p3, .val (.long it), .second, iv rc, iv 0, iv 1, rv wm, rv b64, iv 0, .val (.long ((rc.toInt64) + (1 : Int64))), .second, .val (.long tt), .second, .val (.int ((p3 &&& (2147483647 : Int32)) % (7 : Int32))), .val (.long pp), .second, .unset] [(.long 0), (.long pp)])) _
            refine XS.lcmp X70.here hx rfl (hb hby at_276) rfl ?_
            show Steps p.tables e below (T70.setTop (mkF m 277 #[.val (.long q0), .second, iv p1, iv p2, .val (.long q3), .second, iv p3, .val (.long it), .second, iv rc, iv 0, iv 1, rv wm, rv b64, iv 0, .val (.long ((rc.toInt64) + (1 : Int64))), .second, .val (.long tt), .second, .val (.int ((p3 &&& (2147483647 : Int32)) % (7 : Int32))), .val (.long pp), .second, .unset] [(.int (lcmpW pp (0 : Int64)))])) _
            refine XS.ifYes X70.here hx rfl (pc0 := 277) (pc' := 284) rfl (hb hby at_277) rfl ((if0 _ _).trans (tlt ((lw_gt _ _).mpr hc71)).2.2.1) (by decide) (by decide) ?_
            show Steps p.tables e below (T70.setTop (mkF m 284 #[.val (.long q0), .second, iv p1, iv p2, .val (.long q3), .second, iv p3, .val (.long it), .second, iv rc, iv 0, iv 1, rv wm, rv b64, iv 0, .val (.long ((rc.toInt64) + (1 : Int64))), .second, .val (.long tt), .second, .val (.int ((p3 &&& (2147483647 : Int32)) % (7 : Int32))), .val (.long pp), .second, .unset] [])) _
            refine XS.iconst X70.here hx rfl (hb hby at_284) ?_
            show Steps p.tables e below (T70.setTop (mkF m 285 #[.val (.long q0), .second, iv p1, iv p2, .val (.long q3), .second, iv p3, .val (.long it), .second, iv rc, iv 0, iv 1, rv wm, rv b64, iv 0, .val (.long ((rc.toInt64) + (1 : Int64))), .second, .val (.long tt), .second, .val (.int ((p3 &&& (2147483647 : Int32)) % (7 : Int32))), .val (.long pp), .second, .unset] [(.int 0)])) _
            refine XS.istore X70.here hx rfl (hb hby at_285) rfl (l' := #[.val (.long q0), .second, iv p1, iv p2, .val (.long q3), .second, iv p3, .val (.long it), .second, iv rc, iv 0, iv 1, rv wm, rv b64, iv 0, .val (.long ((rc.toInt64) + (1 : Int64))), .second, .val (.long tt), .second, .val (.int ((p3 &&& (2147483647 : Int32)) % (7 : Int32))), .val (.long pp), .second, iv 0]) rfl ?_
            show Steps p.tables e below (T70.setTop (mkF m 287 #[.val (.long q0), .second, iv p1, iv p2, .val (.long q3), .second, iv p3, .val (.long it), .second, iv rc, iv 0, iv 1, rv wm, rv b64, iv 0, .val (.long ((rc.toInt64) + (1 : Int64))), .second, .val (.long tt), .second, .val (.int ((p3 &&& (2147483647 : Int32)) % (7 : Int32))), .val (.long pp), .second, iv 0] [])) _
            refine XS.goto X70.here hx rfl (pc0 := 287) (pc' := 305) rfl (hb hby at_287) (by decide) (by decide) ?_
            show Steps p.tables e below (T70.setTop (mkF m 305 #[.val (.long q0), .second, iv p1, iv p2, .val (.long q3), .second, iv p3, .val (.long it), .second, iv rc, iv 0, iv 1, rv wm, rv b64, iv 0, .val (.long ((rc.toInt64) + (1 : Int64))), .second, .val (.long tt), .second, .val (.int ((p3 &&& (2147483647 : Int32)) % (7 : Int32))), .val (.long pp), .second, iv 0] [])) _
            refine XS.aload X70.here hx rfl (hb hby at_305) rfl rfl ?_
            show Steps p.tables e below (T70.setTop (mkF m 307 #[.val (.long q0), .second, iv p1, iv p2, .val (.long q3), .second, iv p3, .val (.long it), .second, iv rc, iv 0, iv 1, rv wm, rv b64, iv 0, .val (.long ((rc.toInt64) + (1 : Int64))), .second, .val (.long tt), .second, .val (.int ((p3 &&& (2147483647 : Int32)) % (7 : Int32))), .val (.long pp), .second, iv 0] [(.ref b64)])) _
            refine XS.lload X70.here hx rfl (hb hby at_307) rfl ?_
            show Steps p.tables e below (T70.setTop (mkF m 309 #[.val (.long q0), .second, iv p1, iv p2, .val (.long q3), .second, iv p3, .val (.long it), .second, iv rc, iv 0, iv 1, rv wm, rv b64, iv 0, .val (.long ((rc.toInt64) + (1 : Int64))), .second, .val (.long tt), .second, .val (.int ((p3 &&& (2147483647 : Int32)) % (7 : Int32))), .val (.long pp), .second, iv 0] [(.long pp), (.ref b64)])) _
            refine XS.iload X70.here hx rfl (hb hby at_309) rfl ?_
            show Steps p.tables e below (T70.setTop (mkF m 311 #[.val (.long q0), .second, iv p1, iv p2, .val (.long q3), .second, iv p3, .val (.long it), .second, iv rc, iv 0, iv 1, rv wm, rv b64, iv 0, .val (.long ((rc.toInt64) + (1 : Int64))), .second, .val (.long tt), .second, .val (.int ((p3 &&& (2147483647 : Int32)) % (7 : Int32))), .val (.long pp), .second, iv 0] [(.int 1), (.long pp), (.ref b64)])) _
            refine st73.trans ?_
            show Steps p.tables e below (T73.setTop (mkF m 314 #[.val (.long q0), .second, iv p1, iv p2, .val (.long q3), .second, iv p3, .val (.long it), .second, iv rc, iv 0, iv 1, rv wm, rv b64, iv 0, .val (.long ((rc.toInt64) + (1 : Int64))), .second, .val (.long tt), .second, .val (.int ((p3 &&& (2147483647 : Int32)) % (7 : Int32))), .val (.long pp), .second, iv 0] [(.int 0)])) _
            refine XS.iload X73.here hx rfl (hb hby at_314) rfl ?_
            show Steps p.tables e below (T73.setTop (mkF m 316 #[.val (.long q0), .second, iv p1, iv p2, .val (.long q3), .second, iv p3, .val (.long it), .second, iv rc, iv 0, iv 1, rv wm, rv b64, iv 0, .val (.long ((rc.toInt64) + (1 : Int64))), .second, .val (.long tt), .second, .val (.int ((p3 &&& (2147483647 : Int32)) % (7 : Int32))), .val (.long pp), .second, iv 0] [(.int 0), (.int 0)])) _
            refine XS.icmpNo X73.here hx rfl (hb hby at_316) rfl (teq (by decide)).2 ?_
            show Steps p.tables e below (T73.setTop (mkF m 319 #[.val (.long q0), .second, iv p1, iv p2, .val (.long q3), .second, iv p3, .val (.long it), .second, iv rc, iv 0, iv 1, rv wm, rv b64, iv 0, .val (.long ((rc.toInt64) + (1 : Int64))), .second, .val (.long tt), .second, .val (.int ((p3 &&& (2147483647 : Int32)) % (7 : Int32))), .val (.long pp), .second, iv 0] [])) _
            refine XS.iconst X73.here hx rfl (hb hby at_319) ?_
            show Steps p.tables e below (T73.setTop (mkF m 320 #[.val (.long q0), .second, iv p1, iv p2, .val (.long q3), .second, iv p3, .val (.long it), .second, iv rc, iv 0, iv 1, rv wm, rv b64, iv 0, .val (.long ((rc.toInt64) + (1 : Int64))), .second, .val (.long tt), .second, .val (.int ((p3 &&& (2147483647 : Int32)) % (7 : Int32))), .val (.long pp), .second, iv 0] [(.int 1)])) _
            refine XS.goto X73.here hx rfl (pc0 := 320) (pc' := 324) rfl (hb hby at_320) (by decide) (by decide) ?_
            show Steps p.tables e below (T73.setTop (mkF m 324 #[.val (.long q0), .second, iv p1, iv p2, .val (.long q3), .second, iv p3, .val (.long it), .second, iv rc, iv 0, iv 1, rv wm, rv b64, iv 0, .val (.long ((rc.toInt64) + (1 : Int64))), .second, .val (.long tt), .second, .val (.int ((p3 &&& (2147483647 : Int32)) % (7 : Int32))), .val (.long pp), .second, iv 0] [(.int 1)])) _
            exact retN X73 hx (t := .boolean) Bd.returns (by simp) (hb hby at_324) hr
          · show own_law_Q Z w_A w_B q0 p1 p2 q3 p3 h0 n0 _ T73.heap _
            rw [e73]
            exact ⟨rfl, N73⟩
        · obtain ⟨cq74, kq74, q74a, q74b, q74c⟩ := isOf hZ e70 Eq
          obtain ⟨_, _, ⟨T74, L74, k74, n74⟩, -, X74, ⟨Lc74, hQ74, l74, y74, z74⟩, st74⟩ := X70.virtualBack hx (y := (⟨"com/example/vsyncopate/vsyncopate/animation/Timeline", "isOver", "(JZ)Z"⟩ : MethodName)) (z := (⟨"com/example/vsyncopate/vsyncopate/animation/Timeline", "isOver", "(JZ)Z"⟩ : MethodName)) hown (mvT hZ (hw _ (own_m 29 rfl))) (mvT hZ (hw _ (own_m 30 rfl))) (notFace_of_selects (args := #[]) (mvT hZ (hw _ (own_m 32 rfl)))) (mvT hZ (hw _ (own_m 32 rfl))) (mvT hZ (hw _ (own_m 31 rfl))) (by decide) (backOf (W := 0) (own_ovR1 l Z a0 hw [] w_A w_B b64 pp tt T66.heap n0 O67 S_A S_B Fe Ft hc71) hZ (hw _ (own_m 33 rfl)) (hw _ (own_m 7 rfl)) (by decide) (by decide)) q74a q74c (g := (mkF m 311 #[.val (.long q0), .second, iv p1, iv p2, .val (.long q3), .second, iv p3, .val (.long it), .second, iv rc, iv 0, iv 1, rv wm, rv b64, iv 0, .val (.long ((rc.toInt64) + (1 : Int64))), .second, .val (.long tt), .second, .val (.int ((p3 &&& (2147483647 : Int32)) % (7 : Int32))), .val (.long pp), .second, iv 1] [(.int 1), (.long pp), (.ref b64)])) rfl (by rw [hml]; rfl) (Steps.refl _) (argsL := [(.long pp), (.int 1)]) (rest := []) (lenOf own_pd2 rfl) rfl (by show 2 * 0 + _ ≤ _; exact Nat.le_of_eq rfl) (hb hby at_311) (fun _ _ => ⟨rfl, e70, (by decide : 1 + 0 ≤ _), (by decide : 5 + 0 ≤ _)⟩)
          dsimp only [Pt.U, Pt.locs, Pt.cells, Pt.slots] at X74 l74 y74 z74 st74 hQ74
          subst l74 y74 z74
          obtain ⟨rfl, N74q, e74⟩ := hQ74
          have N74 := Fr.app N70 N74q
          obtain ⟨fs, hr, hrun, hended, hW, hsame⟩ := X74.leave (v := some (.int 1)) (fun h => by rw [Bd.returns] at h; cases h)
          refine ⟨_, _, pre72 _ ?_, hrun, hended, _, _, rfl, ?_, ⟨_, rfl⟩, hW, hsame.mono (by decide) (by decide)⟩
          · show Steps p.tables e below (T70.setTop (mkF m 276 #[.val (.long q0), .second, iv p1, iv p2, .val (.long q3), .second, iv p3, .val (.long it), .second, iv rc, iv 0, iv 1, rv wm, rv b64, iv 0, .val (.long ((rc.toInt64) + (1 : Int64))), .second, .val (.long tt), .second, .val (.int ((p3 &&& (2147483647 : Int32)) % (7 : Int32))), .val (.long pp), .second, .unset] [(.long 0), (.long pp)])) _
            refine XS.lcmp X70.here hx rfl (hb hby at_276) rfl ?_
            show Steps p.tables e below (T70.setTop (mkF m 277 #[.val (.long q0), .second, iv p1, iv p2, .val (.long q3), .second, iv p3, .val (.long it), .second, iv rc, iv 0, iv 1, rv wm, rv b64, iv 0, .val (.long ((rc.toInt64) + (1 : Int64))), .second, .val (.long tt), .second, .val (.int ((p3 &&& (2147483647 : Int32)) % (7 : Int32))), .val (.long pp), .second, .unset] [(.int (lcmpW pp (0 : Int64)))])) _
            refine XS.ifNo X70.here hx rfl (hb hby at_277) rfl ((if0 _ _).trans (flt (fun q => hc71 ((lw_gt _ _).mp q))).2.2.1) ?_
            show Steps p.tables e below (T70.setTop (mkF m 280 #[.val (.long q0), .second, iv p1, iv p2, .val (.long q3), .second, iv p3, .val (.long it), .second, iv rc, iv 0, iv 1, rv wm, rv b64, iv 0, .val (.long ((rc.toInt64) + (1 : Int64))), .second, .val (.long tt), .second, .val (.int ((p3 &&& (2147483647 : Int32)) % (7 : Int32))), .val (.long pp), .second, .unset] [])) _
            refine XS.iconst X70.here hx rfl (hb hby at_280) ?_
            show Steps p.tables e below (T70.setTop (mkF m 281 #[.val (.long q0), .second, iv p1, iv p2, .val (.long q3), .second, iv p3, .val (.long it), .second, iv rc, iv 0, iv 1, rv wm, rv b64, iv 0, .val (.long ((rc.toInt64) + (1 : Int64))), .second, .val (.long tt), .second, .val (.int ((p3 &&& (2147483647 : Int32)) % (7 : Int32))), .val (.long pp), .second, .unset] [(.int 1)])) _
            refine XS.goto X70.here hx rfl (pc0 := 281) (pc' := 285) rfl (hb hby at_281) (by decide) (by decide) ?_
            show Steps p.tables e below (T70.setTop (mkF m 285 #[.val (.long q0), .second, iv p1, iv p2, .val (.long q3), .second, iv p3, .val (.long it), .second, iv rc, iv 0, iv 1, rv wm, rv b64, iv 0, .val (.long ((rc.toInt64) + (1 : Int64))), .second, .val (.long tt), .second, .val (.int ((p3 &&& (2147483647 : Int32)) % (7 : Int32))), .val (.long pp), .second, .unset] [(.int 1)])) _
            refine XS.istore X70.here hx rfl (hb hby at_285) rfl (l' := #[.val (.long q0), .second, iv p1, iv p2, .val (.long q3), .second, iv p3, .val (.long it), .second, iv rc, iv 0, iv 1, rv wm, rv b64, iv 0, .val (.long ((rc.toInt64) + (1 : Int64))), .second, .val (.long tt), .second, .val (.int ((p3 &&& (2147483647 : Int32)) % (7 : Int32))), .val (.long pp), .second, iv 1]) rfl ?_
            show Steps p.tables e below (T70.setTop (mkF m 287 #[.val (.long q0), .second, iv p1, iv p2, .val (.long q3), .second, iv p3, .val (.long it), .second, iv rc, iv 0, iv 1, rv wm, rv b64, iv 0, .val (.long ((rc.toInt64) + (1 : Int64))), .second, .val (.long tt), .second, .val (.int ((p3 &&& (2147483647 : Int32)) % (7 : Int32))), .val (.long pp), .second, iv 1] [])) _
            refine XS.goto X70.here hx rfl (pc0 := 287) (pc' := 305) rfl (hb hby at_287) (by decide) (by decide) ?_
            show Steps p.tables e below (T70.setTop (mkF m 305 #[.val (.long q0), .second, iv p1, iv p2, .val (.long q3), .second, iv p3, .val (.long it), .second, iv rc, iv 0, iv 1, rv wm, rv b64, iv 0, .val (.long ((rc.toInt64) + (1 : Int64))), .second, .val (.long tt), .second, .val (.int ((p3 &&& (2147483647 : Int32)) % (7 : Int32))), .val (.long pp), .second, iv 1] [])) _
            refine XS.aload X70.here hx rfl (hb hby at_305) rfl rfl ?_
            show Steps p.tables e below (T70.setTop (mkF m 307 #[.val (.long q0), .second, iv p1, iv p2, .val (.long q3), .second, iv p3, .val (.long it), .second, iv rc, iv 0, iv 1, rv wm, rv b64, iv 0, .val (.long ((rc.toInt64) + (1 : Int64))), .second, .val (.long tt), .second, .val (.int ((p3 &&& (2147483647 : Int32)) % (7 : Int32))), .val (.long pp), .second, iv 1] [(.ref b64)])) _
            refine XS.lload X70.here hx rfl (hb hby at_307) rfl ?_
            show Steps p.tables e below (T70.setTop (mkF m 309 #[.val (.long q0), .second, iv p1, iv p2, .val (.long q3), .second, iv p3, .val (.long it), .second, iv rc, iv 0, iv 1, rv wm, rv b64, iv 0, .val (.long ((rc.toInt64) + (1 : Int64))), .second, .val (.long tt), .second, .val (.int ((p3 &&& (2147483647 : Int32)) % (7 : Int32))), .val (.long pp), .second, iv 1] [(.long pp), (.ref b64)])) _
            refine XS.iload X70.here hx rfl (hb hby at_309) rfl ?_
            show Steps p.tables e below (T70.setTop (mkF m 311 #[.val (.long q0), .second, iv p1, iv p2, .val (.long q3), .second, iv p3, .val (.long it), .second, iv rc, iv 0, iv 1, rv wm, rv b64, iv 0, .val (.long ((rc.toInt64) + (1 : Int64))), .second, .val (.long tt), .second, .val (.int ((p3 &&& (2147483647 : Int32)) % (7 : Int32))), .val (.long pp), .second, iv 1] [(.int 1), (.long pp), (.ref b64)])) _
            refine st74.trans ?_
            show Steps p.tables e below (T74.setTop (mkF m 314 #[.val (.long q0), .second, iv p1, iv p2, .val (.long q3), .second, iv p3, .val (.long it), .second, iv rc, iv 0, iv 1, rv wm, rv b64, iv 0, .val (.long ((rc.toInt64) + (1 : Int64))), .second, .val (.long tt), .second, .val (.int ((p3 &&& (2147483647 : Int32)) % (7 : Int32))), .val (.long pp), .second, iv 1] [(.int 1)])) _
            refine XS.iload X74.here hx rfl (hb hby at_314) rfl ?_
            show Steps p.tables e below (T74.setTop (mkF m 316 #[.val (.long q0), .second, iv p1, iv p2, .val (.long q3), .second, iv p3, .val (.long it), .second, iv rc, iv 0, iv 1, rv wm, rv b64, iv 0, .val (.long ((rc.toInt64) + (1 : Int64))), .second, .val (.long tt), .second, .val (.int ((p3 &&& (2147483647 : Int32)) % (7 : Int32))), .val (.long pp), .second, iv 1] [(.int 1), (.int 1)])) _
            refine XS.icmpNo X74.here hx rfl (hb hby at_316) rfl (teq (by decide)).2 ?_
            show Steps p.tables e below (T74.setTop (mkF m 319 #[.val (.long q0), .second, iv p1, iv p2, .val (.long q3), .second, iv p3, .val (.long it), .second, iv rc, iv 0, iv 1, rv wm, rv b64, iv 0, .val (.long ((rc.toInt64) + (1 : Int64))), .second, .val (.long tt), .second, .val (.int ((p3 &&& (2147483647 : Int32)) % (7 : Int32))), .val (.long pp), .second, iv 1] [])) _
            refine XS.iconst X74.here hx rfl (hb hby at_319) ?_
            show Steps p.tables e below (T74.setTop (mkF m 320 #[.val (.long q0), .second, iv p1, iv p2, .val (.long q3), .second, iv p3, .val (.long it), .second, iv rc, iv 0, iv 1, rv wm, rv b64, iv 0, .val (.long ((rc.toInt64) + (1 : Int64))), .second, .val (.long tt), .second, .val (.int ((p3 &&& (2147483647 : Int32)) % (7 : Int32))), .val (.long pp), .second, iv 1] [(.int 1)])) _
            refine XS.goto X74.here hx rfl (pc0 := 320) (pc' := 324) rfl (hb hby at_320) (by decide) (by decide) ?_
            show Steps p.tables e below (T74.setTop (mkF m 324 #[.val (.long q0), .second, iv p1, iv p2, .val (.long q3), .second, iv p3, .val (.long it), .second, iv rc, iv 0, iv 1, rv wm, rv b64, iv 0, .val (.long ((rc.toInt64) + (1 : Int64))), .second, .val (.long tt), .second, .val (.int ((p3 &&& (2147483647 : Int32)) % (7 : Int32))), .val (.long pp), .second, iv 1] [(.int 1)])) _
            exact retN X74 hx (t := .boolean) Bd.returns (by simp) (hb hby at_324) hr
          · show own_law_Q Z w_A w_B q0 p1 p2 q3 p3 h0 n0 _ T74.heap _
            rw [e74]
            exact ⟨rfl, N74⟩
    · have pre76 : ∀ t, Steps p.tables e below (s₁.setTop (mkF m 28 #[.val (.long q0), .second, iv p1, iv p2, .val (.long q3), .second, iv p3, .val (.long it), .second, iv rc, iv 1, .unset, .unset, .unset, .unset, .unset, .unset, .unset, .unset, .unset, .unset, .unset, .unset] [(.int 2), (.int p2)])) t → Steps p.tables e below (s₁.setTop (entryFrame m #[(.long q0), (.int p1), (.int p2), (.long q3), (.int p3)] maxLocals)) t := fun t kt => by
        refine pre48 _ ?_
        show Steps p.tables e below (s₁.setTop (mkF m 15 #[.val (.long q0), .second, iv p1, iv p2, .val (.long q3), .second, iv p3, .val (.long it), .second, iv rc, .unset, .unset, .unset, .unset, .unset, .unset, .unset, .unset, .unset, .unset, .unset, .unset, .unset] [(.int 1), (.int p2)])) _
        refine XS.iand X0.here hx rfl (hb hby at_15) rfl ?_
        show Steps p.tables e below (s₁.setTop (mkF m 16 #[.val (.long q0), .second, iv p1, iv p2, .val (.long q3), .second, iv p3, .val (.long it), .second, iv rc, .unset, .unset, .unset, .unset, .unset, .unset, .unset, .unset, .unset, .unset, .unset, .unset, .unset] [(.int (p2 &&& (1 : Int32)))])) _
        refine XS.ifNo X0.here hx rfl (hb hby at_16) rfl ((if0 _ _).trans (feq hc47).1) ?_
        show Steps p.tables e below (s₁.setTop (mkF m 19 #[.val (.long q0), .second, iv p1, iv p2, .val (.long q3), .second, iv p3, .val (.long it), .second, iv rc, .unset, .unset, .unset, .unset, .unset, .unset, .unset, .unset, .unset, .unset, .unset, .unset, .unset] [])) _
        refine XS.iconst X0.here hx rfl (hb hby at_19) ?_
        show Steps p.tables e below (s₁.setTop (mkF m 20 #[.val (.long q0), .second, iv p1, iv p2, .val (.long q3), .second, iv p3, .val (.long it), .second, iv rc, .unset, .unset, .unset, .unset, .unset, .unset, .unset, .unset, .unset, .unset, .unset, .unset, .unset] [(.int 1)])) _
        refine XS.goto X0.here hx rfl (pc0 := 20) (pc' := 24) rfl (hb hby at_20) (by decide) (by decide) ?_
        show Steps p.tables e below (s₁.setTop (mkF m 24 #[.val (.long q0), .second, iv p1, iv p2, .val (.long q3), .second, iv p3, .val (.long it), .second, iv rc, .unset, .unset, .unset, .unset, .unset, .unset, .unset, .unset, .unset, .unset, .unset, .unset, .unset] [(.int 1)])) _
        refine XS.istore X0.here hx rfl (hb hby at_24) rfl (l' := #[.val (.long q0), .second, iv p1, iv p2, .val (.long q3), .second, iv p3, .val (.long it), .second, iv rc, iv 1, .unset, .unset, .unset, .unset, .unset, .unset, .unset, .unset, .unset, .unset, .unset, .unset]) rfl ?_
        show Steps p.tables e below (s₁.setTop (mkF m 26 #[.val (.long q0), .second, iv p1, iv p2, .val (.long q3), .second, iv p3, .val (.long it), .second, iv rc, iv 1, .unset, .unset, .unset, .unset, .unset, .unset, .unset, .unset, .unset, .unset, .unset, .unset] [])) _
        refine XS.iloadN X0.here hx rfl (hb hby at_26) rfl ?_
        show Steps p.tables e below (s₁.setTop (mkF m 27 #[.val (.long q0), .second, iv p1, iv p2, .val (.long q3), .second, iv p3, .val (.long it), .second, iv rc, iv 1, .unset, .unset, .unset, .unset, .unset, .unset, .unset, .unset, .unset, .unset, .unset, .unset] [(.int p2)])) _
        refine XS.iconst X0.here hx rfl (hb hby at_27) ?_
        show Steps p.tables e below (s₁.setTop (mkF m 28 #[.val (.long q0), .second, iv p1, iv p2, .val (.long q3), .second, iv p3, .val (.long it), .second, iv rc, iv 1, .unset, .unset, .unset, .unset, .unset, .unset, .unset, .unset, .unset, .unset, .unset, .unset] [(.int 2), (.int p2)])) _
        exact kt
      by_cases hc75 : (p2 &&& (2 : Int32)) = (0 : Int32)
      · obtain ⟨wm, T77, Lj77, hj77, X77, N77, e77, st77⟩ := own_mode w_A w_B (.val (.long q0)) (.second) (iv p1) (.val (.long q3)) (.second) (iv p3) (.val (.long it)) (.second) (iv rc) (iv 1) (iv 0) (.unset) (.unset) (.unset) (.unset) (.unset) (.unset) (.unset) (.unset) (.unset) (.unset) (.unset) (p2) X0 hx hZ hw hby hml hown e0 N0 O0 S_A S_B 
        obtain ⟨T78, h78, X78, e78, E78, A78, D78, -, st78⟩ := newO X77 hx hZ hown (hw _ (own_m 5 rfl)) (hw _ (own_m 6 rfl)) (hw _ (own_m 7 rfl)) e77 (g := (mkF m 56 #[.val (.long q0), .second, iv p1, iv p2, .val (.long q3), .second, iv p3, .val (.long it), .second, iv rc, iv 1, iv 0, rv wm, .unset, .unset, .unset, .unset, .unset, .unset, .unset, .unset, .unset, .unset] [])) rfl (hb hby at_56) (by decide) (by decide)
        obtain ⟨b78, g78⟩ : ∃ z, z = h0.size := ⟨_, rfl⟩
        rw [← g78] at A78 D78 st78
        have gg_b78 : n0 ≤ b78 := g78 ▸ own_le O0
        have O79 := O0.ext E78
        have F_iterationNanos_b78 : Fld Z h78 b78 "com/example/vsyncopate/vsyncopate/animation/Timeline" "iterationNanos" "J" (.long 0) := D78 (Or.inr (hw _ (own_m 15 rfl))) (ty := .long) (by decide)
        have F_mode_b78 : Fld Z h78 b78 "com/example/vsyncopate/vsyncopate/animation/Timeline" "mode" "Lcom/example/vsyncopate/vsyncopate/animation/RepeatMode;" .null := D78 (Or.inr (hw _ (own_m 17 rfl))) (ty := (.object "com/example/vsyncopate/vsyncopate/animation/RepeatMode")) (by decide)
        have F_endless_b78 : Fld Z h78 b78 "com/example/vsyncopate/vsyncopate/animation/Timeline" "endless" "Z" (.int 0) := D78 (Or.inr (hw _ (own_m 19 rfl))) (ty := .boolean) (by decide)
        have F_iterations_b78 : Fld Z h78 b78 "com/example/vsyncopate/vsyncopate/animation/Timeline" "iterations" "J" (.long 0) := D78 (Or.inr (hw _ (own_m 21 rfl))) (ty := .long) (by decide)
        have F_totalNanos_b78 : Fld Z h78 b78 "com/example/vsyncopate/vsyncopate/animation/Timeline" "totalNanos" "J" (.long 0) := D78 (Or.inr (hw _ (own_m 28 rfl))) (ty := .long) (by decide)
        obtain ⟨_, _, ⟨T80, L80, k80, n80⟩, -, X80, ⟨Lc80, hQ80, l80, y80, z80⟩, st80⟩ := X78.specialBack hx (y := (⟨"com/example/vsyncopate/vsyncopate/animation/Timeline", "<init>", "(JIZLcom/example/vsyncopate/vsyncopate/animation/RepeatMode;)V"⟩ : MethodName)) rfl hown (mvT hZ (hw _ (own_m 8 rfl))) (mvT hZ (hw _ (own_m 9 rfl))) (mvT hZ (hw _ (own_m 10 rfl))) (by decide) (backOf (W := 1) (own_mk11 l Z a0 hw [] w_A w_B b78 it rc wm h78 n0 O79 S_A S_B gg_b78 A78 F_iterationNanos_b78 F_mode_b78 F_endless_b78 F_iterations_b78 F_totalNanos_b78 hp1) hZ (hw _ (own_m 10 rfl)) (hw _ (own_m 7 rfl)) (by decide) (by decide)) (g := (mkF m 68 #[.val (.long q0), .second, iv p1, iv p2, .val (.long q3), .second, iv p3, .val (.long it), .second, iv rc, iv 1, iv 0, rv wm, .unset, .unset, .unset, .unset, .unset, .unset, .unset, .unset, .unset, .unset] [(.ref wm), (.int 1), (.int rc), (.long it), (.ref b78), (.ref b78)])) rfl (by rw [hml]; rfl) (Steps.refl _) (a := b78) (argsL := [(.long it), (.int rc), (.int 1), (.ref wm)]) (rest := [(.ref b78)]) (lenOf own_pd1 rfl) rfl (by show 2 * 0 + _ ≤ _; exact Nat.le_of_eq rfl) (hb hby at_68) (fun _ _ => ⟨rfl, e78, (by decide : 1 + 0 ≤ _), (by decide : 5 + 0 ≤ _)⟩)
        dsimp only [Pt.U, Pt.locs, Pt.cells, Pt.slots] at X80 l80 y80 z80 st80 hQ80
        subst l80 y80 z80
        obtain ⟨rfl, N80q, K80, tq, hq, Eq, Fe, Ftq⟩ := hQ80
        have N80 := Fr.app N77 N80q
        have O81 := O79.keep K80 (allS gg_b78 all0)
        obtain ⟨tt, T82, Lj82, hj82, X82, N82, e82, st82⟩ : ∃ (tt : Int64) (T82 : State) (Lj82 : List Loc), (tt = own_tot (1 : Int64) it) ∧ Stand p l e room_1 s m #[(.long q0), (.int p1), (.int p2), (.long q3), (.int p3)] below meth c T82 Lj82 1 5 ∧ Fr n0 Lj82 ∧ T82.heap = T80.heap ∧ ∀ target, Steps p.tables e below (T82.setTop (mkF m 149 #[.val (.long q0), .second, iv p1, iv p2, .val (.long q3), .second, iv p3, .val (.long it), .second, iv rc, iv 1, iv 0, rv wm, rv b78, iv 1, .val (.long 1), .second, .val (.long tt), .second, .val (.long ((1 : Int64) * it)), .second, .unset, .unset] [])) target → Steps p.tables e below (T80.setTop (mkF m 121 #[.val (.long q0), .second, iv p1, iv p2, .val (.long q3), .second, iv p3, .val (.long it), .second, iv rc, iv 1, iv 0, rv wm, rv b78, iv 1, .val (.long 1), .second, .unset, .unset, .unset, .unset, .unset, .unset] [])) target := by
          by_cases hc83 : (((1 : Int64) * it) / it) = (1 : Int64)
          · refine ⟨((1 : Int64) * it), T80, _, own_t1 hp1 own_n1 hc83, X80, N80, rfl, fun target kt => ?_⟩
            show Steps p.tables e below (T80.setTop (mkF m 121 #[.val (.long q0), .second, iv p1, iv p2, .val (.long q3), .second, iv p3, .val (.long it), .second, iv rc, iv 1, iv 0, rv wm, rv b78, iv 1, .val (.long 1), .second, .unset, .unset, .unset, .unset, .unset, .unset] [])) _
            refine XS.lload X80.here hx rfl (hb hby at_121) rfl ?_
            show Steps p.tables e below (T80.setTop (mkF m 123 #[.val (.long q0), .second, iv p1, iv p2, .val (.long q3), .second, iv p3, .val (.long it), .second, iv rc, iv 1, iv 0, rv wm, rv b78, iv 1, .val (.long 1), .second, .unset, .unset, .unset, .unset, .unset, .unset] [(.long 1)])) _
            refine XS.lload X80.here hx rfl (hb hby at_123) rfl ?_
            show Steps p.tables e below (T80.setTop (mkF m 125 #[.val (.long q0), .second, iv p1, iv p2, .val (.long q3), .second, iv p3, .val (.long it), .second, iv rc, iv 1, iv 0, rv wm, rv b78, iv 1, .val (.long 1), .second, .unset, .unset, .unset, .unset, .unset, .unset] [(.long it), (.long 1)])) _
            refine XS.lmul X80.here hx rfl (hb hby at_125) rfl ?_
            show Steps p.tables e below (T80.setTop (mkF m 126 #[.val (.long q0), .second, iv p1, iv p2, .val (.long q3), .second, iv p3, .val (.long it), .second, iv rc, iv 1, iv 0, rv wm, rv b78, iv 1, .val (.long 1), .second, .unset, .unset, .unset, .unset, .unset, .unset] [(.long ((1 : Int64) * it))])) _
            refine XS.lstore X80.here hx rfl (hb hby at_126) rfl (l' := #[.val (.long q0), .second, iv p1, iv p2, .val (.long q3), .second, iv p3, .val (.long it), .second, iv rc, iv 1, iv 0, rv wm, rv b78, iv 1, .val (.long 1), .second, .unset, .unset, .val (.long ((1 : Int64) * it)), .second, .unset, .unset]) rfl ?_
            show Steps p.tables e below (T80.setTop (mkF m 128 #[.val (.long q0), .second, iv p1, iv p2, .val (.long q3), .second, iv p3, .val (.long it), .second, iv rc, iv 1, iv 0, rv wm, rv b78, iv 1, .val (.long 1), .second, .unset, .unset, .val (.long ((1 : Int64) * it)), .second, .unset, .unset] [])) _
            refine XS.lload X80.here hx rfl (hb hby at_128) rfl ?_
            show Steps p.tables e below (T80.setTop (mkF m 130 #[.val (.long q0), .second, iv p1, iv p2, .val (.long q3), .second, iv p3, .val (.long it), .second, iv rc, iv 1, iv 0, rv wm, rv b78, iv 1, .val (.long 1), .second, .unset, .unset, .val (.long ((1 : Int64) * it)), .second, .unset, .unset] [(.long ((1 : Int64) * it))])) _
            refine XS.lload X80.here hx rfl (hb hby at_130) rfl ?_
            show Steps p.tables e below (T80.setTop (mkF m 132 #[.val (.long q0), .second, iv p1, iv p2, .val (.long q3), .second, iv p3, .val (.long it), .second, iv rc, iv 1, iv 0, rv wm, rv b78, iv 1, .val (.long 1), .second, .unset, .unset, .val (.long ((1 : Int64) * it)), .second, .unset, .unset] [(.long it), (.long ((1 : Int64) * it))])) _
            refine XS.ldiv X80.here hx rfl (hb hby at_132) rfl (own_p2 hp1) ?_
            show Steps p.tables e below (T80.setTop (mkF m 133 #[.val (.long q0), .second, iv p1, iv p2, .val (.long q3), .second, iv p3, .val (.long it), .second, iv rc, iv 1, iv 0, rv wm, rv b78, iv 1, .val (.long 1), .second, .unset, .unset, .val (.long ((1 : Int64) * it)), .second, .unset, .unset] [(.long (((1 : Int64) * it) / it))])) _
            refine XS.lload X80.here hx rfl (hb hby at_133) rfl ?_
            show Steps p.tables e below (T80.setTop (mkF m 135 #[.val (.long q0), .second, iv p1, iv p2, .val (.long q3), .second, iv p3, .val (.long it), .second, iv rc, iv 1, iv 0, rv wm, rv b78, iv 1, .val (.long 1), .second, .unset, .unset, .val (.long ((1 : Int64) * it)), .second, .unset, .unset] [(.long 1), (.long (((1 : Int64) * it) / it))])) _
            refine XS.lcmp X80.here hx rfl (hb hby at_135) rfl ?_
            show Steps p.tables e below (T80.setTop (mkF m 136 #[.val (.long q0), .second, iv p1, iv p2, .val (.long q3), .second, iv p3, .val (.long it), .second, iv rc, iv 1, iv 0, rv wm, rv b78, iv 1, .val (.long 1), .second, .unset, .unset, .val (.long ((1 : Int64) * it)), .second, .unset, .unset] [(.int (lcmpW (((1 : Int64) * it) / it) (1 : Int64)))])) _
            refine XS.ifYes X80.here hx rfl (pc0 := 136) (pc' := 145) rfl (hb hby at_136) rfl ((if0 _ _).trans (teq ((lw_eq _ _).mpr hc83)).1) (by decide) (by decide) ?_
            show Steps p.tables e below (T80.setTop (mkF m 145 #[.val (.long q0), .second, iv p1, iv p2, .val (.long q3), .second, iv p3, .val (.long it), .second, iv rc, iv 1, iv 0, rv wm, rv b78, iv 1, .val (.long 1), .second, .unset, .unset, .val (.long ((1 : Int64) * it)), .second, .unset, .unset] [])) _
            refine XS.lload X80.here hx rfl (hb hby at_145) rfl ?_
            show Steps p.tables e below (T80.setTop (mkF m 147 #[.val (.long q0), .second, iv p1, iv p2, .val (.long q3), .second, iv p3, .val (.long it), .second, iv rc, iv 1, iv 0, rv wm, rv b78, iv 1, .val (.long 1), .second, .unset, .unset, .val (.long ((1 : Int64) * it)), .second, .unset, .unset] [(.long ((1 : Int64) * it))])) _
            refine XS.lstore X80.here hx rfl (hb hby at_147) rfl (l' := #[.val (.long q0), .second, iv p1, iv p2, .val (.long q3), .second, iv p3, .val (.long it), .second, iv rc, iv 1, iv 0, rv wm, rv b78, iv 1, .val (.long 1), .second, .val (.long ((1 : Int64) * it)), .second, .val (.long ((1 : Int64) * it)), .second, .unset, .unset]) rfl ?_
            show Steps p.tables e below (T80.setTop (mkF m 149 #[.val (.long q0), .second, iv p1, iv p2, .val (.long q3), .second, iv p3, .val (.long it), .second, iv rc, iv 1, iv 0, rv wm, rv b78, iv 1, .val (.long 1), .second, .val (.long ((1 : Int64) * it)), .second, .val (.long ((1 : Int64) * it)), .second, .unset, .unset] [])) _
            exact kt
          · refine ⟨(9223372036854775807 : Int64), T80, _, own_t2 hp1 own_n1 hc83, X80, N80, rfl, fun target kt => ?_⟩
            show Steps p.tables e below (T80.setTop (mkF m 121 #[.val (.long q0), .second, iv p1, iv p2, .val (.long q3), .second, iv p3, .val (.long it), .second, iv rc, iv 1, iv 0, rv wm, rv b78, iv 1, .val (.long 1), .second, .unset, .unset, .unset, .unset, .unset, .unset] [])) _
            refine XS.lload X80.here hx rfl (hb hby at_121) rfl ?_
            show Steps p.tables e below (T80.setTop (mkF m 123 #[.val (.long q0), .second, iv p1, iv p2, .val (.long q3), .second, iv p3, .val (.long it), .second, iv rc, iv 1, iv 0, rv wm, rv b78, iv 1, .val (.long 1), .second, .unset, .unset, .unset, .unset, .unset, .unset] [(.long 1)])) _
            refine XS.lload X80.here hx rfl (hb hby at_123) rfl ?_
            show Steps p.tables e below (T80.setTop (mkF m 125 #[.val (.long q0), .second, iv p1, iv p2, .val (.long q3), .second, iv p3, .val (.long it), .second, iv rc, iv 1, iv 0, rv wm, rv b78, iv 1, .val (.long 1), .second, .unset, .unset, .unset, .unset, .unset, .unset] [(.long it), (.long 1)])) _
            refine XS.lmul X80.here hx rfl (hb hby at_125) rfl ?_
            show Steps p.tables e below (T80.setTop (mkF m 126 #[.val (.long q0), .second, iv p1, iv p2, .val (.long q3), .second, iv p3, .val (.long it), .second, iv rc, iv 1, iv 0, rv wm, rv b78, iv 1, .val (.long 1), .second, .unset, .unset, .unset, .unset, .unset, .unset] [(.long ((1 : Int64) * it))])) _
            refine XS.lstore X80.here hx rfl (hb hby at_126) rfl (l' := #[.val (.long q0), .second, iv p1, iv p2, .val (.long q3), .second, iv p3, .val (.long it), .second, iv rc, iv 1, iv 0, rv wm, rv b78, iv 1, .val (.long 1), .second, .unset, .unset, .val (.long ((1 : Int64) * it)), .second, .unset, .unset]) rfl ?_
            show Steps p.tables e below (T80.setTop (mkF m 128 #[.val (.long q0), .second, iv p1, iv p2, .val (.long q3), .second, iv p3, .val (.long it), .second, iv rc, iv 1, iv 0, rv wm, rv b78, iv 1, .val (.long 1), .second, .unset, .unset, .val (.long ((1 : Int64) * it)), .second, .unset, .unset] [])) _
            refine XS.lload X80.here hx rfl (hb hby at_128) rfl ?_
            show Steps p.tables e below (T80.setTop (mkF m 130 #[.val (.long q0), .second, iv p1, iv p2, .val (.long q3), .second, iv p3, .val (.long it), .second, iv rc, iv 1, iv 0, rv wm, rv b78, iv 1, .val (.long 1), .second, .unset, .unset, .val (.long ((1 : Int64) * it)), .second, .unset, .unset] [(.long ((1 : Int64) * it))])) _
            refine XS.lload X80.here hx rfl (hb hby at_130) rfl ?_
            show Steps p.tables e below (T80.setTop (mkF m 132 #[.val (.long q0), .second, iv p1, iv p2, .val (.long q3), .second, iv p3, .val (.long it), .second, iv rc, iv 1, iv 0, rv wm, rv b78, iv 1, .val (.long 1), .second, .unset, .unset, .val (.long ((1 : Int64) * it)), .second, .unset, .unset] [(.long it), (.long ((1 : Int64) * it))])) _
            refine XS.ldiv X80.here hx rfl (hb hby at_132) rfl (own_p2 hp1) ?_
            show Steps p.tables e below (T80.setTop (mkF m 133 #[.val (.long q0), .second, iv p1, iv p2, .val (.long q3), .second, iv p3, .val (.long it), .second, iv rc, iv 1, iv 0, rv wm, rv b78, iv 1, .val (.long 1), .second, .unset, .unset, .val (.long ((1 : Int64) * it)), .second, .unset, .unset] [(.long (((1 : Int64) * it) / it))])) _
            refine XS.lload X80.here hx rfl (hb hby at_133) rfl ?_
            show Steps p.tables e below (T80.setTop (mkF m 135 #[.val (.long q0), .second, iv p1, iv p2, .val (.long q3), .second, iv p3, .val (.long it), .second, iv rc, iv 1, iv 0, rv wm, rv b78, iv 1, .val (.long 1), .second, .unset, .unset, .val (.long ((1 : Int64) * it)), .second, .unset, .unset] [(.long 1), (.long (((1 : Int64) * it) / it))])) _
            refine XS.lcmp X80.here hx rfl (hb hby at_135) rfl ?_
            show Steps p.tables e below (T80.setTop (mkF m 136 #[.val (.long q0), .second, iv p1, iv p2, .val (.long q3), .second, iv p3, .val (.long it), .second, iv rc, iv 1, iv 0, rv wm, rv b78, iv 1, .val (.long 1), .second, .unset, .unset, .val (.long ((1 : Int64) * it)), .second, .unset, .unset] [(.int (lcmpW (((1 : Int64) * it) / it) (1 : Int64)))])) _
            refine XS.ifNo X80.here hx rfl (hb hby at_136) rfl ((if0 _ _).trans (feq (fun q => hc83 ((lw_eq _ _).mp q))).1) ?_
            show Steps p.tables e below (T80.setTop (mkF m 139 #[.val (.long q0), .second, iv p1, iv p2, .val (.long q3), .second, iv p3, .val (.long it), .second, iv rc, iv 1, iv 0, rv wm, rv b78, iv 1, .val (.long 1), .second, .unset, .unset, .val (.long ((1 : Int64) * it)), .second, .unset, .unset] [])) _
            refine X80.ldc2Long hx hown (mvT hZ (hw _ (own_m 0 rfl))) (g := (mkF m 139 #[.val (.long q0), .second, iv p1, iv p2, .val (.long q3), .second, iv p3, .val (.long it), .second, iv rc, iv 1, iv 0, rv wm, rv b78, iv 1, .val (.long 1), .second, .unset, .unset, .val (.long ((1 : Int64) * it)), .second, .unset, .unset] [])) rfl (hb hby at_139) _ ?_
            show Steps p.tables e below (T80.setTop (mkF m 142 #[.val (.long q0), .second, iv p1, iv p2, .val (.long q3), .second, iv p3, .val (.long it), .second, iv rc, iv 1, iv 0, rv wm, rv b78, iv 1, .val (.long 1), .second, .unset, .unset, .val (.long ((1 : Int64) * it)), .second, .unset, .unset] [(.long 9223372036854775807)])) _
            refine XS.goto X80.here hx rfl (pc0 := 142) (pc' := 147) rfl (hb hby at_142) (by decide) (by decide) ?_
            show Steps p.tables e below (T80.setTop (mkF m 147 #[.val (.long q0), .second, iv p1, iv p2, .val (.long q3), .second, iv p3, .val (.long it), .second, iv rc, iv 1, iv 0, rv wm, rv b78, iv 1, .val (.long 1), .second, .unset, .unset, .val (.long ((1 : Int64) * it)), .second, .unset, .unset] [(.long 9223372036854775807)])) _
            refine XS.lstore X80.here hx rfl (hb hby at_147) rfl (l' := #[.val (.long q0), .second, iv p1, iv p2, .val (.long q3), .second, iv p3, .val (.long it), .second, iv rc, iv 1, iv 0, rv wm, rv b78, iv 1, .val (.long 1), .second, .val (.long 9223372036854775807), .second, .val (.long ((1 : Int64) * it)), .second, .unset, .unset]) rfl ?_
            show Steps p.tables e below (T80.setTop (mkF m 149 #[.val (.long q0), .second, iv p1, iv p2, .val (.long q3), .second, iv p3, .val (.long it), .second, iv rc, iv 1, iv 0, rv wm, rv b78, iv 1, .val (.long 1), .second, .val (.long 9223372036854775807), .second, .val (.long ((1 : Int64) * it)), .second, .unset, .unset] [])) _
            exact kt
        have htt : tq = tt := hq.trans hj82.symm
        have Ft : Fld Z T80.heap b78 "com/example/vsyncopate/vsyncopate/animation/Timeline" "totalNanos" "J" (.long tt) := htt ▸ Ftq
        obtain ⟨pp, T84, Lj84, hj84, X84, N84, e84, st84⟩ := own_pp1 w_A w_B (.val (.long q0)) (.second) (iv p1) (iv p2) (.val (.long it)) (.second) (iv rc) (iv 1) (iv 0) (rv wm) (rv b78) (iv 1) (.val (.long 1)) (.second) (q3) (p3) (tt) (((1 : Int64) * it)) X82 hx hZ hw hby hml hown e82 N82 O81 S_A S_B 
        obtain ⟨cq85, kq85, q85a, q85b, q85c⟩ := isOf hZ e84 Eq
        obtain ⟨_, _, ⟨T85, L85, k85, n85⟩, -, X85, ⟨Lc85, hQ85, l85, y85, z85⟩, st85⟩ := X84.virtualBack hx (y := (⟨"com/example/vsyncopate/vsyncopate/animation/Timeline", "isOver", "(JZ)Z"⟩ : MethodName)) (z := (⟨"com/example/vsyncopate/vsyncopate/animation/Timeline", "isOver", "(JZ)Z"⟩ : MethodName)) hown (mvT hZ (hw _ (own_m 29 rfl))) (mvT hZ (hw _ (own_m 30 rfl))) (notFace_of_selects (args := #[]) (mvT hZ (hw _ (own_m 32 rfl)))) (mvT hZ (hw _ (own_m 32 rfl))) (mvT hZ (hw _ (own_m 31 rfl))) (by decide) (backOf (W := 0) (own_ovE0 l Z a0 hw [] w_A w_B b78 pp tt T80.heap n0 O81 S_A S_B Fe Ft) hZ (hw _ (own_m 33 rfl)) (hw _ (own_m 7 rfl)) (by decide) (by decide)) q85a q85c (g := (mkF m 311 #[.val (.long q0), .second, iv p1, iv p2, .val (.long q3), .second, iv p3, .val (.long it), .second, iv rc, iv 1, iv 0, rv wm, rv b78, iv 1, .val (.long 1), .second, .val (.long tt), .second, .val (.int ((p3 &&& (2147483647 : Int32)) % (7 : Int32))), .val (.long pp), .second, iv 0] [(.int 0), (.long pp), (.ref b78)])) rfl (by rw [hml]; rfl) (Steps.refl _) (argsL := [(.long pp), (.int 0)]) (rest := []) (lenOf own_pd2 rfl) rfl (by show 2 * 0 + _ ≤ _; exact Nat.le_of_eq rfl) (hb hby at_311) (fun _ _ => ⟨rfl, e84, (by decide : 1 + 0 ≤ _), (by decide : 5 + 0 ≤ _)⟩)
        dsimp only [Pt.U, Pt.locs, Pt.cells, Pt.slots] at X85 l85 y85 z85 st85 hQ85
        subst l85 y85 z85
        obtain ⟨rfl, N85q, e85⟩ := hQ85
        have N85 := Fr.app N84 N85q
        obtain ⟨fs, hr, hrun, hended, hW, hsame⟩ := X85.leave (v := some (.int 1)) (fun h => by rw [Bd.returns] at h; cases h)
        refine ⟨_, _, pre76 _ ?_, hrun, hended, _, _, rfl, ?_, ⟨_, rfl⟩, hW, hsame.mono (by decide) (by decide)⟩
        · show Steps p.tables e below (s₁.setTop (mkF m 28 #[.val (.long q0), .second, iv p1, iv p2, .val (.long q3), .second, iv p3, .val (.long it), .second, iv rc, iv 1, .unset, .unset, .unset, .unset, .unset, .unset, .unset, .unset, .unset, .unset, .unset, .unset] [(.int 2), (.int p2)])) _
          refine XS.iand X0.here hx rfl (hb hby at_28) rfl ?_
          show Steps p.tables e below (s₁.setTop (mkF m 29 #[.val (.long q0), .second, iv p1, iv p2, .val (.long q3), .second, iv p3, .val (.long it), .second, iv rc, iv 1, .unset, .unset, .unset, .unset, .unset, .unset, .unset, .unset, .unset, .unset, .unset, .unset] [(.int (p2 &&& (2 : Int32)))])) _
          refine XS.ifYes X0.here hx rfl (pc0 := 29) (pc' := 36) rfl (hb hby at_29) rfl ((if0 _ _).trans (teq hc75).1) (by decide) (by decide) ?_
          show Steps p.tables e below (s₁.setTop (mkF m 36 #[.val (.long q0), .second, iv p1, iv p2, .val (.long q3), .second, iv p3, .val (.long it), .second, iv rc, iv 1, .unset, .unset, .unset, .unset, .unset, .unset, .unset, .unset, .unset, .unset, .unset, .unset] [])) _
          refine XS.iconst X0.here hx rfl (hb hby at_36) ?_
          show Steps p.tables e below (s₁.setTop (mkF m 37 #[.val (.long q0), .second, iv p1, iv p2, .val (.long q3), .second, iv p3, .val (.long it), .second, iv rc, iv 1, .unset, .unset, .unset, .unset, .unset, .unset, .unset, .unset, .unset, .unset, .unset, .unset] [(.int 0)])) _
          refine XS.istore X0.here hx rfl (hb hby at_37) rfl (l' := #[.val (.long q0), .second, iv p1, iv p2, .val (.long q3), .second, iv p3, .val (.long it), .second, iv rc, iv 1, iv 0, .unset, .unset, .unset, .unset, .unset, .unset, .unset, .unset, .unset, .unset, .unset]) rfl ?_
          show Steps p.tables e below (s₁.setTop (mkF m 39 #[.val (.long q0), .second, iv p1, iv p2, .val (.long q3), .second, iv p3, .val (.long it), .second, iv rc, iv 1, iv 0, .unset, .unset, .unset, .unset, .unset, .unset, .unset, .unset, .unset, .unset, .unset] [])) _
          refine st77 _ ?_
          show Steps p.tables e below (T77.setTop (mkF m 54 #[.val (.long q0), .second, iv p1, iv p2, .val (.long q3), .second, iv p3, .val (.long it), .second, iv rc, iv 1, iv 0, .unset, .unset, .unset, .unset, .unset, .unset, .unset, .unset, .unset, .unset, .unset] [(.ref wm)])) _
          refine XS.astore X77.here hx rfl (hb hby at_54) rfl rfl (l' := #[.val (.long q0), .second, iv p1, iv p2, .val (.long q3), .second, iv p3, .val (.long it), .second, iv rc, iv 1, iv 0, rv wm, .unset, .unset, .unset, .unset, .unset, .unset, .unset, .unset, .unset, .unset]) rfl ?_
          show Steps p.tables e below (T77.setTop (mkF m 56 #[.val (.long q0), .second, iv p1, iv p2, .val (.long q3), .second, iv p3, .val (.long it), .second, iv rc, iv 1, iv 0, rv wm, .unset, .unset, .unset, .unset, .unset, .unset, .unset, .unset, .unset, .unset] [])) _
          refine st78 _ ?_
          show Steps p.tables e below (T78.setTop (mkF m 59 #[.val (.long q0), .second, iv p1, iv p2, .val (.long q3), .second, iv p3, .val (.long it), .second, iv rc, iv 1, iv 0, rv wm, .unset, .unset, .unset, .unset, .unset, .unset, .unset, .unset, .unset, .unset] [(.ref b78)])) _
          refine XS.dup X78.here hx rfl (hb hby at_59) rfl rfl ?_
          show Steps p.tables e below (T78.setTop (mkF m 60 #[.val (.long q0), .second, iv p1, iv p2, .val (.long q3), .second, iv p3, .val (.long it), .second, iv rc, iv 1, iv 0, rv wm, .unset, .unset, .unset, .unset, .unset, .unset, .unset, .unset, .unset, .unset] [(.ref b78), (.ref b78)])) _
          refine XS.lload X78.here hx rfl (hb hby at_60) rfl ?_
          show Steps p.tables e below (T78.setTop (mkF m 62 #[.val (.long q0), .second, iv p1, iv p2, .val (.long q3), .second, iv p3, .val (.long it), .second, iv rc, iv 1, iv 0, rv wm, .unset, .unset, .unset, .unset, .unset, .unset, .unset, .unset, .unset, .unset] [(.long it), (.ref b78), (.ref b78)])) _
          refine XS.iload X78.here hx rfl (hb hby at_62) rfl ?_
          show Steps p.tables e below (T78.setTop (mkF m 64 #[.val (.long q0), .second, iv p1, iv p2, .val (.long q3), .second, iv p3, .val (.long it), .second, iv rc, iv 1, iv 0, rv wm, .unset, .unset, .unset, .unset, .unset, .unset, .unset, .unset, .unset, .unset] [(.int rc), (.long it), (.ref b78), (.ref b78)])) _
          refine XS.iload X78.here hx rfl (hb hby at_64) rfl ?_
          show Steps p.tables e below (T78.setTop (mkF m 66 #[.val (.long q0), .second, iv p1, iv p2, .val (.long q3), .second, iv p3, .val (.long it), .second, iv rc, iv 1, iv 0, rv wm, .unset, .unset, .unset, .unset, .unset, .unset, .unset, .unset, .unset, .unset] [(.int 1), (.int rc), (.long it), (.ref b78), (.ref b78)])) _
          refine XS.aload X78.here hx rfl (hb hby at_66) rfl rfl ?_
          show Steps p.tables e below (T78.setTop (mkF m 68 #[.val (.long q0), .second, iv p1, iv p2, .val (.long q3), .second, iv p3, .val (.long it), .second, iv rc, iv 1, iv 0, rv wm, .unset, .unset, .unset, .unset, .unset, .unset, .unset, .unset, .unset, .unset] [(.ref wm), (.int 1), (.int rc), (.long it), (.ref b78), (.ref b78)])) _
          refine st80.trans ?_
          show Steps p.tables e below (T80.setTop (mkF m 71 #[.val (.long q0), .second, iv p1, iv p2, .val (.long q3), .second, iv p3, .val (.long it), .second, iv rc, iv 1, iv 0, rv wm, .unset, .unset, .unset, .unset, .unset, .unset, .unset, .unset, .unset, .unset] [(.ref b78)])) _
          refine XS.astore X80.here hx rfl (hb hby at_71) rfl rfl (l' := #[.val (.long q0), .second, iv p1, iv p2, .val (.long q3), .second, iv p3, .val (.long it), .second, iv rc, iv 1, iv 0, rv wm, rv b78, .unset, .unset, .unset, .unset, .unset, .unset, .unset, .unset, .unset]) rfl ?_
          show Steps p.tables e below (T80.setTop (mkF m 73 #[.val (.long q0), .second, iv p1, iv p2, .val (.long q3), .second, iv p3, .val (.long it), .second, iv rc, iv 1, iv 0, rv wm, rv b78, .unset, .unset, .unset, .unset, .unset, .unset, .unset, .unset, .unset] [])) _
          refine XS.iload X80.here hx rfl (hb hby at_73) rfl ?_
          show Steps p.tables e below (T80.setTop (mkF m 75 #[.val (.long q0), .second, iv p1, iv p2, .val (.long q3), .second, iv p3, .val (.long it), .second, iv rc, iv 1, iv 0, rv wm, rv b78, .unset, .unset, .unset, .unset, .unset, .unset, .unset, .unset, .unset] [(.int 1)])) _
          refine XS.ifNo X80.here hx rfl (hb hby at_75) rfl ((if0 _ _).trans (feq (by decide)).1) ?_
          show Steps p.tables e below (T80.setTop (mkF m 78 #[.val (.long q0), .second, iv p1, iv p2, .val (.long q3), .second, iv p3, .val (.long it), .second, iv rc, iv 1, iv 0, rv wm, rv b78, .unset, .unset, .unset, .unset, .unset, .unset, .unset, .unset, .unset] [])) _
          refine XS.lload X80.here hx rfl (hb hby at_78) rfl ?_
          show Steps p.tables e below (T80.setTop (mkF m 80 #[.val (.long q0), .second, iv p1, iv p2, .val (.long q3), .second, iv p3, .val (.long it), .second, iv rc, iv 1, iv 0, rv wm, rv b78, .unset, .unset, .unset, .unset, .unset, .unset, .unset, .unset, .unset] [(.long it)])) _
          refine XS.lconst X80.here hx rfl (hb hby at_80) ?_
          show Steps p.tables e below (T80.setTop (mkF m 81 #[.val (.long q0), .second, iv p1, iv p2, .val (.long q3), .second, iv p3, .val (.long it), .second, iv rc, iv 1, iv 0, rv wm, rv b78, .unset, .unset, .unset, .unset, .unset, .unset, .unset, .unset, .unset] [(.long 0), (.long it)])) _
          refine XS.lcmp X80.here hx rfl (hb hby at_81) rfl ?_
          show Steps p.tables e below (T80.setTop (mkF m 82 #[.val (.long q0), .second, iv p1, iv p2, .val (.long q3), .second, iv p3, .val (.long it), .second, iv rc, iv 1, iv 0, rv wm, rv b78, .unset, .unset, .unset, .unset, .unset, .unset, .unset, .unset, .unset] [(.int (lcmpW it (0 : Int64)))])) _
          refine XS.ifNo X80.here hx rfl (hb hby at_82) rfl ((if0 _ _).trans (tlt ((lw_gt _ _).mpr (own_p1 hp1))).2.2.2) ?_
          show Steps p.tables e below (T80.setTop (mkF m 85 #[.val (.long q0), .second, iv p1, iv p2, .val (.long q3), .second, iv p3, .val (.long it), .second, iv rc, iv 1, iv 0, rv wm, rv b78, .unset, .unset, .unset, .unset, .unset, .unset, .unset, .unset, .unset] [])) _
          refine XS.iconst X80.here hx rfl (hb hby at_85) ?_
          show Steps p.tables e below (T80.setTop (mkF m 86 #[.val (.long q0), .second, iv p1, iv p2, .val (.long q3), .second, iv p3, .val (.long it), .second, iv rc, iv 1, iv 0, rv wm, rv b78, .unset, .unset, .unset, .unset, .unset, .unset, .unset, .unset, .unset] [(.int 1)])) _
          refine XS.goto X80.here hx rfl (pc0 := 86) (pc' := 90) rfl (hb hby at_86) (by decide) (by decide) ?_
          show Steps p.tables e below (T80.setTop (mkF m 90 #[.val (.long q0), .second, iv p1, iv p2, .val (.long q3), .second, iv p3, .val (.long it), .second, iv rc, iv 1, iv 0, rv wm, rv b78, .unset, .unset, .unset, .unset, .unset, .unset, .unset, .unset, .unset] [(.int 1)])) _
          refine XS.istore X80.here hx rfl (hb hby at_90) rfl (l' := #[.val (.long q0), .second, iv p1, iv p2, .val (.long q3), .second, iv p3, .val (.long it), .second, iv rc, iv 1, iv 0, rv wm, rv b78, iv 1, .unset, .unset, .unset, .unset, .unset, .unset, .unset, .unset]) rfl ?_
          show Steps p.tables e below (T80.setTop (mkF m 92 #[.val (.long q0), .second, iv p1, iv p2, .val (.long q3), .second, iv p3, .val (.long it), .second, iv rc, iv 1, iv 0, rv wm, rv b78, iv 1, .unset, .unset, .unset, .unset, .unset, .unset, .unset, .unset] [])) _
          refine XS.iload X80.here hx rfl (hb hby at_92) rfl ?_
          show Steps p.tables e below (T80.setTop (mkF m 94 #[.val (.long q0), .second, iv p1, iv p2, .val (.long q3), .second, iv p3, .val (.long it), .second, iv rc, iv 1, iv 0, rv wm, rv b78, iv 1, .unset, .unset, .unset, .unset, .unset, .unset, .unset, .unset] [(.int 1)])) _
          refine XS.ifNo X80.here hx rfl (hb hby at_94) rfl ((if0 _ _).trans (feq (by decide)).1) ?_
          show Steps p.tables e below (T80.setTop (mkF m 97 #[.val (.long q0), .second, iv p1, iv p2, .val (.long q3), .second, iv p3, .val (.long it), .second, iv rc, iv 1, iv 0, rv wm, rv b78, iv 1, .unset, .unset, .unset, .unset, .unset, .unset, .unset, .unset] [])) _
          refine XS.lconst X80.here hx rfl (hb hby at_97) ?_
          show Steps p.tables e below (T80.setTop (mkF m 98 #[.val (.long q0), .second, iv p1, iv p2, .val (.long q3), .second, iv p3, .val (.long it), .second, iv rc, iv 1, iv 0, rv wm, rv b78, iv 1, .unset, .unset, .unset, .unset, .unset, .unset, .unset, .unset] [(.long 1)])) _
          refine XS.goto X80.here hx rfl (pc0 := 98) (pc' := 106) rfl (hb hby at_98) (by decide) (by decide) ?_
          show Steps p.tables e below (T80.setTop (mkF m 106 #[.val (.long q0), .second, iv p1, iv p2, .val (.long q3), .second, iv p3, .val (.long it), .second, iv rc, iv 1, iv 0, rv wm, rv b78, iv 1, .unset, .unset, .unset, .unset, .unset, .unset, .unset, .unset] [(.long 1)])) _
          refine XS.lstore X80.here hx rfl (hb hby at_106) rfl (l' := #[.val (.long q0), .second, iv p1, iv p2, .val (.long q3), .second, iv p3, .val (.long it), .second, iv rc, iv 1, iv 0, rv wm, rv b78, iv 1, .val (.long 1), .second, .unset, .unset, .unset, .unset, .unset, .unset]) rfl ?_
          show Steps p.tables e below (T80.setTop (mkF m 108 #[.val (.long q0), .second, iv p1, iv p2, .val (.long q3), .second, iv p3, .val (.long it), .second, iv rc, iv 1, iv 0, rv wm, rv b78, iv 1, .val (.long 1), .second, .unset, .unset, .unset, .unset, .unset, .unset] [])) _
          refine XS.lload X80.here hx rfl (hb hby at_108) rfl ?_
          show Steps p.tables e below (T80.setTop (mkF m 110 #[.val (.long q0), .second, iv p1, iv p2, .val (.long q3), .second, iv p3, .val (.long it), .second, iv rc, iv 1, iv 0, rv wm, rv b78, iv 1, .val (.long 1), .second, .unset, .unset, .unset, .unset, .unset, .unset] [(.long it)])) _
          refine XS.lconst X80.here hx rfl (hb hby at_110) ?_
          show Steps p.tables e below (T80.setTop (mkF m 111 #[.val (.long q0), .second, iv p1, iv p2, .val (.long q3), .second, iv p3, .val (.long it), .second, iv rc, iv 1, iv 0, rv wm, rv b78, iv 1, .val (.long 1), .second, .unset, .unset, .unset, .unset, .unset, .unset] [(.long 0), (.long it)])) _
          refine XS.lcmp X80.here hx rfl (hb hby at_111) rfl ?_
          show Steps p.tables e below (T80.setTop (mkF m 112 #[.val (.long q0), .second, iv p1, iv p2, .val (.long q3), .second, iv p3, .val (.long it), .second, iv rc, iv 1, iv 0, rv wm, rv b78, iv 1, .val (.long 1), .second, .unset, .unset, .unset, .unset, .unset, .unset] [(.int (lcmpW it (0 : Int64)))])) _
          refine XS.ifYes X80.here hx rfl (pc0 := 112) (pc' := 121) rfl (hb hby at_112) rfl ((if0 _ _).trans (feq (fun q => (own_p2 hp1) ((lw_eq _ _).mp q))).2) (by decide) (by decide) ?_
          show Steps p.tables e below (T80.setTop (mkF m 121 #[.val (.long q0), .second, iv p1, iv p2, .val (.long q3), .second, iv p3, .val (.long it), .second, iv rc, iv 1, iv 0, rv wm, rv b78, iv 1, .val (.long 1), .second, .unset, .unset, .unset, .unset, .unset, .unset] [])) _
          refine st82 _ ?_
          show Steps p.tables e below (T82.setTop (mkF m 149 #[.val (.long q0), .second, iv p1, iv p2, .val (.long q3), .second, iv p3, .val (.long it), .second, iv rc, iv 1, iv 0, rv wm, rv b78, iv 1, .val (.long 1), .second, .val (.long tt), .second, .val (.long ((1 : Int64) * it)), .second, .unset, .unset] [])) _
          refine st84 _ ?_
          show Steps p.tables e below (T84.setTop (mkF m 257 #[.val (.long q0), .second, iv p1, iv p2, .val (.long q3), .second, iv p3, .val (.long it), .second, iv rc, iv 1, iv 0, rv wm, rv b78, iv 1, .val (.long 1), .second, .val (.long tt), .second, .val (.int ((p3 &&& (2147483647 : Int32)) % (7 : Int32))), .val (.long pp), .second, .unset] [])) _
          refine XS.iload X84.here hx rfl (hb hby at_257) rfl ?_
          show Steps p.tables e below (T84.setTop (mkF m 259 #[.val (.long q0), .second, iv p1, iv p2, .val (.long q3), .second, iv p3, .val (.long it), .second, iv rc, iv 1, iv 0, rv wm, rv b78, iv 1, .val (.long 1), .second, .val (.long tt), .second, .val (.int ((p3 &&& (2147483647 : Int32)) % (7 : Int32))), .val (.long pp), .second, .unset] [(.int 1)])) _
          refine XS.ifNo X84.here hx rfl (hb hby at_259) rfl ((if0 _ _).trans (feq (by decide)).1) ?_
          show Steps p.tables e below (T84.setTop (mkF m 262 #[.val (.long q0), .second, iv p1, iv p2, .val (.long q3), .second, iv p3, .val (.long it), .second, iv rc, iv 1, iv 0, rv wm, rv b78, iv 1, .val (.long 1), .second, .val (.long tt), .second, .val (.int ((p3 &&& (2147483647 : Int32)) % (7 : Int32))), .val (.long pp), .second, .unset] [])) _
          refine XS.iconst X84.here hx rfl (hb hby at_262) ?_
          show Steps p.tables e below (T84.setTop (mkF m 263 #[.val (.long q0), .second, iv p1, iv p2, .val (.long q3), .second, iv p3, .val (.long it), .second, iv rc, iv 1, iv 0, rv wm, rv b78, iv 1, .val (.long 1), .second, .val (.long tt), .second, .val (.int ((p3 &&& (2147483647 : Int32)) % (7 : Int32))), .val (.long pp), .second, .unset] [(.int 0)])) _
          refine XS.istore X84.here hx rfl (hb hby at_263) rfl (l' := #[.val (.long q0), .second, iv p1, iv p2, .val (.long q3), .second, iv p3, .val (.long it), .second, iv rc, iv 1, iv 0, rv wm, rv b78, iv 1, .val (.long 1), .second, .val (.long tt), .second, .val (.int ((p3 &&& (2147483647 : Int32)) % (7 : Int32))), .val (.long pp), .second, iv 0]) rfl ?_
          show Steps p.tables e below (T84.setTop (mkF m 265 #[.val (.long q0), .second, iv p1, iv p2, .val (.long q3), .second, iv p3, .val (.long it), .second, iv rc, iv 1, iv 0, rv wm, rv b78, iv 1, .val (.long 1), .second, .val (.long tt), .second, .val (.int ((p3 &&& (2147483647 : Int32)) % (7 : Int32))), .val (.long pp), .second, iv 0] [])) _
          refine XS.goto X84.here hx rfl (pc0 := 265) (pc' := 305) rfl (hb hby at_265) (by decide) (by decide) ?_
          show Steps p.tables e below (T84.setTop (mkF m 305 #[.val (.long q0), .second, iv p1, iv p2, .val (.long q3), .second, iv p3, .val (.long it), .second, iv rc, iv 1, iv 0, rv wm, rv b78, iv 1, .val (.long 1), .second, .val (.long tt), .second, .val (.int ((p3 &&& (2147483647 : Int32)) % (7 : Int32))), .val (.long pp), .second, iv 0] [])) _
          refine XS.aload X84.here hx rfl (hb hby at_305) rfl rfl ?_
          show Steps p.tables e below (T84.setTop (mkF m 307 #[.val (.long q0), .second, iv p1, iv p2, .val (.long q3), .second, iv p3, .val (.long it), .second, iv rc, iv 1, iv 0, rv wm, rv b78, iv 1, .val (.long 1), .second, .val (.long tt), .second, .val (.int ((p3 &&& (2147483647 : Int32)) % (7 : Int32))), .val (.long pp), .second, iv 0] [(.ref b78)])) _
          refine XS.lload X84.here hx rfl (hb hby at_307) rfl ?_
          show Steps p.tables e below (T84.setTop (mkF m 309 #[.val (.long q0), .second, iv p1, iv p2, .val (.long q3), .second, iv p3, .val (.long it), .second, iv rc, iv 1, iv 0, rv wm, rv b78, iv 1, .val (.long 1), .second, .val (.long tt), .second, .val (.int ((p3 &&& (2147483647 : Int32)) % (7 : Int32))), .val (.long pp), .second, iv 0] [(.long pp), (.ref b78)])) _
          refine XS.iload X84.here hx rfl (hb hby at_309) rfl ?_
          show Steps p.tables e below (T84.setTop (mkF m 311 #[.val (.long q0), .second, iv p1, iv p2, .val (.long q3), .second, iv p3, .val (.long it), .second, iv rc, iv 1, iv 0, rv wm, rv b78, iv 1, .val (.long 1), .second, .val (.long tt), .second, .val (.int ((p3 &&& (2147483647 : Int32)) % (7 : Int32))), .val (.long pp), .second, iv 0] [(.int 0), (.long pp), (.ref b78)])) _
          refine st85.trans ?_
          show Steps p.tables e below (T85.setTop (mkF m 314 #[.val (.long q0), .second, iv p1, iv p2, .val (.long q3), .second, iv p3, .val (.long it), .second, iv rc, iv 1, iv 0, rv wm, rv b78, iv 1, .val (.long 1), .second, .val (.long tt), .second, .val (.int ((p3 &&& (2147483647 : Int32)) % (7 : Int32))), .val (.long pp), .second, iv 0] [(.int 0)])) _
          refine XS.iload X85.here hx rfl (hb hby at_314) rfl ?_
          show Steps p.tables e below (T85.setTop (mkF m 316 #[.val (.long q0), .second, iv p1, iv p2, .val (.long q3), .second, iv p3, .val (.long it), .second, iv rc, iv 1, iv 0, rv wm, rv b78, iv 1, .val (.long 1), .second, .val (.long tt), .second, .val (.int ((p3 &&& (2147483647 : Int32)) % (7 : Int32))), .val (.long pp), .second, iv 0] [(.int 0), (.int 0)])) _
          refine XS.icmpNo X85.here hx rfl (hb hby at_316) rfl (teq (by decide)).2 ?_
          show Steps p.tables e below (T85.setTop (mkF m 319 #[.val (.long q0), .second, iv p1, iv p2, .val (.long q3), .second, iv p3, .val (.long it), .second, iv rc, iv 1, iv 0, rv wm, rv b78, iv 1, .val (.long 1), .second, .val (.long tt), .second, .val (.int ((p3 &&& (2147483647 : Int32)) % (7 : Int32))), .val (.long pp), .second, iv 0] [])) _
          refine XS.iconst X85.here hx rfl (hb hby at_319) ?_
          show Steps p.tables e below (T85.setTop (mkF m 320 #[.val (.long q0), .second, iv p1, iv p2, .val (.long q3), .second, iv p3, .val (.long it), .second, iv rc, iv 1, iv 0, rv wm, rv b78, iv 1, .val (.long 1), .second, .val (.long tt), .second, .val (.int ((p3 &&& (2147483647 : Int32)) % (7 : Int32))), .val (.long pp), .second, iv 0] [(.int 1)])) _
          refine XS.goto X85.here hx rfl (pc0 := 320) (pc' := 324) rfl (hb hby at_320) (by decide) (by decide) ?_
          show Steps p.tables e below (T85.setTop (mkF m 324 #[.val (.long q0), .second, iv p1, iv p2, .val (.long q3), .second, iv p3, .val (.long it), .second, iv rc, iv 1, iv 0, rv wm, rv b78, iv 1, .val (.long 1), .second, .val (.long tt), .second, .val (.int ((p3 &&& (2147483647 : Int32)) % (7 : Int32))), .val (.long pp), .second, iv 0] [(.int 1)])) _
          exact retN X85 hx (t := .boolean) Bd.returns (by simp) (hb hby at_324) hr
        · show own_law_Q Z w_A w_B q0 p1 p2 q3 p3 h0 n0 _ T85.heap _
          rw [e85]
          exact ⟨rfl, N85⟩
      · obtain ⟨wm, T86, Lj86, hj86, X86, N86, e86, st86⟩ := own_mode w_A w_B (.val (.long q0)) (.second) (iv p1) (.val (.long q3)) (.second) (iv p3) (.val (.long it)) (.second) (iv rc) (iv 1) (iv 1) (.unset) (.unset) (.unset) (.unset) (.unset) (.unset) (.unset) (.unset) (.unset) (.unset) (.unset) (p2) X0 hx hZ hw hby hml hown e0 N0 O0 S_A S_B 
        obtain ⟨T87, h87, X87, e87, E87, A87, D87, -, st87⟩ := newO X86 hx hZ hown (hw _ (own_m 5 rfl)) (hw _ (own_m 6 rfl)) (hw _ (own_m 7 rfl)) e86 (g := (mkF m 56 #[.val (.long q0), .second, iv p1, iv p2, .val (.long q3), .second, iv p3, .val (.long it), .second, iv rc, iv 1, iv 1, rv wm, .unset, .unset, .unset, .unset, .unset, .unset, .unset, .unset, .unset, .unset] [])) rfl (hb hby at_56) (by decide) (by decide)
        obtain ⟨b87, g87⟩ : ∃ z, z = h0.size := ⟨_, rfl⟩
        rw [← g87] at A87 D87 st87
        have gg_b87 : n0 ≤ b87 := g87 ▸ own_le O0
        have O88 := O0.ext E87
        have F_iterationNanos_b87 : Fld Z h87 b87 "com/example/vsyncopate/vsyncopate/animation/Timeline" "iterationNanos" "J" (.long 0) := D87 (Or.inr (hw _ (own_m 15 rfl))) (ty := .long) (by decide)
        have F_mode_b87 : Fld Z h87 b87 "com/example/vsyncopate/vsyncopate/animation/Timeline" "mode" "Lcom/example/vsyncopate/vsyncopate/animation/RepeatMode;" .null := D87 (Or.inr (hw _ (own_m 17 rfl))) (ty := (.object "com/example/vsyncopate/vsyncopate/animation/RepeatMode")) (by decide)
        have F_endless_b87 : Fld Z h87 b87 "com/example/vsyncopate/vsyncopate/animation/Timeline" "endless" "Z" (.int 0) := D87 (Or.inr (hw _ (own_m 19 rfl))) (ty := .boolean) (by decide)
        have F_iterations_b87 : Fld Z h87 b87 "com/example/vsyncopate/vsyncopate/animation/Timeline" "iterations" "J" (.long 0) := D87 (Or.inr (hw _ (own_m 21 rfl))) (ty := .long) (by decide)
        have F_totalNanos_b87 : Fld Z h87 b87 "com/example/vsyncopate/vsyncopate/animation/Timeline" "totalNanos" "J" (.long 0) := D87 (Or.inr (hw _ (own_m 28 rfl))) (ty := .long) (by decide)
        obtain ⟨_, _, ⟨T89, L89, k89, n89⟩, -, X89, ⟨Lc89, hQ89, l89, y89, z89⟩, st89⟩ := X87.specialBack hx (y := (⟨"com/example/vsyncopate/vsyncopate/animation/Timeline", "<init>", "(JIZLcom/example/vsyncopate/vsyncopate/animation/RepeatMode;)V"⟩ : MethodName)) rfl hown (mvT hZ (hw _ (own_m 8 rfl))) (mvT hZ (hw _ (own_m 9 rfl))) (mvT hZ (hw _ (own_m 10 rfl))) (by decide) (backOf (W := 1) (own_mk11 l Z a0 hw [] w_A w_B b87 it rc wm h87 n0 O88 S_A S_B gg_b87 A87 F_iterationNanos_b87 F_mode_b87 F_endless_b87 F_iterations_b87 F_totalNanos_b87 hp1) hZ (hw _ (own_m 10 rfl)) (hw _ (own_m 7 rfl)) (by decide) (by decide)) (g := (mkF m 68 #[.val (.long q0), .second, iv p1, iv p2, .val (.long q3), .second, iv p3, .val (.long it), .second, iv rc, iv 1, iv 1, rv wm, .unset, .unset, .unset, .unset, .unset, .unset, .unset, .unset, .unset, .unset] [(.ref wm), (.int 1), (.int rc), (.long it), (.ref b87), (.ref b87)])) rfl (by rw [hml]; rfl) (Steps.refl _) (a := b87) (argsL := [(.long it), (.int rc), (.int 1), (.ref wm)]) (rest := [(.ref b87)]) (lenOf own_pd1 rfl) rfl (by show 2 * 0 + _ ≤ _; exact Nat.le_of_eq rfl) (hb hby at_68) (fun _ _ => ⟨rfl, e87, (by decide : 1 + 0 ≤ _), (by decide : 5 + 0 ≤ _)⟩)
        dsimp only [Pt.U, Pt.locs, Pt.cells, Pt.slots] at X89 l89 y89 z89 st89 hQ89
        subst l89 y89 z89
        obtain ⟨rfl, N89q, K89, tq, hq, Eq, Fe, Ftq⟩ := hQ89
        have N89 := Fr.app N86 N89q
        have O90 := O88.keep K89 (allS gg_b87 all0)
        obtain ⟨tt, T91, Lj91, hj91, X91, N91, e91, st91⟩ : ∃ (tt : Int64) (T91 : State) (Lj91 : List Loc), (tt = own_tot (1 : Int64) it) ∧ Stand p l e room_1 s m #[(.long q0), (.int p1), (.int p2), (.long q3), (.int p3)] below meth c T91 Lj91 1 5 ∧ Fr n0 Lj91 ∧ T91.heap = T89.heap ∧ ∀ target, Steps p.tables e below (T91.setTop (mkF m 149 #[.val (.long q0), .second, iv p1, iv p2, .val (.long q3), .second, iv p3, .val (.long it), .second, iv rc, iv 1, iv 1, rv wm, rv b87, iv 1, .val (.long 1), .second, .val (.long tt), .second, .val (.long ((1 : Int64) * it)), .second, .unset, .unset] [])) target → Steps p.tables e below (T89.setTop (mkF m 121 #[.val (.long q0), .second, iv p1, iv p2, .val (.long q3), .second, iv p3, .val (.long it), .second, iv rc, iv 1, iv 1, rv wm, rv b87, iv 1, .val (.long 1), .second, .unset, .unset, .unset, .unset, .unset, .unset] [])) target := by
          by_cases hc92 : (((1 : Int64) * it) / it) = (1 : Int64)
          · refine ⟨((1 : Int64) * it), T89, _, own_t1 hp1 own_n1 hc92, X89, N89, rfl, fun target kt => ?_⟩
            show Steps p.tables e below (T89.setTop (mkF m 121 #[.val (.long q0), .second, iv p1, iv p2, .val (.long q3), .second, iv p3, .val (.long it), .second, iv rc, iv 1, iv 1, rv wm, rv b87, iv 1, .val (.long 1), .second, .unset, .unset, .unset, .unset, .unset, .unset] [])) _
            refine XS.lload X89.here hx rfl (hb hby at_121) rfl ?_
            show Steps p.tables e below (T89.setTop (mkF m 123 #[.val (.long q0), .second, iv p1, iv p2, .val (.long q3), .second, iv p3, .val (.long it), .second, iv rc, iv 1, iv 1, rv wm, rv b87, iv 1, .val (.long 1), .second, .unset, .unset, .unset, .unset, .unset, .unset] [(.long 1)])) _
            refine XS.lload X89.here hx rfl (hb hby at_123) rfl ?_
            show Steps p.tables e below (T89.setTop (mkF m 125 #[.val (.long q0), .second, iv p1, iv p2, .val (.long q3), .second, iv p3, .val (.long it), .second, iv rc, iv 1, iv 1, rv wm, rv b87, iv 1, .val (.long 1), .second, .unset, .unset, .unset, .unset, .unset, .unset] [(.long it), (.long 1)])) _
            refine XS.lmul X89.here hx rfl (hb hby at_125) rfl ?_
            show Steps p.tables e below (T89.setTop (mkF m 126 #[.val (.long q0), .second, iv p1, iv p2, .val (.long q3), .second, iv p3, .val (.long it), .second, iv rc, iv 1, iv 1, rv wm, rv b87, iv 1, .val (.long 1), .second, .unset, .unset, .unset, .unset, .unset, .unset] [(.long ((1 : Int64) * it))])) _
            refine XS.lstore X89.here hx rfl (hb hby at_126) rfl (l' := #[.val (.long q0), .second, iv p1, iv p2, .val (.long q3), .second, iv p3, .val (.long it), .second, iv rc, iv 1, iv 1, rv wm, rv b87, iv 1, .val (.long 1), .second, .unset, .unset, .val (.long ((1 : Int64) * it)), .second, .unset, .unset]) rfl ?_
            show Steps p.tables e below (T89.setTop (mkF m 128 #[.val (.long q0), .second, iv p1, iv p2, .val (.long q3), .second, iv p3, .val (.long it), .second, iv rc, iv 1, iv 1, rv wm, rv b87, iv 1, .val (.long 1), .second, .unset, .unset, .val (.long ((1 : Int64) * it)), .second, .unset, .unset] [])) _
            refine XS.lload X89.here hx rfl (hb hby at_128) rfl ?_
            show Steps p.tables e below (T89.setTop (mkF m 130 #[.val (.long q0), .second, iv p1, iv p2, .val (.long q3), .second, iv p3, .val (.long it), .second, iv rc, iv 1, iv 1, rv wm, rv b87, iv 1, .val (.long 1), .second, .unset, .unset, .val (.long ((1 : Int64) * it)), .second, .unset, .unset] [(.long ((1 : Int64) * it))])) _
            refine XS.lload X89.here hx rfl (hb hby at_130) rfl ?_
            show Steps p.tables e below (T89.setTop (mkF m 132 #[.val (.long q0), .second, iv p1, iv p2, .val (.long q3), .second, iv p3, .val (.long it), .second, iv rc, iv 1, iv 1, rv wm, rv b87, iv 1, .val (.long 1), .second, .unset, .unset, .val (.long ((1 : Int64) * it)), .second, .unset, .unset] [(.long it), (.long ((1 : Int64) * it))])) _
            refine XS.ldiv X89.here hx rfl (hb hby at_132) rfl (own_p2 hp1) ?_
            show Steps p.tables e below (T89.setTop (mkF m 133 #[.val (.long q0), .second, iv p1, iv p2, .val (.long q3), .second, iv p3, .val (.long it), .second, iv rc, iv 1, iv 1, rv wm, rv b87, iv 1, .val (.long 1), .second, .unset, .unset, .val (.long ((1 : Int64) * it)), .second, .unset, .unset] [(.long (((1 : Int64) * it) / it))])) _
            refine XS.lload X89.here hx rfl (hb hby at_133) rfl ?_
            show Steps p.tables e below (T89.setTop (mkF m 135 #[.val (.long q0), .second, iv p1, iv p2, .val (.long q3), .second, iv p3, .val (.long it), .second, iv rc, iv 1, iv 1, rv wm, rv b87, iv 1, .val (.long 1), .second, .unset, .unset, .val (.long ((1 : Int64) * it)), .second, .unset, .unset] [(.long 1), (.long (((1 : Int64) * it) / it))])) _
            refine XS.lcmp X89.here hx rfl (hb hby at_135) rfl ?_
            show Steps p.tables e below (T89.setTop (mkF m 136 #[.val (.long q0), .second, iv p1, iv p2, .val (.long q3), .second, iv p3, .val (.long it), .second, iv rc, iv 1, iv 1, rv wm, rv b87, iv 1, .val (.long 1), .second, .unset, .unset, .val (.long ((1 : Int64) * it)), .second, .unset, .unset] [(.int (lcmpW (((1 : Int64) * it) / it) (1 : Int64)))])) _
            refine XS.ifYes X89.here hx rfl (pc0 := 136) (pc' := 145) rfl (hb hby at_136) rfl ((if0 _ _).trans (teq ((lw_eq _ _).mpr hc92)).1) (by decide) (by decide) ?_
            show Steps p.tables e below (T89.setTop (mkF m 145 #[.val (.long q0), .second, iv p1, iv p2, .val (.long q3), .second, iv p3, .val (.long it), .second, iv rc, iv 1, iv 1, rv wm, rv b87, iv 1, .val (.long 1), .second, .unset, .unset, .val (.long ((1 : Int64) * it)), .second, .unset, .unset] [])) _
            refine XS.lload X89.here hx rfl (hb hby at_145) rfl ?_
            show Steps p.tables e below (T89.setTop (mkF m 147 #[.val (.long q0), .second, iv p1, iv p2, .val (.long q3), .second, iv p3, .val (.long it), .second, iv rc, iv 1, iv 1, rv wm, rv b87, iv 1, .val (.long 1), .second, .unset, .unset, .val (.long ((1 : Int64) * it)), .second, .unset, .unset] [(.long ((1 : Int64) * it))])) _
            refine XS.lstore X89.here hx rfl (hb hby at_147) rfl (l' := #[.val (.long q0), .second, iv p1, iv p2, .val (.long q3), .second, iv p3, .val (.long it), .second, iv rc, iv 1, iv 1, rv wm, rv b87, iv 1, .val (.long 1), .second, .val (.long ((1 : Int64) * it)), .second, .val (.long ((1 : Int64) * it)), .second, .unset, .unset]) rfl ?_
            show Steps p.tables e below (T89.setTop (mkF m 149 #[.val (.long q0), .second, iv p1, iv p2, .val (.long q3), .second, iv p3, .val (.long it), .second, iv rc, iv 1, iv 1, rv wm, rv b87, iv 1, .val (.long 1), .second, .val (.long ((1 : Int64) * it)), .second, .val (.long ((1 : Int64) * it)), .second, .unset, .unset] [])) _
            exact kt
          · refine ⟨(9223372036854775807 : Int64), T89, _, own_t2 hp1 own_n1 hc92, X89, N89, rfl, fun target kt => ?_⟩
            show Steps p.tables e below (T89.setTop (mkF m 121 #[.val (.long q0), .second, iv p1, iv p2, .val (.long q3), .second, iv p3, .val (.long it), .second, iv rc, iv 1, iv 1, rv wm, rv b87, iv 1, .val (.long 1), .second, .unset, .unset, .unset, .unset, .unset, .unset] [])) _
            refine XS.lload X89.here hx rfl (hb hby at_121) rfl ?_
            show Steps p.tables e below (T89.setTop (mkF m 123 #[.val (.long q0), .second, iv p1, iv p2, .val (.long q3), .second, iv p3, .val (.long it), .second, iv rc, iv 1, iv 1, rv wm, rv b87, iv 1, .val (.long 1), .second, .unset, .unset, .unset, .unset, .unset, .unset] [(.long 1)])) _
            refine XS.lload X89.here hx rfl (hb hby at_123) rfl ?_
            show Steps p.tables e below (T89.setTop (mkF m 125 #[.val (.long q0), .second, iv p1, iv p2, .val (.long q3), .second, iv p3, .val (.long it), .second, iv rc, iv 1, iv 1, rv wm, rv b87, iv 1, .val (.long 1), .second, .unset, .unset, .unset, .unset, .unset, .unset] [(.long it), (.long 1)])) _
            refine XS.lmul X89.here hx rfl (hb hby at_125) rfl ?_
            show Steps p.tables e below (T89.setTop (mkF m 126 #[.val (.long q0), .second, iv p1, iv p2, .val (.long q3), .second, iv p3, .val (.long it), .second, iv rc, iv 1, iv 1, rv wm, rv b87, iv 1, .val (.long 1), .second, .unset, .unset, .unset, .unset, .unset, .unset] [(.long ((1 : Int64) * it))])) _
            refine XS.lstore X89.here hx rfl (hb hby at_126) rfl (l' := #[.val (.long q0), .second, iv p1, iv p2, .val (.long q3), .second, iv p3, .val (.long it), .second, iv rc, iv 1, iv 1, rv wm, rv b87, iv 1, .val (.long 1), .second, .unset, .unset, .val (.long ((1 : Int64) * it)), .second, .unset, .unset]) rfl ?_
            show Steps p.tables e below (T89.setTop (mkF m 128 #[.val (.long q0), .second, iv p1, iv p2, .val (.long q3), .second, iv p3, .val (.long it), .second, iv rc, iv 1, iv 1, rv wm, rv b87, iv 1, .val (.long 1), .second, .unset, .unset, .val (.long ((1 : Int64) * it)), .second, .unset, .unset] [])) _
            refine XS.lload X89.here hx rfl (hb hby at_128) rfl ?_
            show Steps p.tables e below (T89.setTop (mkF m 130 #[.val (.long q0), .second, iv p1, iv p2, .val (.long q3), .second, iv p3, .val (.long it), .second, iv rc, iv 1, iv 1, rv wm, rv b87, iv 1, .val (.long 1), .second, .unset, .unset, .val (.long ((1 : Int64) * it)), .second, .unset, .unset] [(.long ((1 : Int64) * it))])) _
            refine XS.lload X89.here hx rfl (hb hby at_130) rfl ?_
            show Steps p.tables e below (T89.setTop (mkF m 132 #[.val (.long q0), .second, iv p1, iv p2, .val (.long q3), .second, iv p3, .val (.long it), .second, iv rc, iv 1, iv 1, rv wm, rv b87, iv 1, .val (.long 1), .second, .unset, .unset, .val (.long ((1 : Int64) * it)), .second, .unset, .unset] [(.long it), (.long ((1 : Int64) * it))])) _
            refine XS.ldiv X89.here hx rfl (hb hby at_132) rfl (own_p2 hp1) ?_
            show Steps p.tables e below (T89.setTop (mkF m 133 #[.val (.long q0), .second, iv p1, iv p2, .val (.long q3), .second, iv p3, .val (.long it), .second, iv rc, iv 1, iv 1, rv wm, rv b87, iv 1, .val (.long 1), .second, .unset, .unset, .val (.long ((1 : Int64) * it)), .second, .unset, .unset] [(.long (((1 : Int64) * it) / it))])) _
            refine XS.lload X89.here hx rfl (hb hby at_133) rfl ?_
            show Steps p.tables e below (T89.setTop (mkF m 135 #[.val (.long q0), .second, iv p1, iv p2, .val (.long q3), .second, iv p3, .val (.long it), .second, iv rc, iv 1, iv 1, rv wm, rv b87, iv 1, .val (.long 1), .second, .unset, .unset, .val (.long ((1 : Int64) * it)), .second, .unset, .unset] [(.long 1), (.long (((1 : Int64) * it) / it))])) _
            refine XS.lcmp X89.here hx rfl (hb hby at_135) rfl ?_
            show Steps p.tables e below (T89.setTop (mkF m 136 #[.val (.long q0), .second, iv p1, iv p2, .val (.long q3), .second, iv p3, .val (.long it), .second, iv rc, iv 1, iv 1, rv wm, rv b87, iv 1, .val (.long 1), .second, .unset, .unset, .val (.long ((1 : Int64) * it)), .second, .unset, .unset] [(.int (lcmpW (((1 : Int64) * it) / it) (1 : Int64)))])) _
            refine XS.ifNo X89.here hx rfl (hb hby at_136) rfl ((if0 _ _).trans (feq (fun q => hc92 ((lw_eq _ _).mp q))).1) ?_
            show Steps p.tables e below (T89.setTop (mkF m 139 #[.val (.long q0), .second, iv p1, iv p2, .val (.long q3), .second, iv p3, .val (.long it), .second, iv rc, iv 1, iv 1, rv wm, rv b87, iv 1, .val (.long 1), .second, .unset, .unset, .val (.long ((1 : Int64) * it)), .second, .unset, .unset] [])) _
            refine X89.ldc2Long hx hown (mvT hZ (hw _ (own_m 0 rfl))) (g := (mkF m 139 #[.val (.long q0), .second, iv p1, iv p2, .val (.long q3), .second, iv p3, .val (.long it), .second, iv rc, iv 1, iv 1, rv wm, rv b87, iv 1, .val (.long 1), .second, .unset, .unset, .val (.long ((1 : Int64) * it)), .second, .unset, .unset] [])) rfl (hb hby at_139) _ ?_
            show Steps p.tables e below (T89.setTop (mkF m 142 #[.val (.long q0), .second, iv p1, iv p2, .val (.long q3), .second, iv p3, .val (.long it), .second, iv rc, iv 1, iv 1, rv wm, rv b87, iv 1, .val (.long 1), .second, .unset, .unset, .val (.long ((1 : Int64) * it)), .second, .unset, .unset] [(.long 9223372036854775807)])) _
            refine XS.goto X89.here hx rfl (pc0 := 142) (pc' := 147) rfl (hb hby at_142) (by decide) (by decide) ?_
            show Steps p.tables e below (T89.setTop (mkF m 147 #[.val (.long q0), .second, iv p1, iv p2, .val (.long q3), .second, iv p3, .val (.long it), .second, iv rc, iv 1, iv 1, rv wm, rv b87, iv 1, .val (.long 1), .second, .unset, .unset, .val (.long ((1 : Int64) * it)), .second, .unset, .unset] [(.long 9223372036854775807)])) _
            refine XS.lstore X89.here hx rfl (hb hby at_147) rfl (l' := #[.val (.long q0), .second, iv p1, iv p2, .val (.long q3), .second, iv p3, .val (.long it), .second, iv rc, iv 1, iv 1, rv wm, rv b87, iv 1, .val (.long 1), .second, .val (.long 9223372036854775807), .second, .val (.long ((1 : Int64) * it)), .second, .unset, .unset]) rfl ?_
            show Steps p.tables e below (T89.setTop (mkF m 149 #[.val (.long q0), .second, iv p1, iv p2, .val (.long q3), .second, iv p3, .val (.long it), .second, iv rc, iv 1, iv 1, rv wm, rv b87, iv 1, .val (.long 1), .second, .val (.long 9223372036854775807), .second, .val (.long ((1 : Int64) * it)), .second, .unset, .unset] [])) _
            exact kt
        have htt : tq = tt := hq.trans hj91.symm
        have Ft : Fld Z T89.heap b87 "com/example/vsyncopate/vsyncopate/animation/Timeline" "totalNanos" "J" (.long tt) := htt ▸ Ftq
        obtain ⟨pp, T93, Lj93, hj93, X93, N93, e93, st93⟩ := own_pp1 w_A w_B (.val (.long q0)) (.second) (iv p1) (iv p2) (.val (.long it)) (.second) (iv rc) (iv 1) (iv 1) (rv wm) (rv b87) (iv 1) (.val (.long 1)) (.second) (q3) (p3) (tt) (((1 : Int64) * it)) X91 hx hZ hw hby hml hown e91 N91 O90 S_A S_B 
        obtain ⟨cq94, kq94, q94a, q94b, q94c⟩ := isOf hZ e93 Eq
        obtain ⟨_, _, ⟨T94, L94, k94, n94⟩, -, X94, ⟨Lc94, hQ94, l94, y94, z94⟩, st94⟩ := X93.virtualBack hx (y := (⟨"com/example/vsyncopate/vsyncopate/animation/Timeline", "isOver", "(JZ)Z"⟩ : MethodName)) (z := (⟨"com/example/vsyncopate/vsyncopate/animation/Timeline", "isOver", "(JZ)Z"⟩ : MethodName)) hown (mvT hZ (hw _ (own_m 29 rfl))) (mvT hZ (hw _ (own_m 30 rfl))) (notFace_of_selects (args := #[]) (mvT hZ (hw _ (own_m 32 rfl)))) (mvT hZ (hw _ (own_m 32 rfl))) (mvT hZ (hw _ (own_m 31 rfl))) (by decide) (backOf (W := 0) (own_ovE1 l Z a0 hw [] w_A w_B b87 pp tt T89.heap n0 O90 S_A S_B Fe Ft) hZ (hw _ (own_m 33 rfl)) (hw _ (own_m 7 rfl)) (by decide) (by decide)) q94a q94c (g := (mkF m 311 #[.val (.long q0), .second, iv p1, iv p2, .val (.long q3), .second, iv p3, .val (.long it), .second, iv rc, iv 1, iv 1, rv wm, rv b87, iv 1, .val (.long 1), .second, .val (.long tt), .second, .val (.int ((p3 &&& (2147483647 : Int32)) % (7 : Int32))), .val (.long pp), .second, iv 0] [(.int 1), (.long pp), (.ref b87)])) rfl (by rw [hml]; rfl) (Steps.refl _) (argsL := [(.long pp), (.int 1)]) (rest := []) (lenOf own_pd2 rfl) rfl (by show 2 * 0 + _ ≤ _; exact Nat.le_of_eq rfl) (hb hby at_311) (fun _ _ => ⟨rfl, e93, (by decide : 1 + 0 ≤ _), (by decide : 5 + 0 ≤ _)⟩)
        dsimp only [Pt.U, Pt.locs, Pt.cells, Pt.slots] at X94 l94 y94 z94 st94 hQ94
        subst l94 y94 z94
        obtain ⟨rfl, N94q, e94⟩ := hQ94
        have N94 := Fr.app N93 N94q
        obtain ⟨fs, hr, hrun, hended, hW, hsame⟩ := X94.leave (v := some (.int 1)) (fun h => by rw [Bd.returns] at h; cases h)
        refine ⟨_, _, pre76 _ ?_, hrun, hended, _, _, rfl, ?_, ⟨_, rfl⟩, hW, hsame.mono (by decide) (by decide)⟩
        · show Steps p.tables e below (s₁.setTop (mkF m 28 #[.val (.long q0), .second, iv p1, iv p2, .val (.long q3), .second, iv p3, .val (.long it), .second, iv rc, iv 1, .unset, .unset, .unset, .unset, .unset, .unset, .unset, .unset, .unset, .unset, .unset, .unset] [(.int 2), (.int p2)])) _
          refine XS.iand X0.here hx rfl (hb hby at_28) rfl ?_
          show Steps p.tables e below (s₁.setTop (mkF m 29 #[.val (.long q0), .second, iv p1, iv p2, .val (.long q3), .second, iv p3, .val (.long it), .second, iv rc, iv 1, .unset, .unset, .unset, .unset, .unset, .unset, .unset, .unset, .unset, .unset, .unset, .unset] [(.int (p2 &&& (2 : Int32)))])) _
          refine XS.ifNo X0.here hx rfl (hb hby at_29) rfl ((if0 _ _).trans (feq hc75).1) ?_
          show Steps p.tables e below (s₁.setTop (mkF m 32 #[.val (.long q0), .second, iv p1, iv p2, .val (.long q3), .second, iv p3, .val (.long it), .second, iv rc, iv 1, .unset, .unset, .unset, .unset, .unset, .unset, .unset, .unset, .unset, .unset, .unset, .unset] [])) _
          refine XS.iconst X0.here hx rfl (hb hby at_32) ?_
          show Steps p.tables e below (s₁.setTop (mkF m 33 #[.val (.long q0), .second, iv p1, iv p2, .val (.long q3), .second, iv p3, .val (.long it), .second, iv rc, iv 1, .unset, .unset, .unset, .unset, .unset, .unset, .unset, .unset, .unset, .unset, .unset, .unset] [(.int 1)])) _
          refine XS.goto X0.here hx rfl (pc0 := 33) (pc' := 37) rfl (hb hby at_33) (by decide) (by decide) ?_
          show Steps p.tables e below (s₁.setTop (mkF m 37 #[.val (.long q0), .second, iv p1, iv p2, .val (.long q3), .second, iv p3, .val (.long it), .second, iv rc, iv 1, .unset, .unset, .unset, .unset, .unset, .unset, .unset, .unset, .unset, .unset, .unset, .unset] [(.int 1)])) _
          refine XS.istore X0.here hx rfl (hb hby at_37) rfl (l' := #[.val (.long q0), .second, iv p1, iv p2, .val (.long q3), .second, iv p3, .val (.long it), .second, iv rc, iv 1, iv 1, .unset, .unset, .unset, .unset, .unset, .unset, .unset, .unset, .unset, .unset, .unset]) rfl ?_
          show Steps p.tables e below (s₁.setTop (mkF m 39 #[.val (.long q0), .second, iv p1, iv p2, .val (.long q3), .second, iv p3, .val (.long it), .second, iv rc, iv 1, iv 1, .unset, .unset, .unset, .unset, .unset, .unset, .unset, .unset, .unset, .unset, .unset] [])) _
          refine st86 _ ?_
          show Steps p.tables e below (T86.setTop (mkF m 54 #[.val (.long q0), .second, iv p1, iv p2, .val (.long q3), .second, iv p3, .val (.long it), .second, iv rc, iv 1, iv 1, .unset, .unset, .unset, .unset, .unset, .unset, .unset, .unset, .unset, .unset, .unset] [(.ref wm)])) _
          refine XS.astore X86.here hx rfl (hb hby at_54) rfl rfl (l' := #[.val (.long q0), .second, iv p1, iv p2, .val (.long q3), .second, iv p3, .val (.long it), .second, iv rc, iv 1, iv 1, rv wm, .unset, .unset, .unset, .unset, .unset, .unset, .unset, .unset, .unset, .unset]) rfl ?_
          show Steps p.tables e below (T86.setTop (mkF m 56 #[.val (.long q0), .second, iv p1, iv p2, .val (.long q3), .second, iv p3, .val (.long it), .second, iv rc, iv 1, iv 1, rv wm, .unset, .unset, .unset, .unset, .unset, .unset, .unset, .unset, .unset, .unset] [])) _
          refine st87 _ ?_
          show Steps p.tables e below (T87.setTop (mkF m 59 #[.val (.long q0), .second, iv p1, iv p2, .val (.long q3), .second, iv p3, .val (.long it), .second, iv rc, iv 1, iv 1, rv wm, .unset, .unset, .unset, .unset, .unset, .unset, .unset, .unset, .unset, .unset] [(.ref b87)])) _
          refine XS.dup X87.here hx rfl (hb hby at_59) rfl rfl ?_
          show Steps p.tables e below (T87.setTop (mkF m 60 #[.val (.long q0), .second, iv p1, iv p2, .val (.long q3), .second, iv p3, .val (.long it), .second, iv rc, iv 1, iv 1, rv wm, .unset, .unset, .unset, .unset, .unset, .unset, .unset, .unset, .unset, .unset] [(.ref b87), (.ref b87)])) _
          refine XS.lload X87.here hx rfl (hb hby at_60) rfl ?_
          show Steps p.tables e below (T87.setTop (mkF m 62 #[.val (.long q0), .second, iv p1, iv p2, .val (.long q3), .second, iv p3, .val (.long it), .second, iv rc, iv 1, iv 1, rv wm, .unset, .unset, .unset, .unset, .unset, .unset, .unset, .unset, .unset, .unset] [(.long it), (.ref b87), (.ref b87)])) _
          refine XS.iload X87.here hx rfl (hb hby at_62) rfl ?_
          show Steps p.tables e below (T87.setTop (mkF m 64 #[.val (.long q0), .second, iv p1, iv p2, .val (.long q3), .second, iv p3, .val (.long it), .second, iv rc, iv 1, iv 1, rv wm, .unset, .unset, .unset, .unset, .unset, .unset, .unset, .unset, .unset, .unset] [(.int rc), (.long it), (.ref b87), (.ref b87)])) _
          refine XS.iload X87.here hx rfl (hb hby at_64) rfl ?_
          show Steps p.tables e below (T87.setTop (mkF m 66 #[.val (.long q0), .second, iv p1, iv p2, .val (.long q3), .second, iv p3, .val (.long it), .second, iv rc, iv 1, iv 1, rv wm, .unset, .unset, .unset, .unset, .unset, .unset, .unset, .unset, .unset, .unset] [(.int 1), (.int rc), (.long it), (.ref b87), (.ref b87)])) _
          refine XS.aload X87.here hx rfl (hb hby at_66) rfl rfl ?_
          show Steps p.tables e below (T87.setTop (mkF m 68 #[.val (.long q0), .second, iv p1, iv p2, .val (.long q3), .second, iv p3, .val (.long it), .second, iv rc, iv 1, iv 1, rv wm, .unset, .unset, .unset, .unset, .unset, .unset, .unset, .unset, .unset, .unset] [(.ref wm), (.int 1), (.int rc), (.long it), (.ref b87), (.ref b87)])) _
          refine st89.trans ?_
          show Steps p.tables e below (T89.setTop (mkF m 71 #[.val (.long q0), .second, iv p1, iv p2, .val (.long q3), .second, iv p3, .val (.long it), .second, iv rc, iv 1, iv 1, rv wm, .unset, .unset, .unset, .unset, .unset, .unset, .unset, .unset, .unset, .unset] [(.ref b87)])) _
          refine XS.astore X89.here hx rfl (hb hby at_71) rfl rfl (l' := #[.val (.long q0), .second, iv p1, iv p2, .val (.long q3), .second, iv p3, .val (.long it), .second, iv rc, iv 1, iv 1, rv wm, rv b87, .unset, .unset, .unset, .unset, .unset, .unset, .unset, .unset, .unset]) rfl ?_
          show Steps p.tables e below (T89.setTop (mkF m 73 #[.val (.long q0), .second, iv p1, iv p2, .val (.long q3), .second, iv p3, .val (.long it), .second, iv rc, iv 1, iv 1, rv wm, rv b87, .unset, .unset, .unset, .unset, .unset, .unset, .unset, .unset, .unset] [])) _
          refine XS.iload X89.here hx rfl (hb hby at_73) rfl ?_
          show Steps p.tables e below (T89.setTop (mkF m 75 #[.val (.long q0), .second, iv p1, iv p2, .val (.long q3), .second, iv p3, .val (.long it), .second, iv rc, iv 1, iv 1, rv wm, rv b87, .unset, .unset, .unset, .unset, .unset, .unset, .unset, .unset, .unset] [(.int 1)])) _
          refine XS.ifNo X89.here hx rfl (hb hby at_75) rfl ((if0 _ _).trans (feq (by decide)).1) ?_
          show Steps p.tables e below (T89.setTop (mkF m 78 #[.val (.long q0), .second, iv p1, iv p2, .val (.long q3), .second, iv p3, .val (.long it), .second, iv rc, iv 1, iv 1, rv wm, rv b87, .unset, .unset, .unset, .unset, .unset, .unset, .unset, .unset, .unset] [])) _
          refine XS.lload X89.here hx rfl (hb hby at_78) rfl ?_
          show Steps p.tables e below (T89.setTop (mkF m 80 #[.val (.long q0), .second, iv p1, iv p2, .val (.long q3), .second, iv p3, .val (.long it), .second, iv rc, iv 1, iv 1, rv wm, rv b87, .unset, .unset, .unset, .unset, .unset, .unset, .unset, .unset, .unset] [(.long it)])) _
          refine XS.lconst X89.here hx rfl (hb hby at_80) ?_
          show Steps p.tables e below (T89.setTop (mkF m 81 #[.val (.long q0), .second, iv p1, iv p2, .val (.long q3), .second, iv p3, .val (.long it), .second, iv rc, iv 1, iv 1, rv wm, rv b87, .unset, .unset, .unset, .unset, .unset, .unset, .unset, .unset, .unset] [(.long 0), (.long it)])) _
          refine XS.lcmp X89.here hx rfl (hb hby at_81) rfl ?_
          show Steps p.tables e below (T89.setTop (mkF m 82 #[.val (.long q0), .second, iv p1, iv p2, .val (.long q3), .second, iv p3, .val (.long it), .second, iv rc, iv 1, iv 1, rv wm, rv b87, .unset, .unset, .unset, .unset, .unset, .unset, .unset, .unset, .unset] [(.int (lcmpW it (0 : Int64)))])) _
          refine XS.ifNo X89.here hx rfl (hb hby at_82) rfl ((if0 _ _).trans (tlt ((lw_gt _ _).mpr (own_p1 hp1))).2.2.2) ?_
          show Steps p.tables e below (T89.setTop (mkF m 85 #[.val (.long q0), .second, iv p1, iv p2, .val (.long q3), .second, iv p3, .val (.long it), .second, iv rc, iv 1, iv 1, rv wm, rv b87, .unset, .unset, .unset, .unset, .unset, .unset, .unset, .unset, .unset] [])) _
          refine XS.iconst X89.here hx rfl (hb hby at_85) ?_
          show Steps p.tables e below (T89.setTop (mkF m 86 #[.val (.long q0), .second, iv p1, iv p2, .val (.long q3), .second, iv p3, .val (.long it), .second, iv rc, iv 1, iv 1, rv wm, rv b87, .unset, .unset, .unset, .unset, .unset, .unset, .unset, .unset, .unset] [(.int 1)])) _
          refine XS.goto X89.here hx rfl (pc0 := 86) (pc' := 90) rfl (hb hby at_86) (by decide) (by decide) ?_
          show Steps p.tables e below (T89.setTop (mkF m 90 #[.val (.long q0), .second, iv p1, iv p2, .val (.long q3), .second, iv p3, .val (.long it), .second, iv rc, iv 1, iv 1, rv wm, rv b87, .unset, .unset, .unset, .unset, .unset, .unset, .unset, .unset, .unset] [(.int 1)])) _
          refine XS.istore X89.here hx rfl (hb hby at_90) rfl (l' := #[.val (.long q0), .second, iv p1, iv p2, .val (.long q3), .second, iv p3, .val (.long it), .second, iv rc, iv 1, iv 1, rv wm, rv b87, iv 1, .unset, .unset, .unset, .unset, .unset, .unset, .unset, .unset]) rfl ?_
          show Steps p.tables e below (T89.setTop (mkF m 92 #[.val (.long q0), .second, iv p1, iv p2, .val (.long q3), .second, iv p3, .val (.long it), .second, iv rc, iv 1, iv 1, rv wm, rv b87, iv 1, .unset, .unset, .unset, .unset, .unset, .unset, .unset, .unset] [])) _
          refine XS.iload X89.here hx rfl (hb hby at_92) rfl ?_
          show Steps p.tables e below (T89.setTop (mkF m 94 #[.val (.long q0), .second, iv p1, iv p2, .val (.long q3), .second, iv p3, .val (.long it), .second, iv rc, iv 1, iv 1, rv wm, rv b87, iv 1, .unset, .unset, .unset, .unset, .unset, .unset, .unset, .unset] [(.int 1)])) _
          refine XS.ifNo X89.here hx rfl (hb hby at_94) rfl ((if0 _ _).trans (feq (by decide)).1) ?_
          show Steps p.tables e below (T89.setTop (mkF m 97 #[.val (.long q0), .second, iv p1, iv p2, .val (.long q3), .second, iv p3, .val (.long it), .second, iv rc, iv 1, iv 1, rv wm, rv b87, iv 1, .unset, .unset, .unset, .unset, .unset, .unset, .unset, .unset] [])) _
          refine XS.lconst X89.here hx rfl (hb hby at_97) ?_
          show Steps p.tables e below (T89.setTop (mkF m 98 #[.val (.long q0), .second, iv p1, iv p2, .val (.long q3), .second, iv p3, .val (.long it), .second, iv rc, iv 1, iv 1, rv wm, rv b87, iv 1, .unset, .unset, .unset, .unset, .unset, .unset, .unset, .unset] [(.long 1)])) _
          refine XS.goto X89.here hx rfl (pc0 := 98) (pc' := 106) rfl (hb hby at_98) (by decide) (by decide) ?_
          show Steps p.tables e below (T89.setTop (mkF m 106 #[.val (.long q0), .second, iv p1, iv p2, .val (.long q3), .second, iv p3, .val (.long it), .second, iv rc, iv 1, iv 1, rv wm, rv b87, iv 1, .unset, .unset, .unset, .unset, .unset, .unset, .unset, .unset] [(.long 1)])) _
          refine XS.lstore X89.here hx rfl (hb hby at_106) rfl (l' := #[.val (.long q0), .second, iv p1, iv p2, .val (.long q3), .second, iv p3, .val (.long it), .second, iv rc, iv 1, iv 1, rv wm, rv b87, iv 1, .val (.long 1), .second, .unset, .unset, .unset, .unset, .unset, .unset]) rfl ?_
          show Steps p.tables e below (T89.setTop (mkF m 108 #[.val (.long q0), .second, iv p1, iv p2, .val (.long q3), .second, iv p3, .val (.long it), .second, iv rc, iv 1, iv 1, rv wm, rv b87, iv 1, .val (.long 1), .second, .unset, .unset, .unset, .unset, .unset, .unset] [])) _
          refine XS.lload X89.here hx rfl (hb hby at_108) rfl ?_
          show Steps p.tables e below (T89.setTop (mkF m 110 #[.val (.long q0), .second, iv p1, iv p2, .val (.long q3), .second, iv p3, .val (.long it), .second, iv rc, iv 1, iv 1, rv wm, rv b87, iv 1, .val (.long 1), .second, .unset, .unset, .unset, .unset, .unset, .unset] [(.long it)])) _
          refine XS.lconst X89.here hx rfl (hb hby at_110) ?_
          show Steps p.tables e below (T89.setTop (mkF m 111 #[.val (.long q0), .second, iv p1, iv p2, .val (.long q3), .second, iv p3, .val (.long it), .second, iv rc, iv 1, iv 1, rv wm, rv b87, iv 1, .val (.long 1), .second, .unset, .unset, .unset, .unset, .unset, .unset] [(.long 0), (.long it)])) _
          refine XS.lcmp X89.here hx rfl (hb hby at_111) rfl ?_
          show Steps p.tables e below (T89.setTop (mkF m 112 #[.val (.long q0), .second, iv p1, iv p2, .val (.long q3), .second, iv p3, .val (.long it), .second, iv rc, iv 1, iv 1, rv wm, rv b87, iv 1, .val (.long 1), .second, .unset, .unset, .unset, .unset, .unset, .unset] [(.int (lcmpW it (0 : Int64)))])) _
          refine XS.ifYes X89.here hx rfl (pc0 := 112) (pc' := 121) rfl (hb hby at_112) rfl ((if0 _ _).trans (feq (fun q => (own_p2 hp1) ((lw_eq _ _).mp q))).2) (by decide) (by decide) ?_
          show Steps p.tables e below (T89.setTop (mkF m 121 #[.val (.long q0), .second, iv p1, iv p2, .val (.long q3), .second, iv p3, .val (.long it), .second, iv rc, iv 1, iv 1, rv wm, rv b87, iv 1, .val (.long 1), .second, .unset, .unset, .unset, .unset, .unset, .unset] [])) _
          refine st91 _ ?_
          show Steps p.tables e below (T91.setTop (mkF m 149 #[.val (.long q0), .second, iv p1, iv p2, .val (.long q3), .second, iv p3, .val (.long it), .second, iv rc, iv 1, iv 1, rv wm, rv b87, iv 1, .val (.long 1), .second, .val (.long tt), .second, .val (.long ((1 : Int64) * it)), .second, .unset, .unset] [])) _
          refine st93 _ ?_
          show Steps p.tables e below (T93.setTop (mkF m 257 #[.val (.long q0), .second, iv p1, iv p2, .val (.long q3), .second, iv p3, .val (.long it), .second, iv rc, iv 1, iv 1, rv wm, rv b87, iv 1, .val (.long 1), .second, .val (.long tt), .second, .val (.int ((p3 &&& (2147483647 : Int32)) % (7 : Int32))), .val (.long pp), .second, .unset] [])) _
          refine XS.iload X93.here hx rfl (hb hby at_257) rfl ?_
          show Steps p.tables e below (T93.setTop (mkF m 259 #[.val (.long q0), .second, iv p1, iv p2, .val (.long q3), .second, iv p3, .val (.long it), .second, iv rc, iv 1, iv 1, rv wm, rv b87, iv 1, .val (.long 1), .second, .val (.long tt), .second, .val (.int ((p3 &&& (2147483647 : Int32)) % (7 : Int32))), .val (.long pp), .second, .unset] [(.int 1)])) _
          refine XS.ifNo X93.here hx rfl (hb hby at_259) rfl ((if0 _ _).trans (feq (by decide)).1) ?_
          show Steps p.tables e below (T93.setTop (mkF m 262 #[.val (.long q0), .second, iv p1, iv p2, .val (.long q3), .second, iv p3, .val (.long it), .second, iv rc, iv 1, iv 1, rv wm, rv b87, iv 1, .val (.long 1), .second, .val (.long tt), .second, .val (.int ((p3 &&& (2147483647 : Int32)) % (7 : Int32))), .val (.long pp), .second, .unset] [])) _
          refine XS.iconst X93.here hx rfl (hb hby at_262) ?_
          show Steps p.tables e below (T93.setTop (mkF m 263 #[.val (.long q0), .second, iv p1, iv p2, .val (.long q3), .second, iv p3, .val (.long it), .second, iv rc, iv 1, iv 1, rv wm, rv b87, iv 1, .val (.long 1), .second, .val (.long tt), .second, .val (.int ((p3 &&& (2147483647 : Int32)) % (7 : Int32))), .val (.long pp), .second, .unset] [(.int 0)])) _
          refine XS.istore X93.here hx rfl (hb hby at_263) rfl (l' := #[.val (.long q0), .second, iv p1, iv p2, .val (.long q3), .second, iv p3, .val (.long it), .second, iv rc, iv 1, iv 1, rv wm, rv b87, iv 1, .val (.long 1), .second, .val (.long tt), .second, .val (.int ((p3 &&& (2147483647 : Int32)) % (7 : Int32))), .val (.long pp), .second, iv 0]) rfl ?_
          show Steps p.tables e below (T93.setTop (mkF m 265 #[.val (.long q0), .second, iv p1, iv p2, .val (.long q3), .second, iv p3, .val (.long it), .second, iv rc, iv 1, iv 1, rv wm, rv b87, iv 1, .val (.long 1), .second, .val (.long tt), .second, .val (.int ((p3 &&& (2147483647 : Int32)) % (7 : Int32))), .val (.long pp), .second, iv 0] [])) _
          refine XS.goto X93.here hx rfl (pc0 := 265) (pc' := 305) rfl (hb hby at_265) (by decide) (by decide) ?_
          show Steps p.tables e below (T93.setTop (mkF m 305 #[.val (.long q0), .second, iv p1, iv p2, .val (.long q3), .second, iv p3, .val (.long it), .second, iv rc, iv 1, iv 1, rv wm, rv b87, iv 1, .val (.long 1), .second, .val (.long tt), .second, .val (.int ((p3 &&& (2147483647 : Int32)) % (7 : Int32))), .val (.long pp), .second, iv 0] [])) _
          refine XS.aload X93.here hx rfl (hb hby at_305) rfl rfl ?_
          show Steps p.tables e below (T93.setTop (mkF m 307 #[.val (.long q0), .second, iv p1, iv p2, .val (.long q3), .second, iv p3, .val (.long it), .second, iv rc, iv 1, iv 1, rv wm, rv b87, iv 1, .val (.long 1), .second, .val (.long tt), .second, .val (.int ((p3 &&& (2147483647 : Int32)) % (7 : Int32))), .val (.long pp), .second, iv 0] [(.ref b87)])) _
          refine XS.lload X93.here hx rfl (hb hby at_307) rfl ?_
          show Steps p.tables e below (T93.setTop (mkF m 309 #[.val (.long q0), .second, iv p1, iv p2, .val (.long q3), .second, iv p3, .val (.long it), .second, iv rc, iv 1, iv 1, rv wm, rv b87, iv 1, .val (.long 1), .second, .val (.long tt), .second, .val (.int ((p3 &&& (2147483647 : Int32)) % (7 : Int32))), .val (.long pp), .second, iv 0] [(.long pp), (.ref b87)])) _
          refine XS.iload X93.here hx rfl (hb hby at_309) rfl ?_
          show Steps p.tables e below (T93.setTop (mkF m 311 #[.val (.long q0), .second, iv p1, iv p2, .val (.long q3), .second, iv p3, .val (.long it), .second, iv rc, iv 1, iv 1, rv wm, rv b87, iv 1, .val (.long 1), .second, .val (.long tt), .second, .val (.int ((p3 &&& (2147483647 : Int32)) % (7 : Int32))), .val (.long pp), .second, iv 0] [(.int 1), (.long pp), (.ref b87)])) _
          refine st94.trans ?_
          show Steps p.tables e below (T94.setTop (mkF m 314 #[.val (.long q0), .second, iv p1, iv p2, .val (.long q3), .second, iv p3, .val (.long it), .second, iv rc, iv 1, iv 1, rv wm, rv b87, iv 1, .val (.long 1), .second, .val (.long tt), .second, .val (.int ((p3 &&& (2147483647 : Int32)) % (7 : Int32))), .val (.long pp), .second, iv 0] [(.int 0)])) _
          refine XS.iload X94.here hx rfl (hb hby at_314) rfl ?_
          show Steps p.tables e below (T94.setTop (mkF m 316 #[.val (.long q0), .second, iv p1, iv p2, .val (.long q3), .second, iv p3, .val (.long it), .second, iv rc, iv 1, iv 1, rv wm, rv b87, iv 1, .val (.long 1), .second, .val (.long tt), .second, .val (.int ((p3 &&& (2147483647 : Int32)) % (7 : Int32))), .val (.long pp), .second, iv 0] [(.int 0), (.int 0)])) _
          refine XS.icmpNo X94.here hx rfl (hb hby at_316) rfl (teq (by decide)).2 ?_
          show Steps p.tables e below (T94.setTop (mkF m 319 #[.val (.long q0), .second, iv p1, iv p2, .val (.long q3), .second, iv p3, .val (.long it), .second, iv rc, iv 1, iv 1, rv wm, rv b87, iv 1, .val (.long 1), .second, .val (.long tt), .second, .val (.int ((p3 &&& (2147483647 : Int32)) % (7 : Int32))), .val (.long pp), .second, iv 0] [])) _
          refine XS.iconst X94.here hx rfl (hb hby at_319) ?_
          show Steps p.tables e below (T94.setTop (mkF m 320 #[.val (.long q0), .second, iv p1, iv p2, .val (.long q3), .second, iv p3, .val (.long it), .second, iv rc, iv 1, iv 1, rv wm, rv b87, iv 1, .val (.long 1), .second, .val (.long tt), .second, .val (.int ((p3 &&& (2147483647 : Int32)) % (7 : Int32))), .val (.long pp), .second, iv 0] [(.int 1)])) _
          refine XS.goto X94.here hx rfl (pc0 := 320) (pc' := 324) rfl (hb hby at_320) (by decide) (by decide) ?_
          show Steps p.tables e below (T94.setTop (mkF m 324 #[.val (.long q0), .second, iv p1, iv p2, .val (.long q3), .second, iv p3, .val (.long it), .second, iv rc, iv 1, iv 1, rv wm, rv b87, iv 1, .val (.long 1), .second, .val (.long tt), .second, .val (.int ((p3 &&& (2147483647 : Int32)) % (7 : Int32))), .val (.long pp), .second, iv 0] [(.int 1)])) _
          exact retN X94 hx (t := .boolean) Bd.returns (by simp) (hb hby at_324) hr
        · show own_law_Q Z w_A w_B q0 p1 p2 q3 p3 h0 n0 _ T94.heap _
          rw [e94]
          exact ⟨rfl, N94⟩
set_option maxRecDepth 65536 in
set_option maxHeartbeats 40000000 in
theorem comes_1 {Post : Tables → Env → Array Value → State → Outcome → State → Prop} (hpost : ∀ tb e args s v u, (limb_1_1.after args s (.returned v) u = true ∧ limb_1_2.after args s (.returned v) u = true ∧ True) → FrameEnd s (.returned v) u (Jvm.fieldLocs frame_1_writes args s ++ Jvm.arrayLocs frame_1_arrays args s ++ Jvm.staticLocs frame_1_statics s) 16 128 → Post tb e args s (.returned v) u) :
    ArmFor flags0 classFile x code maxLocals ret World_1 tables_1 room_1 Calls_1 rest_1 Pre_1 Post := by
  intro l hfl _ _ p e ha hc hk s m args below hf hA hF happ hP
  obtain ⟨hcalls, hrest, hpre⟩ := hP
  obtain ⟨-, -, -, hnamed, -, -, -, hat⟩ := (Spec.applies_iff hf).mp happ
  obtain ⟨hg, hn⟩ := and_e (Cond.before_iff.mp (show (Jvm.Cond.and given_1 narrow_1).before args s = true from hpre))
  obtain ⟨hq1, hq2⟩ := and_e hg
  obtain ⟨hq3, hq4⟩ := and_e hq2
  obtain ⟨hq5, hq6⟩ := and_e hq4
  obtain ⟨hq7, hq8⟩ := and_e hq6
  obtain ⟨hq9, hq10⟩ := and_e hq8
  obtain ⟨w0, w1, w2, w3, w4, rfl⟩ : ∃ w0 w1 w2 w3 w4 : Value, args = #[w0, w1, w2, w3, w4] := by
    have hs : args.size = 5 := by simpa [Cond.value, given_1] using hq1
    obtain ⟨L⟩ := args
    match L, hs with
    | [w0, w1, w2, w3, w4], _ => exact ⟨w0, w1, w2, w3, w4, rfl⟩
  have hw := fun d (hd : d ∈ tables_1) => atoms_spec (ws := Jvm.Cond.code x code maxLocals ret :: tables_1) hat d (List.mem_cons_of_mem _ hd)
  have hfit : Fit s := fun {y c} hc i hi => by
    obtain ⟨ha, rfl⟩ := Array.getElem?_eq_some_iff.mp hc
    have q := List.all_eq_true.mp ((Array.all_eq_true_iff_forall_mem.mp hF) _ (Array.getElem_mem ha)) i (List.mem_range.mpr hi)
    simpa [Array.getElem?_eq_getElem hi] using q
  obtain ⟨i0, ei0⟩ := isL_v hq3
  obtain rfl : w0 = (.long i0) := Option.some.inj ei0
  obtain ⟨i1, ei1⟩ := is_v hq5
  obtain rfl : w1 = (.int i1) := Option.some.inj ei1
  obtain ⟨i2, ei2⟩ := is_v hq7
  obtain rfl : w2 = (.int i2) := Option.some.inj ei2
  obtain ⟨i3, ei3⟩ := isL_v hq9
  obtain rfl : w3 = (.long i3) := Option.some.inj ei3
  obtain ⟨i4, ei4⟩ := is_v hq10
  obtain rfl : w4 = (.int i4) := Option.some.inj ei4
  obtain ⟨hq11, hq12⟩ := and_e hn
  obtain ⟨w_A, ev_A⟩ := exa_v hq11
  have S_A : Sta s s.heap "com/example/vsyncopate/vsyncopate/animation/RepeatMode" "RESTART" "Lcom/example/vsyncopate/vsyncopate/animation/RepeatMode;" (.ref w_A) := Sta.start ev_A (Or.inr ⟨(hw _ (own_m 3 rfl)), (hw _ (own_m 4 rfl))⟩)
  obtain ⟨w_B, ev_B⟩ := exa_v hq12
  have S_B : Sta s s.heap "com/example/vsyncopate/vsyncopate/animation/RepeatMode" "REVERSE" "Lcom/example/vsyncopate/vsyncopate/animation/RepeatMode;" (.ref w_B) := Sta.start ev_B (Or.inr ⟨(hw _ (own_m 3 rfl)), (hw _ (own_m 35 rfl))⟩)
  obtain ⟨n, o, h1, h2, h3, _, L, rfl, ⟨rfl, N⟩, hq⟩ := own_law l s _ hw tables_1 w_A w_B i0 i1 i2 i3 i4 s.heap s.heap.size (Old.start s) S_A S_B p e ha hc hk s m _ below hf ((Spec.applies_iff_loose hf).mp happ).1 ⟨rfl, State.Warmed39.refl s, rfl⟩ trivial
  refine ⟨n, _, h1, h2, h3, hpost _ _ _ _ _ _ ⟨Cond.after_iff.mpr rfl, Cond.after_iff.mpr (eq_i res_at (Term.int_eval (1)) rfl), trivial⟩ ⟨hq.1, hq.2.1, (hq.2.2.sift fun y hy => Or.inr (N y hy)).mono (by decide) (by decide)⟩⟩
theorem main_1_1 : Claimed_1_1 := comes_1 fun _ _ _ _ _ _ h hF => ⟨h.1, hF⟩
theorem main_1_2 : Claimed_1_2 := comes_1 fun _ _ _ _ _ _ h hF => ⟨h.2.1, hF⟩
end Jvm.Pilot.@@N@@
namespace Jvm.Pilot.@@N@@
open Jvm Jvm.ClassFile Sem Op Lib Jvm.Free Jvm.Stand Jvm.Pilot.@@N@@.Jvm.D
/-! MADE BY PROGRAM (witnessworld.py) out of the Statement's table words and the real class files: 12 classes; the members and pool entries that the words name. The judged class is class 1, her method 1. -/
namespace start1
open Jvm.ClassFile
def u (s : String) : CpInfo := .utf8 (stringToUtf16 s)
/-- a pool by its gaps: so many unusable entries, then the entry; so many at the end -/
def gap : Nat → List CpInfo → List CpInfo
  | 0, r => r
  | n + 1, r => .unusable :: gap n r
def poolList (es : List (Nat × CpInfo)) (last : Nat) : List CpInfo := es.foldr (fun e r => gap e.1 (e.2 :: r)) (gap last [])
def pool (es : List (Nat × CpInfo)) (last : Nat) : Array CpInfo := ⟨poolList es last⟩
def fileOf (pool : Array CpInfo) (this : Nat) (attrs : Array Attribute := #[]) (ms : Array MethodInfo := #[]) (fl : Nat := 33) (sup : Nat := 0) (ifs : Array Nat := #[]) (fds : Array FieldInfo := #[]) : ClassFile where
  minorVersion := 0
  majorVersion := 65
  constantPool := pool
  accessFlags := fl
  thisClass := this
  superClass := sup
  interfaces := ifs
  fields := fds
  methods := ms
  attributes := attrs
def plain (name : String) (sup : Option ClassId) : Class where
  name := name
  kind := .ordinary
  loader := none
  accessFlags := 33
  super := sup
  interfaces := #[]
  cf := none
  fields := #[]
  methods := #[]
  instanceTypes := #[]
  staticTypes := #[]
  resolved := #[]
  callSites := []
  init := .initialized
  statics := none
  mirror := none

def pool0 : Array CpInfo := pool [(5, u "<init>"), (0, u "()V"), (1, .class_ 10), (1, u "java/lang/Object")] 113

def k0c0 : Code := { maxStack := 0, maxLocals := 1, code := object_method_1_code, exceptionTable := #[], attributes := #[] }
def k0m0 : Method := { name := "<init>", desc := "()V", sig := { parameters := [], returnType := none }, accessFlags := 1, code := some k0c0 }
/-- java/lang/Object -/
def k0 : Class := { plain "java/lang/Object" none with
  accessFlags := 33
  interfaces := #[]
  cf := some (fileOf pool0 8 #[] #[{ accessFlags := 1, nameIndex := 5, descriptorIndex := 6, attributes := #[] }] 33 0 #[] #[])
  fields := #[]
  methods := #[k0m0]
  instanceTypes := #[]
  staticTypes := #[]
  resolved := Array.replicate 124 none
  statics := none }

def pool1 : Array CpInfo := pool [(2, .class_ 4), (1, u "java/lang/Object"), (0, u "<init>"), (0, u "()V"), (2, .long 9223372036854775807), (1, .integer 2147483647), (0, .fieldref 13 14), (0, .class_ 15), (0, .nameAndType 16 17), (0, u "com/example/vsyncopate/vsyncopate/animation/RepeatMode"), (0, u "REVERSE"), (0, u "Lcom/example/vsyncopate/vsyncopate/animation/RepeatMode;"), (0, .fieldref 13 19), (0, .nameAndType 20 17), (0, u "RESTART"), (0, .class_ 22), (0, u "com/example/vsyncopate/vsyncopate/animation/Timeline"), (0, .methodref 21 24), (0, .nameAndType 5 25), (0, u "(JIZLcom/example/vsyncopate/vsyncopate/animation/RepeatMode;)V"), (0, .long 18446744073709551615), (1, .methodref 21 29), (0, .nameAndType 30 31), (0, u "isOver"), (0, u "(JZ)Z"), (0, .class_ 33), (0, u "com/example/vsyncopate/vsyncopate/animation/TimelineIsOverPinLaw"), (2, u "law"), (0, u "(JIIJI)Z")] 3

def k1m0 : Method := { name := "<init>", desc := "()V", sig := { parameters := [], returnType := none }, accessFlags := 1, code := none }
def k1c1 : Code := { maxStack := 7, maxLocals := 23, code := code, exceptionTable := #[], attributes := #[] }
def k1m1 : Method := { name := "law", desc := "(JIIJI)Z", sig := { parameters := [.long, .int, .int, .long, .int], returnType := some .boolean }, accessFlags := 9, code := some k1c1 }
/-- com/example/vsyncopate/vsyncopate/animation/TimelineIsOverPinLaw -/
def k1 : Class := { plain "com/example/vsyncopate/vsyncopate/animation/TimelineIsOverPinLaw" (some 0) with
  accessFlags := 49
  interfaces := #[]
  cf := some (fileOf pool1 32 #[] #[{ accessFlags := 1, nameIndex := 5, descriptorIndex := 6, attributes := #[] }, { accessFlags := 9, nameIndex := 36, descriptorIndex := 37, attributes := #[] }] 49 2 #[] #[])
  fields := #[]
  methods := #[k1m0, k1m1]
  instanceTypes := #[]
  staticTypes := #[]
  resolved := Array.replicate 41 none
  statics := none }

def pool2 : Array CpInfo := pool [(1, .class_ 2), (0, u "java/lang/constant/Constable"), (0, .class_ 4), (0, u "java/lang/Object")] 6

/-- java/lang/constant/Constable -/
def k2 : Class := { plain "java/lang/constant/Constable" (some 0) with
  accessFlags := 1537
  interfaces := #[]
  cf := some (fileOf pool2 1 #[] #[] 1537 3 #[] #[])
  fields := #[]
  methods := #[]
  instanceTypes := #[]
  staticTypes := #[]
  resolved := Array.replicate 11 none
  statics := none }

def pool3 : Array CpInfo := pool [(1, .class_ 2), (0, u "java/lang/Comparable"), (0, .class_ 4), (0, u "java/lang/Object")] 7

/-- java/lang/Comparable -/
def k3 : Class := { plain "java/lang/Comparable" (some 0) with
  accessFlags := 1537
  interfaces := #[]
  cf := some (fileOf pool3 1 #[] #[] 1537 3 #[] #[])
  fields := #[]
  methods := #[]
  instanceTypes := #[]
  staticTypes := #[]
  resolved := Array.replicate 12 none
  statics := none }

def pool4 : Array CpInfo := pool [(1, .class_ 2), (0, u "java/io/Serializable"), (0, .class_ 4), (0, u "java/lang/Object")] 2

/-- java/io/Serializable -/
def k4 : Class := { plain "java/io/Serializable" (some 0) with
  accessFlags := 1537
  interfaces := #[]
  cf := some (fileOf pool4 1 #[] #[] 1537 3 #[] #[])
  fields := #[]
  methods := #[]
  instanceTypes := #[]
  staticTypes := #[]
  resolved := Array.replicate 7 none
  statics := none }

def pool5 : Array CpInfo := pool [(2, .class_ 4), (1, u "java/lang/Enum"), (0, u "name"), (0, u "Ljava/lang/String;"), (2, u "ordinal"), (0, u "I"), (1, .class_ 14), (1, u "java/lang/Object"), (4, u "hash"), (86, .class_ 108), (1, u "java/lang/Enum$EnumDesc"), (2, .class_ 112), (0, u "java/lang/constant/Constable"), (0, .class_ 114), (0, u "java/lang/Comparable"), (0, .class_ 116), (0, u "java/io/Serializable")] 87

/-- java/lang/Enum -/
def k5 : Class := { plain "java/lang/Enum" (some 0) with
  accessFlags := 1057
  interfaces := #[2, 3, 4]
  cf := some (fileOf pool5 2 #[.nestMembers #[106]] #[] 1057 12 #[111, 113, 115] #[{ accessFlags := 18, nameIndex := 5, descriptorIndex := 6, attributes := #[] }, { accessFlags := 18, nameIndex := 9, descriptorIndex := 10, attributes := #[] }, { accessFlags := 2, nameIndex := 19, descriptorIndex := 10, attributes := #[] }])
  fields := #[{ name := "name", type := (.object "java/lang/String"), accessFlags := 18, slot := 0, constantValue := 0 }, { name := "ordinal", type := .int, accessFlags := 18, slot := 1, constantValue := 0 }, { name := "hash", type := .int, accessFlags := 2, slot := 2, constantValue := 0 }]
  methods := #[]
  instanceTypes := #[(.object "java/lang/String"), .int, .int]
  staticTypes := #[]
  resolved := Array.replicate 204 none
  statics := none }

def pool6 : Array CpInfo := pool [(1, .class_ 2), (0, u "com/example/vsyncopate/vsyncopate/animation/RepeatMode"), (2, u "RESTART"), (0, u "Lcom/example/vsyncopate/vsyncopate/animation/RepeatMode;"), (2, u "REVERSE"), (2, u "$VALUES"), (0, u "[Lcom/example/vsyncopate/vsyncopate/animation/RepeatMode;"), (6, .class_ 22), (1, u "java/lang/Enum")] 24

/-- com/example/vsyncopate/vsyncopate/animation/RepeatMode -/
def k6 : Class := { plain "com/example/vsyncopate/vsyncopate/animation/RepeatMode" (some 5) with
  accessFlags := 16433
  interfaces := #[]
  cf := some (fileOf pool6 1 #[] #[] 16433 20 #[] #[{ accessFlags := 16409, nameIndex := 5, descriptorIndex := 6, attributes := #[] }, { accessFlags := 16409, nameIndex := 9, descriptorIndex := 6, attributes := #[] }, { accessFlags := 4122, nameIndex := 12, descriptorIndex := 13, attributes := #[] }])
  fields := #[{ name := "RESTART", type := (.object "com/example/vsyncopate/vsyncopate/animation/RepeatMode"), accessFlags := 16409, slot := 0, constantValue := 0 }, { name := "REVERSE", type := (.object "com/example/vsyncopate/vsyncopate/animation/RepeatMode"), accessFlags := 16409, slot := 1, constantValue := 0 }, { name := "$VALUES", type := (.array (.object "com/example/vsyncopate/vsyncopate/animation/RepeatMode")), accessFlags := 4122, slot := 2, constantValue := 0 }]
  methods := #[]
  instanceTypes := #[(.object "java/lang/String"), .int, .int]
  staticTypes := #[(.object "com/example/vsyncopate/vsyncopate/animation/RepeatMode"), (.object "com/example/vsyncopate/vsyncopate/animation/RepeatMode"), (.array (.object "com/example/vsyncopate/vsyncopate/animation/RepeatMode"))]
  resolved := Array.replicate 47 none
  statics := some 0 }

def pool7 : Array CpInfo := pool [(1, .methodref 2 3), (0, .class_ 4), (0, .nameAndType 5 6), (0, u "java/lang/Object"), (0, u "<init>"), (0, u "()V"), (0, .fieldref 8 9), (0, .class_ 10), (0, .nameAndType 11 12), (0, u "com/example/vsyncopate/vsyncopate/animation/Timeline"), (0, u "iterationNanos"), (0, u "J"), (0, .fieldref 8 14), (0, .nameAndType 15 16), (0, u "mode"), (0, u "Lcom/example/vsyncopate/vsyncopate/animation/RepeatMode;"), (0, .fieldref 8 18), (0, .nameAndType 19 20), (0, u "endless"), (0, u "Z"), (0, .fieldref 8 22), (0, .nameAndType 23 12), (0, u "iterations"), (2, .long 9223372036854775807), (1, .methodref 29 30), (0, .class_ 31), (0, .nameAndType 32 33), (0, u "java/lang/Math"), (0, u "max"), (0, u "(JJ)J"), (0, .fieldref 8 35), (0, .nameAndType 36 12), (0, u "totalNanos"), (46, u "(JZ)Z"), (0, u "(JIZLcom/example/vsyncopate/vsyncopate/animation/RepeatMode;)V"), (8, u "isOver")] 6

def k7c0 : Code := { maxStack := 9, maxLocals := 6, code := prog_9_method_1_code, exceptionTable := #[], attributes := #[] }
def k7m0 : Method := { name := "<init>", desc := "(JIZLcom/example/vsyncopate/vsyncopate/animation/RepeatMode;)V", sig := { parameters := [.long, .int, .boolean, (.object "com/example/vsyncopate/vsyncopate/animation/RepeatMode")], returnType := none }, accessFlags := 0, code := some k7c0 }
def k7c1 : Code := { maxStack := 4, maxLocals := 4, code := prog_9_method_5_code, exceptionTable := #[], attributes := #[] }
def k7m1 : Method := { name := "isOver", desc := "(JZ)Z", sig := { parameters := [.long, .boolean], returnType := some .boolean }, accessFlags := 0, code := some k7c1 }
/-- com/example/vsyncopate/vsyncopate/animation/Timeline -/
def k7 : Class := { plain "com/example/vsyncopate/vsyncopate/animation/Timeline" (some 0) with
  accessFlags := 48
  interfaces := #[]
  cf := some (fileOf pool7 8 #[] #[{ accessFlags := 0, nameIndex := 5, descriptorIndex := 84, attributes := #[] }, { accessFlags := 0, nameIndex := 93, descriptorIndex := 83, attributes := #[] }] 48 2 #[] #[{ accessFlags := 18, nameIndex := 11, descriptorIndex := 12, attributes := #[] }, { accessFlags := 18, nameIndex := 15, descriptorIndex := 16, attributes := #[] }, { accessFlags := 18, nameIndex := 19, descriptorIndex := 20, attributes := #[] }, { accessFlags := 18, nameIndex := 23, descriptorIndex := 12, attributes := #[] }, { accessFlags := 18, nameIndex := 36, descriptorIndex := 12, attributes := #[] }])
  fields := #[{ name := "iterationNanos", type := .long, accessFlags := 18, slot := 0, constantValue := 0 }, { name := "mode", type := (.object "com/example/vsyncopate/vsyncopate/animation/RepeatMode"), accessFlags := 18, slot := 1, constantValue := 0 }, { name := "endless", type := .boolean, accessFlags := 18, slot := 2, constantValue := 0 }, { name := "iterations", type := .long, accessFlags := 18, slot := 3, constantValue := 0 }, { name := "totalNanos", type := .long, accessFlags := 18, slot := 4, constantValue := 0 }]
  methods := #[k7m0, k7m1]
  instanceTypes := #[.long, (.object "com/example/vsyncopate/vsyncopate/animation/RepeatMode"), .boolean, .long, .long]
  staticTypes := #[]
  resolved := Array.replicate 100 none
  statics := none }

def pool8 : Array CpInfo := pool [(1, .class_ 2), (0, u "java/lang/Math"), (1, .class_ 6), (1, u "java/lang/Object"), (0, u "<init>"), (0, u "()V"), (89, .class_ 100), (1, u "java/lang/Math$RandomNumberGeneratorHolder"), (20, u "(JJ)J"), (50, u "negativeZeroFloatBits"), (0, u "J"), (2, u "negativeZeroDoubleBits"), (21, u "max"), (46, u "$assertionsDisabled"), (0, u "Z"), (91, u "twoToTheDoubleScaleDown"), (0, u "D"), (4, u "twoToTheDoubleScaleUp"), (9, u "E"), (3, u "PI"), (2, u "TAU"), (2, u "DEGREES_TO_RADIANS"), (0, u "RADIANS_TO_DEGREES")] 94

def k8m0 : Method := { name := "<init>", desc := "()V", sig := { parameters := [], returnType := none }, accessFlags := 2, code := none }
def k8c1 : Code := { maxStack := 4, maxLocals := 4, code := jdk_29_method_66_code, exceptionTable := #[], attributes := #[] }
def k8m1 : Method := { name := "max", desc := "(JJ)J", sig := { parameters := [.long, .long], returnType := some .long }, accessFlags := 9, code := some k8c1 }
/-- java/lang/Math -/
def k8 : Class := { plain "java/lang/Math" (some 0) with
  accessFlags := 49
  interfaces := #[]
  cf := some (fileOf pool8 1 #[.nestMembers #[98]] #[{ accessFlags := 2, nameIndex := 7, descriptorIndex := 8, attributes := #[] }, { accessFlags := 9, nameIndex := 198, descriptorIndex := 121, attributes := #[] }] 49 4 #[] #[{ accessFlags := 25, nameIndex := 354, descriptorIndex := 339, attributes := #[] }, { accessFlags := 25, nameIndex := 358, descriptorIndex := 339, attributes := #[] }, { accessFlags := 25, nameIndex := 361, descriptorIndex := 339, attributes := #[] }, { accessFlags := 26, nameIndex := 364, descriptorIndex := 339, attributes := #[] }, { accessFlags := 26, nameIndex := 365, descriptorIndex := 339, attributes := #[] }, { accessFlags := 26, nameIndex := 172, descriptorIndex := 173, attributes := #[] }, { accessFlags := 26, nameIndex := 176, descriptorIndex := 173, attributes := #[] }, { accessFlags := 8, nameIndex := 344, descriptorIndex := 339, attributes := #[] }, { accessFlags := 8, nameIndex := 338, descriptorIndex := 339, attributes := #[] }, { accessFlags := 4120, nameIndex := 245, descriptorIndex := 246, attributes := #[] }])
  fields := #[{ name := "E", type := .double, accessFlags := 25, slot := 0, constantValue := 0 }, { name := "PI", type := .double, accessFlags := 25, slot := 1, constantValue := 0 }, { name := "TAU", type := .double, accessFlags := 25, slot := 2, constantValue := 0 }, { name := "DEGREES_TO_RADIANS", type := .double, accessFlags := 26, slot := 3, constantValue := 0 }, { name := "RADIANS_TO_DEGREES", type := .double, accessFlags := 26, slot := 4, constantValue := 0 }, { name := "negativeZeroFloatBits", type := .long, accessFlags := 26, slot := 5, constantValue := 0 }, { name := "negativeZeroDoubleBits", type := .long, accessFlags := 26, slot := 6, constantValue := 0 }, { name := "twoToTheDoubleScaleUp", type := .double, accessFlags := 8, slot := 7, constantValue := 0 }, { name := "twoToTheDoubleScaleDown", type := .double, accessFlags := 8, slot := 8, constantValue := 0 }, { name := "$assertionsDisabled", type := .boolean, accessFlags := 4120, slot := 9, constantValue := 0 }]
  methods := #[k8m0, k8m1]
  instanceTypes := #[]
  staticTypes := #[.double, .double, .double, .double, .double, .long, .long, .double, .double, .boolean]
  resolved := Array.replicate 460 none
  statics := none }

def pool9 : Array CpInfo := pool [(1, u "java/lang/Cloneable"), (0, .class_ 1), (0, u "java/lang/Object"), (0, .class_ 3)] 3

/-- java/lang/Cloneable -/
def k9 : Class := { plain "java/lang/Cloneable" (some 0) with
  accessFlags := 1537
  interfaces := #[]
  cf := some (fileOf pool9 2 #[] #[] 1537 4 #[] #[])
  fields := #[]
  methods := #[]
  instanceTypes := #[]
  staticTypes := #[]
  resolved := Array.replicate 8 none
  statics := none }

/-- the primitive byte -/
def k10 : Class := { plain "byte" none with kind := .primitive 'B', accessFlags := 0x411 }
/-- [B -/
def k11 : Class := { plain "[B" (some 0) with kind := .array 10 .byte, interfaces := #[9, 4], accessFlags := 1041 }

def heap : Heap := #[{ cls := 6, slots := #[.ref 1, .ref 2, .null], vm := .statics 6 },
  { cls := 6, slots := #[.null, .int 0, .int 0], vm := .none },
  { cls := 6, slots := #[.null, .int 0, .int 0], vm := .none }]
def classes : Array Class := #[k0, k1, k2, k3, k4, k5, k6, k7, k8, k9, k10, k11]
def interned : List (Array UInt16 × Addr) := []
def slotsUsed : Nat := 9
def theMethod : MethodId := ⟨1, 1⟩
def args0 : Array Value := #[.long 5, .int 6, .int 7, .long 8, .int 9]
def aboutOver (below : List Frame) : State where
  vm := { classes := classes, interned := interned.toArray }
  heap := heap
  slotsUsed := slotsUsed
  threads := #[{ frames := .invoking theMethod args0 :: below }]
def below0 : List Frame := [.native { method := ⟨0, 0⟩, args := #[] }]
def about1 : State := aboutOver below0
def p0 : Program := .bare "" "" ""
def e0 : Env := launch0.env 0 0 0
theorem w_frames : about1.frames = Frame.invoking theMethod args0 :: below0 := rfl
set_option maxRecDepth 65536 in
theorem w_args : argsFit about1.vm theMethod args0 = true := by decide +kernel
set_option maxRecDepth 65536 in
theorem w_heap : heapFits about1 = true := by decide +kernel
set_option maxRecDepth 65536 in
theorem w_runnable : about1.curStatus? = some .runnable := by decide +kernel
set_option maxRecDepth 65536 in
theorem w_alone : about1.alone = true := by decide +kernel
set_option maxRecDepth 65536 in
theorem w_named : about1.methodNamed? x = some theMethod := by decide +kernel
set_option maxRecDepth 65536 in
theorem w_hears : about1.hears theMethod below0 = true := by decide +kernel
set_option maxRecDepth 65536 in
theorem w_ripe : about1.ripe theMethod args0 below0 = true := by decide +kernel
theorem w_running : about1.status = .running := rfl
set_option maxRecDepth 65536 in
theorem w_room : about1.hasRoom e0.platform room_1 = true :=
  launch0.hasRoom_least _ room_1 (by decide +kernel) (by decide +kernel) (by decide +kernel) (by decide +kernel) (by decide +kernel) (by decide +kernel)
theorem allAtoms_all (ts : List Jvm.Cond) (a : Array Jvm.Value) (st : Jvm.State) : (allAtoms ts).before a st = ts.all (fun c => c.before a st) := by
  induction ts with
  | nil => rfl
  | cons c t ih =>
    show (Jvm.Cond.and c (allAtoms t)).before a st = _
    rw [Jvm.Cond.before_and, ih, List.all_cons]
def words1 : List Jvm.Cond := Jvm.Cond.code x code maxLocals ret :: tables_1
/-- a 'code' word, met by the world's own term for the bytes: nothing is compared byte by byte -/
theorem code_word {y : MethodName} {bytes : ByteArray} {mx : Nat} {rt : Option FieldType} {a : Array Value} {s : State} {m : MethodId} {meth : Method} {c : Code} (h1 : s.methodNamed? y = some m) (h2 : s.vm.method? m = some meth) (h3 : meth.code = some c) (h4 : c.code = bytes)
    (h5 : (c.maxLocals == mx && c.exceptionTable.isEmpty && decide (c.maxStack ≤ mostOperands) && decide (meth.sig.returnType = rt) && !meth.locks && decide (parseMethodDescriptor y.desc = some meth.sig)) = true) : (Jvm.Cond.code y bytes mx rt).before a s = true := by
  simp only [Bool.and_eq_true, beq_iff_eq, Bool.not_eq_true', decide_eq_true_eq] at h5
  obtain ⟨⟨⟨⟨⟨g1, g2⟩, g3⟩, g4⟩, g5⟩, g6⟩ := h5
  simp [Cond.before, Cond.holds, Cond.value, h1, h2, h3, h4, g1, g2, g3, g4, g5, g6]
def isCode : Jvm.Cond → Bool
  | .code _ _ _ _ => true
  | _ => false
theorem all_split {L : List Jvm.Cond} {P : Jvm.Cond → Bool} (h1 : L.all (fun c => isCode c || P c) = true) (h2 : ∀ c ∈ L.filter isCode, P c = true) : L.all P = true := by
  refine List.all_eq_true.mpr fun c hc => ?_
  have h := List.all_eq_true.mp h1 c hc
  rcases Bool.eq_false_or_eq_true (isCode c) with hi | hi
  · exact h2 c (List.mem_filter.mpr ⟨hc, hi⟩)
  · simpa [hi] using h
set_option maxRecDepth 65536 in
theorem w_c0 : (Jvm.Cond.code x code maxLocals ret).before args0 about1 = true := code_word (m := ⟨1, 1⟩) (meth := k1m1) (c := k1c1) (by decide +kernel) rfl rfl rfl (by decide +kernel)
set_option maxRecDepth 65536 in
theorem w_c1 : (Jvm.Cond.code ({ cls := "com/example/vsyncopate/vsyncopate/animation/Timeline", name := "<init>", desc := "(JIZLcom/example/vsyncopate/vsyncopate/animation/RepeatMode;)V" } : Jvm.MethodName) prog_9_method_1_code (6 : Nat) (Option.none : Option Jvm.ClassFile.FieldType)).before args0 about1 = true := code_word (m := ⟨7, 0⟩) (meth := k7m0) (c := k7c0) (by decide +kernel) rfl rfl rfl (by decide +kernel)
set_option maxRecDepth 65536 in
theorem w_c2 : (Jvm.Cond.code ({ cls := "java/lang/Object", name := "<init>", desc := "()V" } : Jvm.MethodName) object_method_1_code (1 : Nat) (Option.none : Option Jvm.ClassFile.FieldType)).before args0 about1 = true := code_word (m := ⟨0, 0⟩) (meth := k0m0) (c := k0c0) (by decide +kernel) rfl rfl rfl (by decide +kernel)
set_option maxRecDepth 65536 in
theorem w_c3 : (Jvm.Cond.code ({ cls := "java/lang/Math", name := "max", desc := "(JJ)J" } : Jvm.MethodName) jdk_29_method_66_code (4 : Nat) (Option.some Jvm.ClassFile.FieldType.long)).before args0 about1 = true := code_word (m := ⟨8, 1⟩) (meth := k8m1) (c := k8c1) (by decide +kernel) rfl rfl rfl (by decide +kernel)
set_option maxRecDepth 65536 in
theorem w_c4 : (Jvm.Cond.code ({ cls := "com/example/vsyncopate/vsyncopate/animation/Timeline", name := "isOver", desc := "(JZ)Z" } : Jvm.MethodName) prog_9_method_5_code (4 : Nat) (Option.some Jvm.ClassFile.FieldType.boolean)).before args0 about1 = true := code_word (m := ⟨7, 1⟩) (meth := k7m1) (c := k7c1) (by decide +kernel) rfl rfl rfl (by decide +kernel)
def codes1 : List Jvm.Cond := [Jvm.Cond.code x code maxLocals ret, Jvm.Cond.code ({ cls := "com/example/vsyncopate/vsyncopate/animation/Timeline", name := "<init>", desc := "(JIZLcom/example/vsyncopate/vsyncopate/animation/RepeatMode;)V" } : Jvm.MethodName) prog_9_method_1_code (6 : Nat) (Option.none : Option Jvm.ClassFile.FieldType), Jvm.Cond.code ({ cls := "java/lang/Object", name := "<init>", desc := "()V" } : Jvm.MethodName) object_method_1_code (1 : Nat) (Option.none : Option Jvm.ClassFile.FieldType), Jvm.Cond.code ({ cls := "java/lang/Math", name := "max", desc := "(JJ)J" } : Jvm.MethodName) jdk_29_method_66_code (4 : Nat) (Option.some Jvm.ClassFile.FieldType.long), Jvm.Cond.code ({ cls := "com/example/vsyncopate/vsyncopate/animation/Timeline", name := "isOver", desc := "(JZ)Z" } : Jvm.MethodName) prog_9_method_5_code (4 : Nat) (Option.some Jvm.ClassFile.FieldType.boolean)]
set_option maxRecDepth 65536 in
theorem codes_eq : words1.filter isCode = codes1 := rfl
theorem w_codes : ∀ c ∈ words1.filter isCode, c.before args0 about1 = true := by
  rw [codes_eq]
  intro c hc
  simp only [codes1, List.mem_cons, List.not_mem_nil, or_false] at hc
  rcases hc with rfl | rfl | rfl | rfl | rfl
  · exact w_c0
  · exact w_c1
  · exact w_c2
  · exact w_c3
  · exact w_c4
set_option maxRecDepth 65536 in
theorem w_t1 : (words1.take 24).all (fun c => isCode c || c.before args0 about1) = true := by decide +kernel
set_option maxRecDepth 65536 in
theorem w_t2 : (words1.drop 24).all (fun c => isCode c || c.before args0 about1) = true := by decide +kernel
theorem w_tables : (allAtoms (Jvm.Cond.code x code maxLocals ret :: tables_1)).before args0 about1 = true := by
  rw [allAtoms_all]
  show words1.all (fun c => c.before args0 about1) = true
  refine all_split ?_ w_codes
  rw [← List.take_append_drop 24 words1, List.all_append, w_t1, w_t2]
  rfl
set_option maxRecDepth 65536 in
theorem w_case : (Jvm.Cond.and given_1 narrow_1).before args0 about1 = true := by decide +kernel
theorem w_applies : (headSpec (Jvm.Cond.code x code maxLocals ret :: tables_1) room_1).applies x e0.platform about1 = true :=
  (Spec.applies_iff w_frames).mpr ⟨w_running, w_runnable, w_alone, w_named, w_hears, w_ripe, w_room, w_tables⟩
theorem atStart : AtStart classFile x code maxLocals ret World_1 tables_1 room_1 Calls_1 rest_1 Pre_1 launch0 p0 e0 about1 theMethod args0 below0 :=
  ⟨lists_1, trivial, launch0.admits_env _ _ _, launch0.least_env, fairChoices_fair.cas, fairChoices_fair.clock, w_frames, w_args, w_heap, w_applies, trivial, trivial, w_case⟩
end start1
theorem witness_1 : WitnessClaimed_1 := ⟨start1.p0, start1.e0, start1.about1, start1.theMethod, start1.args0, start1.below0, start1.atStart⟩
end Jvm.Pilot.@@N@@
