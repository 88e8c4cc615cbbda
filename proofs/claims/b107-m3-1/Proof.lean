import JvmDerived
import JvmDerived.Pilot.@@N@@Statement
import JvmDerived.Pilot.@@N@@Code
set_option linter.unusedVariables false
set_option linter.unusedSimpArgs false
namespace Jvm.RoadKit
open Sem ClassFile Op Lib Jvm.Stand Jvm.Free Jvm.LawKit
section New
variable {p : Program} {l : Launch} {e : Env} {R : Room} {s : State} {m : MethodId} {args : Array Value} {below : List Frame} {meth : Method} {c : Code} {T : State} {locs : List Loc} {cells slots : Nat}
theorem retI (X : Stand p l e R s m args below meth c T locs cells slots) (hx : p.tables.exec = Jvm.exec) {pc : Nat} {Ls : Array Slot} {z : Int32} {rest : List Value} (hret : meth.sig.returnType = some .int) (hd : decode c.code pc = .ok (.ireturn, 1)) {fs : List Frame}
    (hl : ∀ (f : JFrame) (acts : List Action), f.method = m → f.locked = none → f.entered = [] → (doReturn e (T.setTop f) acts (some (.int z))).1 = T.setFrames fs) : Steps p.tables e below (T.setTop (mkF m pc Ls (.int z :: rest))) (T.setFrames fs) := by
  have hm' : T.vm.method? m = some meth := X.method'
  have hn : narrow .int (.int z) = .int z := rfl
  show Steps p.tables e below (T.setTop { method := m, pc := pc, locals := Ls, stack := _ :: rest, locked := none }) _
  jvm_step X.here [X.here.top, hx, hd, hm', hret, hn]
  first | (intro acts; rw [hl _ acts rfl rfl rfl]) | rw [hl _ _ rfl rfl rfl]
  exact Steps.refl _
end New
end Jvm.RoadKit
namespace Jvm.Pilot.@@N@@
open Jvm Jvm.ClassFile Sem Op Lib Jvm.Free Jvm.Stand Jvm.LawKit Jvm.RoadKit Bundle Jvm.Pilot.@@N@@.Jvm.D
theorem own_m {α : Type} {L : List α} {x : α} (i : Nat) (h : L[i]? = some x) : x ∈ L := List.mem_of_getElem? h
theorem own_top {tb : Tables} {e : Env} {below : List Frame} {T t : State} {m : MethodId} {pc : Nat} {Ls : Array Slot} {v v' : Value} {rest : List Value} (q : v = v') (k : Steps tb e below (T.setTop (mkF m pc Ls (v' :: rest))) t) : Steps tb e below (T.setTop (mkF m pc Ls (v :: rest))) t := q ▸ k
theorem own_le {Z : State} {n0 : Nat} {h : Heap} (O : Old Z n0 h) : n0 ≤ h.size := O.1 ▸ O.2.1
theorem own_eqI {args : Array Value} {first s : State} {o : Option Outcome} {idx : List Nat} {t : Term} {k : Int32} (h : (Jvm.Cond.eq t (.int k)).value args first o s idx = some true) : t.eval args first o idx s = some (.int k) := by
  cases ht : t.eval args first o idx s with
  | none => simp [Cond.value, Term.eval, ht] at h
  | some x => cases x <;> simp [Cond.value, Term.eval, ht] at h ⊢; exact h
theorem own_eqJ {args : Array Value} {first s : State} {o : Option Outcome} {idx : List Nat} {t : Term} {k : Int64} (h : (Jvm.Cond.eq t (.long k)).value args first o s idx = some true) : t.eval args first o idx s = some (.long k) := by
  cases ht : t.eval args first o idx s with
  | none => simp [Cond.value, Term.eval, ht] at h
  | some x => cases x <;> simp [Cond.value, Term.eval, ht] at h ⊢; exact h
theorem own_eqR {args : Array Value} {first s : State} {o : Option Outcome} {idx : List Nat} {t u : Term} {b : Addr} (h : (Jvm.Cond.eq t u).value args first o s idx = some true) (hu : u.eval args first o idx s = some (.ref b)) : t.eval args first o idx s = some (.ref b) := by
  cases ht : t.eval args first o idx s with
  | none => simp [Cond.value, ht] at h
  | some x => cases x <;> simp [Cond.value, ht, hu] at h ⊢; exact h
def own_En (Z : State) (h : Heap) (C f d : String) (w : Addr) (k : Int32) : Prop := Sta Z h C f d (.ref w) ∧ Exa Z h w C ∧ Fld Z h w "java/lang/Enum" "ordinal" "I" (.int k)
theorem own_d1_0 : decode method_2_code 0 = .ok (.iload_n 0, 1) := by decide +kernel
theorem own_d1_1 : decode method_2_code 1 = .ok (.ifCond .ne 7, 3) := by decide +kernel
theorem own_d1_4 : decode method_2_code 4 = .ok (.getstatic 7, 3) := by decide +kernel
theorem own_d1_7 : decode method_2_code 7 = .ok (.areturn, 1) := by decide +kernel
theorem own_d1_8 : decode method_2_code 8 = .ok (.iload_n 0, 1) := by decide +kernel
theorem own_d1_9 : decode method_2_code 9 = .ok (.iconst 1, 1) := by decide +kernel
theorem own_d1_10 : decode method_2_code 10 = .ok (.if_icmp .ne 7, 3) := by decide +kernel
theorem own_d1_13 : decode method_2_code 13 = .ok (.getstatic 13, 3) := by decide +kernel
theorem own_d1_16 : decode method_2_code 16 = .ok (.areturn, 1) := by decide +kernel
theorem own_d1_17 : decode method_2_code 17 = .ok (.iload_n 0, 1) := by decide +kernel
theorem own_d1_18 : decode method_2_code 18 = .ok (.iconst 2, 1) := by decide +kernel
theorem own_d1_19 : decode method_2_code 19 = .ok (.if_icmp .ne 7, 3) := by decide +kernel
theorem own_d1_22 : decode method_2_code 22 = .ok (.getstatic 16, 3) := by decide +kernel
theorem own_d1_25 : decode method_2_code 25 = .ok (.areturn, 1) := by decide +kernel
theorem own_d1_26 : decode method_2_code 26 = .ok (.iload_n 0, 1) := by decide +kernel
theorem own_d1_27 : decode method_2_code 27 = .ok (.iconst 3, 1) := by decide +kernel
theorem own_d1_28 : decode method_2_code 28 = .ok (.if_icmp .ne 7, 3) := by decide +kernel
theorem own_d1_31 : decode method_2_code 31 = .ok (.getstatic 19, 3) := by decide +kernel
theorem own_d1_34 : decode method_2_code 34 = .ok (.areturn, 1) := by decide +kernel
theorem own_d1_35 : decode method_2_code 35 = .ok (.getstatic 22, 3) := by decide +kernel
theorem own_d1_38 : decode method_2_code 38 = .ok (.areturn, 1) := by decide +kernel
theorem own_d2_0 : decode prog_20_method_1_code 0 = .ok (.aload_n 0, 1) := by decide +kernel
theorem own_d2_1 : decode prog_20_method_1_code 1 = .ok (.invokespecial 1, 3) := by decide +kernel
theorem own_d2_4 : decode prog_20_method_1_code 4 = .ok (.aload_n 0, 1) := by decide +kernel
theorem own_d2_5 : decode prog_20_method_1_code 5 = .ok (.getstatic 7, 3) := by decide +kernel
theorem own_d2_8 : decode prog_20_method_1_code 8 = .ok (.newarray .long, 2) := by decide +kernel
theorem own_d2_10 : decode prog_20_method_1_code 10 = .ok (.putfield 13, 3) := by decide +kernel
theorem own_d2_13 : decode prog_20_method_1_code 13 = .ok (.aload_n 0, 1) := by decide +kernel
theorem own_d2_14 : decode prog_20_method_1_code 14 = .ok (.getstatic 7, 3) := by decide +kernel
theorem own_d2_17 : decode prog_20_method_1_code 17 = .ok (.newarray .int, 2) := by decide +kernel
theorem own_d2_19 : decode prog_20_method_1_code 19 = .ok (.putfield 17, 3) := by decide +kernel
theorem own_d2_22 : decode prog_20_method_1_code 22 = .ok (.return_, 1) := by decide +kernel
theorem own_d4_0 : decode prog_20_method_12_code 0 = .ok (.aload_n 0, 1) := by decide +kernel
theorem own_d4_1 : decode prog_20_method_12_code 1 = .ok (.lload_n 1, 1) := by decide +kernel
theorem own_d4_2 : decode prog_20_method_12_code 2 = .ok (.putfield 21, 3) := by decide +kernel
theorem own_d4_5 : decode prog_20_method_12_code 5 = .ok (.aload_n 0, 1) := by decide +kernel
theorem own_d4_6 : decode prog_20_method_12_code 6 = .ok (.lload_n 3, 1) := by decide +kernel
theorem own_d4_7 : decode prog_20_method_12_code 7 = .ok (.putfield 25, 3) := by decide +kernel
theorem own_d4_10 : decode prog_20_method_12_code 10 = .ok (.aload_n 0, 1) := by decide +kernel
theorem own_d4_11 : decode prog_20_method_12_code 11 = .ok (.lload 5, 2) := by decide +kernel
theorem own_d4_13 : decode prog_20_method_12_code 13 = .ok (.putfield 28, 3) := by decide +kernel
theorem own_d4_16 : decode prog_20_method_12_code 16 = .ok (.aload_n 0, 1) := by decide +kernel
theorem own_d4_17 : decode prog_20_method_12_code 17 = .ok (.lload 7, 2) := by decide +kernel
theorem own_d4_19 : decode prog_20_method_12_code 19 = .ok (.putfield 31, 3) := by decide +kernel
theorem own_d4_22 : decode prog_20_method_12_code 22 = .ok (.aload_n 0, 1) := by decide +kernel
theorem own_d4_23 : decode prog_20_method_12_code 23 = .ok (.lload 9, 2) := by decide +kernel
theorem own_d4_25 : decode prog_20_method_12_code 25 = .ok (.putfield 34, 3) := by decide +kernel
theorem own_d4_28 : decode prog_20_method_12_code 28 = .ok (.aload_n 0, 1) := by decide +kernel
theorem own_d4_29 : decode prog_20_method_12_code 29 = .ok (.iconst 0, 1) := by decide +kernel
theorem own_d4_30 : decode prog_20_method_12_code 30 = .ok (.putfield 43, 3) := by decide +kernel
theorem own_d4_33 : decode prog_20_method_12_code 33 = .ok (.return_, 1) := by decide +kernel
theorem own_d5_0 : decode prog_20_method_13_code 0 = .ok (.aload_n 0, 1) := by decide +kernel
theorem own_d5_1 : decode prog_20_method_13_code 1 = .ok (.getfield 13, 3) := by decide +kernel
theorem own_d5_4 : decode prog_20_method_13_code 4 = .ok (.aload_n 1, 1) := by decide +kernel
theorem own_d5_5 : decode prog_20_method_13_code 5 = .ok (.invokevirtual 37, 3) := by decide +kernel
theorem own_d5_8 : decode prog_20_method_13_code 8 = .ok (.lload_n 2, 1) := by decide +kernel
theorem own_d5_9 : decode prog_20_method_13_code 9 = .ok (.lastore, 1) := by decide +kernel
theorem own_d5_10 : decode prog_20_method_13_code 10 = .ok (.aload_n 0, 1) := by decide +kernel
theorem own_d5_11 : decode prog_20_method_13_code 11 = .ok (.getfield 17, 3) := by decide +kernel
theorem own_d5_14 : decode prog_20_method_13_code 14 = .ok (.aload_n 1, 1) := by decide +kernel
theorem own_d5_15 : decode prog_20_method_13_code 15 = .ok (.invokevirtual 37, 3) := by decide +kernel
theorem own_d5_18 : decode prog_20_method_13_code 18 = .ok (.iconst 0, 1) := by decide +kernel
theorem own_d5_19 : decode prog_20_method_13_code 19 = .ok (.iastore, 1) := by decide +kernel
theorem own_d5_20 : decode prog_20_method_13_code 20 = .ok (.aload_n 0, 1) := by decide +kernel
theorem own_d5_21 : decode prog_20_method_13_code 21 = .ok (.aload_n 1, 1) := by decide +kernel
theorem own_d5_22 : decode prog_20_method_13_code 22 = .ok (.invokevirtual 37, 3) := by decide +kernel
theorem own_d5_25 : decode prog_20_method_13_code 25 = .ok (.iconst 1, 1) := by decide +kernel
theorem own_d5_26 : decode prog_20_method_13_code 26 = .ok (.iadd, 1) := by decide +kernel
theorem own_d5_27 : decode prog_20_method_13_code 27 = .ok (.putfield 43, 3) := by decide +kernel
theorem own_d5_30 : decode prog_20_method_13_code 30 = .ok (.return_, 1) := by decide +kernel
theorem own_d6_0 : decode jdk_37_method_2_code 0 = .ok (.aload_n 0, 1) := by decide +kernel
theorem own_d6_1 : decode jdk_37_method_2_code 1 = .ok (.getfield 7, 3) := by decide +kernel
theorem own_d6_4 : decode jdk_37_method_2_code 4 = .ok (.ireturn, 1) := by decide +kernel
theorem own_d7_0 : decode prog_20_method_2_code 0 = .ok (.aload_n 0, 1) := by decide +kernel
theorem own_d7_1 : decode prog_20_method_2_code 1 = .ok (.getfield 21, 3) := by decide +kernel
theorem own_d7_4 : decode prog_20_method_2_code 4 = .ok (.lreturn, 1) := by decide +kernel
theorem own_d8_0 : decode prog_20_method_3_code 0 = .ok (.aload_n 0, 1) := by decide +kernel
theorem own_d8_1 : decode prog_20_method_3_code 1 = .ok (.getfield 25, 3) := by decide +kernel
theorem own_d8_4 : decode prog_20_method_3_code 4 = .ok (.lreturn, 1) := by decide +kernel
theorem own_d9_0 : decode prog_20_method_4_code 0 = .ok (.aload_n 0, 1) := by decide +kernel
theorem own_d9_1 : decode prog_20_method_4_code 1 = .ok (.getfield 28, 3) := by decide +kernel
theorem own_d9_4 : decode prog_20_method_4_code 4 = .ok (.lreturn, 1) := by decide +kernel
theorem own_d10_0 : decode prog_20_method_5_code 0 = .ok (.aload_n 0, 1) := by decide +kernel
theorem own_d10_1 : decode prog_20_method_5_code 1 = .ok (.getfield 31, 3) := by decide +kernel
theorem own_d10_4 : decode prog_20_method_5_code 4 = .ok (.lreturn, 1) := by decide +kernel
theorem own_d11_0 : decode prog_20_method_6_code 0 = .ok (.aload_n 0, 1) := by decide +kernel
theorem own_d11_1 : decode prog_20_method_6_code 1 = .ok (.getfield 34, 3) := by decide +kernel
theorem own_d11_4 : decode prog_20_method_6_code 4 = .ok (.lreturn, 1) := by decide +kernel
theorem own_d12_0 : decode prog_20_method_7_code 0 = .ok (.aload_n 1, 1) := by decide +kernel
theorem own_d12_1 : decode prog_20_method_7_code 1 = .ok (.invokevirtual 37, 3) := by decide +kernel
theorem own_d12_4 : decode prog_20_method_7_code 4 = .ok (.aload_n 0, 1) := by decide +kernel
theorem own_d12_5 : decode prog_20_method_7_code 5 = .ok (.getfield 43, 3) := by decide +kernel
theorem own_d12_8 : decode prog_20_method_7_code 8 = .ok (.if_icmp .ge 7, 3) := by decide +kernel
theorem own_d12_15 : decode prog_20_method_7_code 15 = .ok (.iconst 0, 1) := by decide +kernel
theorem own_d12_16 : decode prog_20_method_7_code 16 = .ok (.ireturn, 1) := by decide +kernel
theorem own_pn0 : plainName "com/example/vsyncopate/vsyncopate/frame/FrameTimingFrameBeginsPinLaw" = true := by first | (simp [plainName, overriddenIn]; done) | decide +kernel
theorem own_pn1 : plainName "java/lang/Enum" = true := by first | (simp [plainName, overriddenIn]; done) | decide +kernel
theorem own_pn2 : plainName "com/example/vsyncopate/vsyncopate/frame/FrameTiming" = true := by first | (simp [plainName, overriddenIn]; done) | decide +kernel
theorem own_pd0 : parseMethodDescriptor "()I" = some ⟨[], some .int⟩ := by decide +kernel
theorem own_pd1 : parseMethodDescriptor "(I)Lcom/example/vsyncopate/vsyncopate/frame/FramePhase;" = some ⟨[.int], some (.object "com/example/vsyncopate/vsyncopate/frame/FramePhase")⟩ := by decide +kernel
theorem own_pd2 : parseMethodDescriptor "()V" = some ⟨[], none⟩ := by decide +kernel
theorem own_pd3 : parseMethodDescriptor "(JJJJJ)V" = some ⟨[.long, .long, .long, .long, .long], none⟩ := by decide +kernel
theorem own_pd4 : parseMethodDescriptor "(Lcom/example/vsyncopate/vsyncopate/frame/FramePhase;J)V" = some ⟨[(.object "com/example/vsyncopate/vsyncopate/frame/FramePhase"), .long], none⟩ := by decide +kernel
theorem own_pd5 : parseMethodDescriptor "()J" = some ⟨[], some .long⟩ := by decide +kernel
theorem own_pd6 : parseMethodDescriptor "(Lcom/example/vsyncopate/vsyncopate/frame/FramePhase;)Z" = some ⟨[(.object "com/example/vsyncopate/vsyncopate/frame/FramePhase")], some .boolean⟩ := by decide +kernel
theorem own_rem5 (x : Int32) : ((x &&& (2147483647 : Int32)) % (5 : Int32)) = (0 : Int32) ∨ ((x &&& (2147483647 : Int32)) % (5 : Int32)) = (1 : Int32) ∨ ((x &&& (2147483647 : Int32)) % (5 : Int32)) = (2 : Int32) ∨ ((x &&& (2147483647 : Int32)) % (5 : Int32)) = (3 : Int32) ∨ ((x &&& (2147483647 : Int32)) % (5 : Int32)) = (4 : Int32) := by
  have h1 : (x &&& (2147483647 : Int32)).toInt = x.toInt % (2 ^ 31 : Nat) := c_mask x 2147483647 31 (by decide) (by decide)
  have h2 := (c_irem (x &&& (2147483647 : Int32)) (5 : Int32) 5 (by decide)).1 (by omega)
  generalize ((x &&& (2147483647 : Int32)) % (5 : Int32)) = k at h2 ⊢
  simp only [← Int32.toInt_inj, show (0 : Int32).toInt = 0 from by decide, show (1 : Int32).toInt = 1 from by decide, show (2 : Int32).toInt = 2 from by decide, show (3 : Int32).toInt = 3 from by decide, show (4 : Int32).toInt = 4 from by decide]
  omega
theorem own_p_0_ef (m : MethodId)  : entryFrame m #[(.int 0)] 1 = mkF m 0 #[iv 0] [] := by first | (simp [entryFrame, mkF, argsToLocals, Value.category]; done) | rfl
def own_p_0_Q (Z : State) (w_INPUT : Addr) (w_ANIMATION : Addr) (w_INSETS_ANIMATION : Addr) (w_TRAVERSAL : Addr) (w_COMMIT : Addr) (h0 : Heap) (n0 : Nat) (v : Option Value) (h : Heap) (L : List Loc) : Prop := v = some (.ref w_INPUT) ∧ Fr n0 L ∧ h = h0
set_option maxRecDepth 65536 in
set_option maxHeartbeats 40000000 in
theorem own_p_0 (l : Launch) (Z : State) (a0 : Array Value) (hw : ∀ d ∈ tables_1, d.before a0 Z = true) (ws : List Jvm.Cond) (w_INPUT : Addr) (w_ANIMATION : Addr) (w_INSETS_ANIMATION : Addr) (w_TRAVERSAL : Addr) (w_COMMIT : Addr) (h0 : Heap) (n0 : Nat) (O0 : Old Z n0 h0) (U_INPUT : own_En Z Z.heap "com/example/vsyncopate/vsyncopate/frame/FramePhase" "INPUT" "Lcom/example/vsyncopate/vsyncopate/frame/FramePhase;" w_INPUT (0 : Int32)) (U_ANIMATION : own_En Z Z.heap "com/example/vsyncopate/vsyncopate/frame/FramePhase" "ANIMATION" "Lcom/example/vsyncopate/vsyncopate/frame/FramePhase;" w_ANIMATION (1 : Int32)) (U_INSETS_ANIMATION : own_En Z Z.heap "com/example/vsyncopate/vsyncopate/frame/FramePhase" "INSETS_ANIMATION" "Lcom/example/vsyncopate/vsyncopate/frame/FramePhase;" w_INSETS_ANIMATION (2 : Int32)) (U_TRAVERSAL : own_En Z Z.heap "com/example/vsyncopate/vsyncopate/frame/FramePhase" "TRAVERSAL" "Lcom/example/vsyncopate/vsyncopate/frame/FramePhase;" w_TRAVERSAL (3 : Int32)) (U_COMMIT : own_En Z Z.heap "com/example/vsyncopate/vsyncopate/frame/FramePhase" "COMMIT" "Lcom/example/vsyncopate/vsyncopate/frame/FramePhase;" w_COMMIT (4 : Int32)) (S_PC : Sta Z Z.heap "com/example/vsyncopate/vsyncopate/frame/FrameTiming" "PHASE_COUNT" "I" (.int 5)) :
    MetFree l (⟨"com/example/vsyncopate/vsyncopate/frame/FrameTimingFrameBeginsPinLaw", "pick", "(I)Lcom/example/vsyncopate/vsyncopate/frame/FramePhase;"⟩ : MethodName) (head1 (Jvm.Cond.code (⟨"com/example/vsyncopate/vsyncopate/frame/FrameTimingFrameBeginsPinLaw", "pick", "(I)Lcom/example/vsyncopate/vsyncopate/frame/FramePhase;"⟩ : MethodName) method_2_code 1 (some (.object "com/example/vsyncopate/vsyncopate/frame/FramePhase")) :: ws) ({ frames := 0, cells := 0, slots := 0, locals := 0 } : Room)) (fun ar U => ar = #[(.int 0)] ∧ Z.Warmed39 U.vm ∧ U.heap = h0) (fun _ _ _ _ _ => True) (fun _ U oc U' => ∃ v L, oc = .returned v ∧ own_p_0_Q Z w_INPUT w_ANIMATION w_INSETS_ANIMATION w_TRAVERSAL w_COMMIT h0 n0 v U'.heap L ∧ FrameEnd U oc U' L ({ frames := 0, cells := 0, slots := 0, locals := 0 } : Room).cells ({ frames := 0, cells := 0, slots := 0, locals := 0 } : Room).slots) := by
  refine MetFree.of_bodySF (plainFor_of_name own_pn0) hisR ?_
  intro p e s m args below meth c s₁ Bd hml0 hP hK
  obtain ⟨rfl, hZ, hh⟩ := hP
  have hx := Bd.exec
  have hby := Bd.bytes
  have hml : c.maxLocals = 1 := hml0
  have hown : s.vm.findClass "com/example/vsyncopate/vsyncopate/frame/FrameTimingFrameBeginsPinLaw" = some m.cls := findClass_of_methodNamed Bd.named
  have hnm := (name_of_methodNamed Bd.named Bd.method).1
  have X0 : Stand p l e ({ frames := 0, cells := 0, slots := 0, locals := 0 } : Room) s m #[(.int 0)] below meth c s₁ [] 0 0 := Stand.of_body Bd
  have e0 : s₁.heap = h0 := by rw [← hh, Bd.state]; rfl
  have N0 := Fr.nil n0
  have pre0 : ∀ t, Steps p.tables e below (s₁.setTop (mkF m 0 #[iv 0] [])) t → Steps p.tables e below (s₁.setTop (entryFrame m #[(.int 0)] 1)) t := fun t k => castTop (own_p_0_ef m ) k
  obtain ⟨T1, X1, e1, st1⟩ := getS2 X0 hx hZ hown (host := "") (Or.inl (hw _ (own_m 81 rfl))) Via.refl e0 (U_INPUT.1.ext O0.2) (g := (mkF m 4 #[iv 0] [])) rfl (hb hby own_d1_4)
  obtain ⟨fs, hr, hrun, hended, hW, hsame⟩ := X1.leave (v := some (.ref w_INPUT)) (fun h => by rw [Bd.returns] at h; cases h)
  refine ⟨_, _, pre0 _ ?_, hrun, hended, _, _, rfl, ?_, ⟨_, rfl⟩, hW, hsame.mono (by decide) (by decide)⟩
  · show Steps p.tables e below (s₁.setTop (mkF m 0 #[iv 0] [])) _
    refine XS.iloadN X0.here hx rfl (hb hby own_d1_0) rfl ?_
    show Steps p.tables e below (s₁.setTop (mkF m 1 #[iv 0] [(.int 0)])) _
    refine XS.ifNo X0.here hx rfl (hb hby own_d1_1) rfl ((if0 _ _).trans (teq (by decide)).2) ?_
    show Steps p.tables e below (s₁.setTop (mkF m 4 #[iv 0] [])) _
    refine st1 _ ?_
    show Steps p.tables e below (T1.setTop (mkF m 7 #[iv 0] [(.ref w_INPUT)])) _
    jvm_step X1.here [X1.here.top, hx, (hb hby own_d1_7), X1.method', Bd.returns, Value.isRef, FieldType.isReference]
    first | (intro acts; rw [hr _ acts rfl rfl rfl]) | rw [hr _ _ rfl rfl rfl]
    exact Steps.refl _
  · show own_p_0_Q Z w_INPUT w_ANIMATION w_INSETS_ANIMATION w_TRAVERSAL w_COMMIT h0 n0 _ T1.heap _
    rw [e1]
    exact ⟨rfl, N0, rfl⟩
theorem own_p_1_ef (m : MethodId)  : entryFrame m #[(.int 1)] 1 = mkF m 0 #[iv 1] [] := by first | (simp [entryFrame, mkF, argsToLocals, Value.category]; done) | rfl
def own_p_1_Q (Z : State) (w_INPUT : Addr) (w_ANIMATION : Addr) (w_INSETS_ANIMATION : Addr) (w_TRAVERSAL : Addr) (w_COMMIT : Addr) (h0 : Heap) (n0 : Nat) (v : Option Value) (h : Heap) (L : List Loc) : Prop := v = some (.ref w_ANIMATION) ∧ Fr n0 L ∧ h = h0
set_option maxRecDepth 65536 in
set_option maxHeartbeats 40000000 in
theorem own_p_1 (l : Launch) (Z : State) (a0 : Array Value) (hw : ∀ d ∈ tables_1, d.before a0 Z = true) (ws : List Jvm.Cond) (w_INPUT : Addr) (w_ANIMATION : Addr) (w_INSETS_ANIMATION : Addr) (w_TRAVERSAL : Addr) (w_COMMIT : Addr) (h0 : Heap) (n0 : Nat) (O0 : Old Z n0 h0) (U_INPUT : own_En Z Z.heap "com/example/vsyncopate/vsyncopate/frame/FramePhase" "INPUT" "Lcom/example/vsyncopate/vsyncopate/frame/FramePhase;" w_INPUT (0 : Int32)) (U_ANIMATION : own_En Z Z.heap "com/example/vsyncopate/vsyncopate/frame/FramePhase" "ANIMATION" "Lcom/example/vsyncopate/vsyncopate/frame/FramePhase;" w_ANIMATION (1 : Int32)) (U_INSETS_ANIMATION : own_En Z Z.heap "com/example/vsyncopate/vsyncopate/frame/FramePhase" "INSETS_ANIMATION" "Lcom/example/vsyncopate/vsyncopate/frame/FramePhase;" w_INSETS_ANIMATION (2 : Int32)) (U_TRAVERSAL : own_En Z Z.heap "com/example/vsyncopate/vsyncopate/frame/FramePhase" "TRAVERSAL" "Lcom/example/vsyncopate/vsyncopate/frame/FramePhase;" w_TRAVERSAL (3 : Int32)) (U_COMMIT : own_En Z Z.heap "com/example/vsyncopate/vsyncopate/frame/FramePhase" "COMMIT" "Lcom/example/vsyncopate/vsyncopate/frame/FramePhase;" w_COMMIT (4 : Int32)) (S_PC : Sta Z Z.heap "com/example/vsyncopate/vsyncopate/frame/FrameTiming" "PHASE_COUNT" "I" (.int 5)) :
    MetFree l (⟨"com/example/vsyncopate/vsyncopate/frame/FrameTimingFrameBeginsPinLaw", "pick", "(I)Lcom/example/vsyncopate/vsyncopate/frame/FramePhase;"⟩ : MethodName) (head1 (Jvm.Cond.code (⟨"com/example/vsyncopate/vsyncopate/frame/FrameTimingFrameBeginsPinLaw", "pick", "(I)Lcom/example/vsyncopate/vsyncopate/frame/FramePhase;"⟩ : MethodName) method_2_code 1 (some (.object "com/example/vsyncopate/vsyncopate/frame/FramePhase")) :: ws) ({ frames := 0, cells := 0, slots := 0, locals := 0 } : Room)) (fun ar U => ar = #[(.int 1)] ∧ Z.Warmed39 U.vm ∧ U.heap = h0) (fun _ _ _ _ _ => True) (fun _ U oc U' => ∃ v L, oc = .returned v ∧ own_p_1_Q Z w_INPUT w_ANIMATION w_INSETS_ANIMATION w_TRAVERSAL w_COMMIT h0 n0 v U'.heap L ∧ FrameEnd U oc U' L ({ frames := 0, cells := 0, slots := 0, locals := 0 } : Room).cells ({ frames := 0, cells := 0, slots := 0, locals := 0 } : Room).slots) := by
  refine MetFree.of_bodySF (plainFor_of_name own_pn0) hisR ?_
  intro p e s m args below meth c s₁ Bd hml0 hP hK
  obtain ⟨rfl, hZ, hh⟩ := hP
  have hx := Bd.exec
  have hby := Bd.bytes
  have hml : c.maxLocals = 1 := hml0
  have hown : s.vm.findClass "com/example/vsyncopate/vsyncopate/frame/FrameTimingFrameBeginsPinLaw" = some m.cls := findClass_of_methodNamed Bd.named
  have hnm := (name_of_methodNamed Bd.named Bd.method).1
  have X0 : Stand p l e ({ frames := 0, cells := 0, slots := 0, locals := 0 } : Room) s m #[(.int 1)] below meth c s₁ [] 0 0 := Stand.of_body Bd
  have e0 : s₁.heap = h0 := by rw [← hh, Bd.state]; rfl
  have N0 := Fr.nil n0
  have pre0 : ∀ t, Steps p.tables e below (s₁.setTop (mkF m 0 #[iv 1] [])) t → Steps p.tables e below (s₁.setTop (entryFrame m #[(.int 1)] 1)) t := fun t k => castTop (own_p_1_ef m ) k
  obtain ⟨T1, X1, e1, st1⟩ := getS2 X0 hx hZ hown (host := "") (Or.inl (hw _ (own_m 90 rfl))) Via.refl e0 (U_ANIMATION.1.ext O0.2) (g := (mkF m 13 #[iv 1] [])) rfl (hb hby own_d1_13)
  obtain ⟨fs, hr, hrun, hended, hW, hsame⟩ := X1.leave (v := some (.ref w_ANIMATION)) (fun h => by rw [Bd.returns] at h; cases h)
  refine ⟨_, _, pre0 _ ?_, hrun, hended, _, _, rfl, ?_, ⟨_, rfl⟩, hW, hsame.mono (by decide) (by decide)⟩
  · show Steps p.tables e below (s₁.setTop (mkF m 0 #[iv 1] [])) _
    refine XS.iloadN X0.here hx rfl (hb hby own_d1_0) rfl ?_
    show Steps p.tables e below (s₁.setTop (mkF m 1 #[iv 1] [(.int 1)])) _
    refine XS.ifYes X0.here hx rfl (pc0 := 1) (pc' := 8) rfl (hb hby own_d1_1) rfl ((if0 _ _).trans (feq (by decide)).2) (by decide) (by decide) ?_
    show Steps p.tables e below (s₁.setTop (mkF m 8 #[iv 1] [])) _
    refine XS.iloadN X0.here hx rfl (hb hby own_d1_8) rfl ?_
    show Steps p.tables e below (s₁.setTop (mkF m 9 #[iv 1] [(.int 1)])) _
    refine XS.iconst X0.here hx rfl (hb hby own_d1_9) ?_
    show Steps p.tables e below (s₁.setTop (mkF m 10 #[iv 1] [(.int 1), (.int 1)])) _
    refine XS.icmpNo X0.here hx rfl (hb hby own_d1_10) rfl (teq (by decide)).2 ?_
    show Steps p.tables e below (s₁.setTop (mkF m 13 #[iv 1] [])) _
    refine st1 _ ?_
    show Steps p.tables e below (T1.setTop (mkF m 16 #[iv 1] [(.ref w_ANIMATION)])) _
    jvm_step X1.here [X1.here.top, hx, (hb hby own_d1_16), X1.method', Bd.returns, Value.isRef, FieldType.isReference]
    first | (intro acts; rw [hr _ acts rfl rfl rfl]) | rw [hr _ _ rfl rfl rfl]
    exact Steps.refl _
  · show own_p_1_Q Z w_INPUT w_ANIMATION w_INSETS_ANIMATION w_TRAVERSAL w_COMMIT h0 n0 _ T1.heap _
    rw [e1]
    exact ⟨rfl, N0, rfl⟩
theorem own_p_2_ef (m : MethodId)  : entryFrame m #[(.int 2)] 1 = mkF m 0 #[iv 2] [] := by first | (simp [entryFrame, mkF, argsToLocals, Value.category]; done) | rfl
def own_p_2_Q (Z : State) (w_INPUT : Addr) (w_ANIMATION : Addr) (w_INSETS_ANIMATION : Addr) (w_TRAVERSAL : Addr) (w_COMMIT : Addr) (h0 : Heap) (n0 : Nat) (v : Option Value) (h : Heap) (L : List Loc) : Prop := v = some (.ref w_INSETS_ANIMATION) ∧ Fr n0 L ∧ h = h0
set_option maxRecDepth 65536 in
set_option maxHeartbeats 40000000 in
theorem own_p_2 (l : Launch) (Z : State) (a0 : Array Value) (hw : ∀ d ∈ tables_1, d.before a0 Z = true) (ws : List Jvm.Cond) (w_INPUT : Addr) (w_ANIMATION : Addr) (w_INSETS_ANIMATION : Addr) (w_TRAVERSAL : Addr) (w_COMMIT : Addr) (h0 : Heap) (n0 : Nat) (O0 : Old Z n0 h0) (U_INPUT : own_En Z Z.heap "com/example/vsyncopate/vsyncopate/frame/FramePhase" "INPUT" "Lcom/example/vsyncopate/vsyncopate/frame/FramePhase;" w_INPUT (0 : Int32)) (U_ANIMATION : own_En Z Z.heap "com/example/vsyncopate/vsyncopate/frame/FramePhase" "ANIMATION" "Lcom/example/vsyncopate/vsyncopate/frame/FramePhase;" w_ANIMATION (1 : Int32)) (U_INSETS_ANIMATION : own_En Z Z.heap "com/example/vsyncopate/vsyncopate/frame/FramePhase" "INSETS_ANIMATION" "Lcom/example/vsyncopate/vsyncopate/frame/FramePhase;" w_INSETS_ANIMATION (2 : Int32)) (U_TRAVERSAL : own_En Z Z.heap "com/example/vsyncopate/vsyncopate/frame/FramePhase" "TRAVERSAL" "Lcom/example/vsyncopate/vsyncopate/frame/FramePhase;" w_TRAVERSAL (3 : Int32)) (U_COMMIT : own_En Z Z.heap "com/example/vsyncopate/vsyncopate/frame/FramePhase" "COMMIT" "Lcom/example/vsyncopate/vsyncopate/frame/FramePhase;" w_COMMIT (4 : Int32)) (S_PC : Sta Z Z.heap "com/example/vsyncopate/vsyncopate/frame/FrameTiming" "PHASE_COUNT" "I" (.int 5)) :
    MetFree l (⟨"com/example/vsyncopate/vsyncopate/frame/FrameTimingFrameBeginsPinLaw", "pick", "(I)Lcom/example/vsyncopate/vsyncopate/frame/FramePhase;"⟩ : MethodName) (head1 (Jvm.Cond.code (⟨"com/example/vsyncopate/vsyncopate/frame/FrameTimingFrameBeginsPinLaw", "pick", "(I)Lcom/example/vsyncopate/vsyncopate/frame/FramePhase;"⟩ : MethodName) method_2_code 1 (some (.object "com/example/vsyncopate/vsyncopate/frame/FramePhase")) :: ws) ({ frames := 0, cells := 0, slots := 0, locals := 0 } : Room)) (fun ar U => ar = #[(.int 2)] ∧ Z.Warmed39 U.vm ∧ U.heap = h0) (fun _ _ _ _ _ => True) (fun _ U oc U' => ∃ v L, oc = .returned v ∧ own_p_2_Q Z w_INPUT w_ANIMATION w_INSETS_ANIMATION w_TRAVERSAL w_COMMIT h0 n0 v U'.heap L ∧ FrameEnd U oc U' L ({ frames := 0, cells := 0, slots := 0, locals := 0 } : Room).cells ({ frames := 0, cells := 0, slots := 0, locals := 0 } : Room).slots) := by
  refine MetFree.of_bodySF (plainFor_of_name own_pn0) hisR ?_
  intro p e s m args below meth c s₁ Bd hml0 hP hK
  obtain ⟨rfl, hZ, hh⟩ := hP
  have hx := Bd.exec
  have hby := Bd.bytes
  have hml : c.maxLocals = 1 := hml0
  have hown : s.vm.findClass "com/example/vsyncopate/vsyncopate/frame/FrameTimingFrameBeginsPinLaw" = some m.cls := findClass_of_methodNamed Bd.named
  have hnm := (name_of_methodNamed Bd.named Bd.method).1
  have X0 : Stand p l e ({ frames := 0, cells := 0, slots := 0, locals := 0 } : Room) s m #[(.int 2)] below meth c s₁ [] 0 0 := Stand.of_body Bd
  have e0 : s₁.heap = h0 := by rw [← hh, Bd.state]; rfl
  have N0 := Fr.nil n0
  have pre0 : ∀ t, Steps p.tables e below (s₁.setTop (mkF m 0 #[iv 2] [])) t → Steps p.tables e below (s₁.setTop (entryFrame m #[(.int 2)] 1)) t := fun t k => castTop (own_p_2_ef m ) k
  obtain ⟨T1, X1, e1, st1⟩ := getS2 X0 hx hZ hown (host := "") (Or.inl (hw _ (own_m 5 rfl))) Via.refl e0 (U_INSETS_ANIMATION.1.ext O0.2) (g := (mkF m 22 #[iv 2] [])) rfl (hb hby own_d1_22)
  obtain ⟨fs, hr, hrun, hended, hW, hsame⟩ := X1.leave (v := some (.ref w_INSETS_ANIMATION)) (fun h => by rw [Bd.returns] at h; cases h)
  refine ⟨_, _, pre0 _ ?_, hrun, hended, _, _, rfl, ?_, ⟨_, rfl⟩, hW, hsame.mono (by decide) (by decide)⟩
  · show Steps p.tables e below (s₁.setTop (mkF m 0 #[iv 2] [])) _
    refine XS.iloadN X0.here hx rfl (hb hby own_d1_0) rfl ?_
    show Steps p.tables e below (s₁.setTop (mkF m 1 #[iv 2] [(.int 2)])) _
    refine XS.ifYes X0.here hx rfl (pc0 := 1) (pc' := 8) rfl (hb hby own_d1_1) rfl ((if0 _ _).trans (feq (by decide)).2) (by decide) (by decide) ?_
    show Steps p.tables e below (s₁.setTop (mkF m 8 #[iv 2] [])) _
    refine XS.iloadN X0.here hx rfl (hb hby own_d1_8) rfl ?_
    show Steps p.tables e below (s₁.setTop (mkF m 9 #[iv 2] [(.int 2)])) _
    refine XS.iconst X0.here hx rfl (hb hby own_d1_9) ?_
    show Steps p.tables e below (s₁.setTop (mkF m 10 #[iv 2] [(.int 1), (.int 2)])) _
    refine XS.icmpYes X0.here hx rfl (pc0 := 10) (pc' := 17) rfl (hb hby own_d1_10) rfl (feq (by decide)).2 (by decide) (by decide) ?_
    show Steps p.tables e below (s₁.setTop (mkF m 17 #[iv 2] [])) _
    refine XS.iloadN X0.here hx rfl (hb hby own_d1_17) rfl ?_
    show Steps p.tables e below (s₁.setTop (mkF m 18 #[iv 2] [(.int 2)])) _
    refine XS.iconst X0.here hx rfl (hb hby own_d1_18) ?_
    show Steps p.tables e below (s₁.setTop (mkF m 19 #[iv 2] [(.int 2), (.int 2)])) _
    refine XS.icmpNo X0.here hx rfl (hb hby own_d1_19) rfl (teq (by decide)).2 ?_
    show Steps p.tables e below (s₁.setTop (mkF m 22 #[iv 2] [])) _
    refine st1 _ ?_
    show Steps p.tables e below (T1.setTop (mkF m 25 #[iv 2] [(.ref w_INSETS_ANIMATION)])) _
    jvm_step X1.here [X1.here.top, hx, (hb hby own_d1_25), X1.method', Bd.returns, Value.isRef, FieldType.isReference]
    first | (intro acts; rw [hr _ acts rfl rfl rfl]) | rw [hr _ _ rfl rfl rfl]
    exact Steps.refl _
  · show own_p_2_Q Z w_INPUT w_ANIMATION w_INSETS_ANIMATION w_TRAVERSAL w_COMMIT h0 n0 _ T1.heap _
    rw [e1]
    exact ⟨rfl, N0, rfl⟩
theorem own_p_3_ef (m : MethodId)  : entryFrame m #[(.int 3)] 1 = mkF m 0 #[iv 3] [] := by first | (simp [entryFrame, mkF, argsToLocals, Value.category]; done) | rfl
def own_p_3_Q (Z : State) (w_INPUT : Addr) (w_ANIMATION : Addr) (w_INSETS_ANIMATION : Addr) (w_TRAVERSAL : Addr) (w_COMMIT : Addr) (h0 : Heap) (n0 : Nat) (v : Option Value) (h : Heap) (L : List Loc) : Prop := v = some (.ref w_TRAVERSAL) ∧ Fr n0 L ∧ h = h0
set_option maxRecDepth 65536 in
set_option maxHeartbeats 40000000 in
theorem own_p_3 (l : Launch) (Z : State) (a0 : Array Value) (hw : ∀ d ∈ tables_1, d.before a0 Z = true) (ws : List Jvm.Cond) (w_INPUT : Addr) (w_ANIMATION : Addr) (w_INSETS_ANIMATION : Addr) (w_TRAVERSAL : Addr) (w_COMMIT : Addr) (h0 : Heap) (n0 : Nat) (O0 : Old Z n0 h0) (U_INPUT : own_En Z Z.heap "com/example/vsyncopate/vsyncopate/frame/FramePhase" "INPUT" "Lcom/example/vsyncopate/vsyncopate/frame/FramePhase;" w_INPUT (0 : Int32)) (U_ANIMATION : own_En Z Z.heap "com/example/vsyncopate/vsyncopate/frame/FramePhase" "ANIMATION" "Lcom/example/vsyncopate/vsyncopate/frame/FramePhase;" w_ANIMATION (1 : Int32)) (U_INSETS_ANIMATION : own_En Z Z.heap "com/example/vsyncopate/vsyncopate/frame/FramePhase" "INSETS_ANIMATION" "Lcom/example/vsyncopate/vsyncopate/frame/FramePhase;" w_INSETS_ANIMATION (2 : Int32)) (U_TRAVERSAL : own_En Z Z.heap "com/example/vsyncopate/vsyncopate/frame/FramePhase" "TRAVERSAL" "Lcom/example/vsyncopate/vsyncopate/frame/FramePhase;" w_TRAVERSAL (3 : Int32)) (U_COMMIT : own_En Z Z.heap "com/example/vsyncopate/vsyncopate/frame/FramePhase" "COMMIT" "Lcom/example/vsyncopate/vsyncopate/frame/FramePhase;" w_COMMIT (4 : Int32)) (S_PC : Sta Z Z.heap "com/example/vsyncopate/vsyncopate/frame/FrameTiming" "PHASE_COUNT" "I" (.int 5)) :
    MetFree l (⟨"com/example/vsyncopate/vsyncopate/frame/FrameTimingFrameBeginsPinLaw", "pick", "(I)Lcom/example/vsyncopate/vsyncopate/frame/FramePhase;"⟩ : MethodName) (head1 (Jvm.Cond.code (⟨"com/example/vsyncopate/vsyncopate/frame/FrameTimingFrameBeginsPinLaw", "pick", "(I)Lcom/example/vsyncopate/vsyncopate/frame/FramePhase;"⟩ : MethodName) method_2_code 1 (some (.object "com/example/vsyncopate/vsyncopate/frame/FramePhase")) :: ws) ({ frames := 0, cells := 0, slots := 0, locals := 0 } : Room)) (fun ar U => ar = #[(.int 3)] ∧ Z.Warmed39 U.vm ∧ U.heap = h0) (fun _ _ _ _ _ => True) (fun _ U oc U' => ∃ v L, oc = .returned v ∧ own_p_3_Q Z w_INPUT w_ANIMATION w_INSETS_ANIMATION w_TRAVERSAL w_COMMIT h0 n0 v U'.heap L ∧ FrameEnd U oc U' L ({ frames := 0, cells := 0, slots := 0, locals := 0 } : Room).cells ({ frames := 0, cells := 0, slots := 0, locals := 0 } : Room).slots) := by
  refine MetFree.of_bodySF (plainFor_of_name own_pn0) hisR ?_
  intro p e s m args below meth c s₁ Bd hml0 hP hK
  obtain ⟨rfl, hZ, hh⟩ := hP
  have hx := Bd.exec
  have hby := Bd.bytes
  have hml : c.maxLocals = 1 := hml0
  have hown : s.vm.findClass "com/example/vsyncopate/vsyncopate/frame/FrameTimingFrameBeginsPinLaw" = some m.cls := findClass_of_methodNamed Bd.named
  have hnm := (name_of_methodNamed Bd.named Bd.method).1
  have X0 : Stand p l e ({ frames := 0, cells := 0, slots := 0, locals := 0 } : Room) s m #[(.int 3)] below meth c s₁ [] 0 0 := Stand.of_body Bd
  have e0 : s₁.heap = h0 := by rw [← hh, Bd.state]; rfl
  have N0 := Fr.nil n0
  have pre0 : ∀ t, Steps p.tables e below (s₁.setTop (mkF m 0 #[iv 3] [])) t → Steps p.tables e below (s₁.setTop (entryFrame m #[(.int 3)] 1)) t := fun t k => castTop (own_p_3_ef m ) k
  obtain ⟨T1, X1, e1, st1⟩ := getS2 X0 hx hZ hown (host := "") (Or.inl (hw _ (own_m 92 rfl))) Via.refl e0 (U_TRAVERSAL.1.ext O0.2) (g := (mkF m 31 #[iv 3] [])) rfl (hb hby own_d1_31)
  obtain ⟨fs, hr, hrun, hended, hW, hsame⟩ := X1.leave (v := some (.ref w_TRAVERSAL)) (fun h => by rw [Bd.returns] at h; cases h)
  refine ⟨_, _, pre0 _ ?_, hrun, hended, _, _, rfl, ?_, ⟨_, rfl⟩, hW, hsame.mono (by decide) (by decide)⟩
  · show Steps p.tables e below (s₁.setTop (mkF m 0 #[iv 3] [])) _
    refine XS.iloadN X0.here hx rfl (hb hby own_d1_0) rfl ?_
    show Steps p.tables e below (s₁.setTop (mkF m 1 #[iv 3] [(.int 3)])) _
    refine XS.ifYes X0.here hx rfl (pc0 := 1) (pc' := 8) rfl (hb hby own_d1_1) rfl ((if0 _ _).trans (feq (by decide)).2) (by decide) (by decide) ?_
    show Steps p.tables e below (s₁.setTop (mkF m 8 #[iv 3] [])) _
    refine XS.iloadN X0.here hx rfl (hb hby own_d1_8) rfl ?_
    show Steps p.tables e below (s₁.setTop (mkF m 9 #[iv 3] [(.int 3)])) _
    refine XS.iconst X0.here hx rfl (hb hby own_d1_9) ?_
    show Steps p.tables e below (s₁.setTop (mkF m 10 #[iv 3] [(.int 1), (.int 3)])) _
    refine XS.icmpYes X0.here hx rfl (pc0 := 10) (pc' := 17) rfl (hb hby own_d1_10) rfl (feq (by decide)).2 (by decide) (by decide) ?_
    show Steps p.tables e below (s₁.setTop (mkF m 17 #[iv 3] [])) _
    refine XS.iloadN X0.here hx rfl (hb hby own_d1_17) rfl ?_
    show Steps p.tables e below (s₁.setTop (mkF m 18 #[iv 3] [(.int 3)])) _
    refine XS.iconst X0.here hx rfl (hb hby own_d1_18) ?_
    show Steps p.tables e below (s₁.setTop (mkF m 19 #[iv 3] [(.int 2), (.int 3)])) _
    refine XS.icmpYes X0.here hx rfl (pc0 := 19) (pc' := 26) rfl (hb hby own_d1_19) rfl (feq (by decide)).2 (by decide) (by decide) ?_
    show Steps p.tables e below (s₁.setTop (mkF m 26 #[iv 3] [])) _
    refine XS.iloadN X0.here hx rfl (hb hby own_d1_26) rfl ?_
    show Steps p.tables e below (s₁.setTop (mkF m 27 #[iv 3] [(.int 3)])) _
    refine XS.iconst X0.here hx rfl (hb hby own_d1_27) ?_
    show Steps p.tables e below (s₁.setTop (mkF m 28 #[iv 3] [(.int 3), (.int 3)])) _
    refine XS.icmpNo X0.here hx rfl (hb hby own_d1_28) rfl (teq (by decide)).2 ?_
    show Steps p.tables e below (s₁.setTop (mkF m 31 #[iv 3] [])) _
    refine st1 _ ?_
    show Steps p.tables e below (T1.setTop (mkF m 34 #[iv 3] [(.ref w_TRAVERSAL)])) _
    jvm_step X1.here [X1.here.top, hx, (hb hby own_d1_34), X1.method', Bd.returns, Value.isRef, FieldType.isReference]
    first | (intro acts; rw [hr _ acts rfl rfl rfl]) | rw [hr _ _ rfl rfl rfl]
    exact Steps.refl _
  · show own_p_3_Q Z w_INPUT w_ANIMATION w_INSETS_ANIMATION w_TRAVERSAL w_COMMIT h0 n0 _ T1.heap _
    rw [e1]
    exact ⟨rfl, N0, rfl⟩
theorem own_p_4_ef (m : MethodId)  : entryFrame m #[(.int 4)] 1 = mkF m 0 #[iv 4] [] := by first | (simp [entryFrame, mkF, argsToLocals, Value.category]; done) | rfl
def own_p_4_Q (Z : State) (w_INPUT : Addr) (w_ANIMATION : Addr) (w_INSETS_ANIMATION : Addr) (w_TRAVERSAL : Addr) (w_COMMIT : Addr) (h0 : Heap) (n0 : Nat) (v : Option Value) (h : Heap) (L : List Loc) : Prop := v = some (.ref w_COMMIT) ∧ Fr n0 L ∧ h = h0
set_option maxRecDepth 65536 in
set_option maxHeartbeats 40000000 in
theorem own_p_4 (l : Launch) (Z : State) (a0 : Array Value) (hw : ∀ d ∈ tables_1, d.before a0 Z = true) (ws : List Jvm.Cond) (w_INPUT : Addr) (w_ANIMATION : Addr) (w_INSETS_ANIMATION : Addr) (w_TRAVERSAL : Addr) (w_COMMIT : Addr) (h0 : Heap) (n0 : Nat) (O0 : Old Z n0 h0) (U_INPUT : own_En Z Z.heap "com/example/vsyncopate/vsyncopate/frame/FramePhase" "INPUT" "Lcom/example/vsyncopate/vsyncopate/frame/FramePhase;" w_INPUT (0 : Int32)) (U_ANIMATION : own_En Z Z.heap "com/example/vsyncopate/vsyncopate/frame/FramePhase" "ANIMATION" "Lcom/example/vsyncopate/vsyncopate/frame/FramePhase;" w_ANIMATION (1 : Int32)) (U_INSETS_ANIMATION : own_En Z Z.heap "com/example/vsyncopate/vsyncopate/frame/FramePhase" "INSETS_ANIMATION" "Lcom/example/vsyncopate/vsyncopate/frame/FramePhase;" w_INSETS_ANIMATION (2 : Int32)) (U_TRAVERSAL : own_En Z Z.heap "com/example/vsyncopate/vsyncopate/frame/FramePhase" "TRAVERSAL" "Lcom/example/vsyncopate/vsyncopate/frame/FramePhase;" w_TRAVERSAL (3 : Int32)) (U_COMMIT : own_En Z Z.heap "com/example/vsyncopate/vsyncopate/frame/FramePhase" "COMMIT" "Lcom/example/vsyncopate/vsyncopate/frame/FramePhase;" w_COMMIT (4 : Int32)) (S_PC : Sta Z Z.heap "com/example/vsyncopate/vsyncopate/frame/FrameTiming" "PHASE_COUNT" "I" (.int 5)) :
    MetFree l (⟨"com/example/vsyncopate/vsyncopate/frame/FrameTimingFrameBeginsPinLaw", "pick", "(I)Lcom/example/vsyncopate/vsyncopate/frame/FramePhase;"⟩ : MethodName) (head1 (Jvm.Cond.code (⟨"com/example/vsyncopate/vsyncopate/frame/FrameTimingFrameBeginsPinLaw", "pick", "(I)Lcom/example/vsyncopate/vsyncopate/frame/FramePhase;"⟩ : MethodName) method_2_code 1 (some (.object "com/example/vsyncopate/vsyncopate/frame/FramePhase")) :: ws) ({ frames := 0, cells := 0, slots := 0, locals := 0 } : Room)) (fun ar U => ar = #[(.int 4)] ∧ Z.Warmed39 U.vm ∧ U.heap = h0) (fun _ _ _ _ _ => True) (fun _ U oc U' => ∃ v L, oc = .returned v ∧ own_p_4_Q Z w_INPUT w_ANIMATION w_INSETS_ANIMATION w_TRAVERSAL w_COMMIT h0 n0 v U'.heap L ∧ FrameEnd U oc U' L ({ frames := 0, cells := 0, slots := 0, locals := 0 } : Room).cells ({ frames := 0, cells := 0, slots := 0, locals := 0 } : Room).slots) := by
  refine MetFree.of_bodySF (plainFor_of_name own_pn0) hisR ?_
  intro p e s m args below meth c s₁ Bd hml0 hP hK
  obtain ⟨rfl, hZ, hh⟩ := hP
  have hx := Bd.exec
  have hby := Bd.bytes
  have hml : c.maxLocals = 1 := hml0
  have hown : s.vm.findClass "com/example/vsyncopate/vsyncopate/frame/FrameTimingFrameBeginsPinLaw" = some m.cls := findClass_of_methodNamed Bd.named
  have hnm := (name_of_methodNamed Bd.named Bd.method).1
  have X0 : Stand p l e ({ frames := 0, cells := 0, slots := 0, locals := 0 } : Room) s m #[(.int 4)] below meth c s₁ [] 0 0 := Stand.of_body Bd
  have e0 : s₁.heap = h0 := by rw [← hh, Bd.state]; rfl
  have N0 := Fr.nil n0
  have pre0 : ∀ t, Steps p.tables e below (s₁.setTop (mkF m 0 #[iv 4] [])) t → Steps p.tables e below (s₁.setTop (entryFrame m #[(.int 4)] 1)) t := fun t k => castTop (own_p_4_ef m ) k
  obtain ⟨T1, X1, e1, st1⟩ := getS2 X0 hx hZ hown (host := "") (Or.inl (hw _ (own_m 88 rfl))) Via.refl e0 (U_COMMIT.1.ext O0.2) (g := (mkF m 35 #[iv 4] [])) rfl (hb hby own_d1_35)
  obtain ⟨fs, hr, hrun, hended, hW, hsame⟩ := X1.leave (v := some (.ref w_COMMIT)) (fun h => by rw [Bd.returns] at h; cases h)
  refine ⟨_, _, pre0 _ ?_, hrun, hended, _, _, rfl, ?_, ⟨_, rfl⟩, hW, hsame.mono (by decide) (by decide)⟩
  · show Steps p.tables e below (s₁.setTop (mkF m 0 #[iv 4] [])) _
    refine XS.iloadN X0.here hx rfl (hb hby own_d1_0) rfl ?_
    show Steps p.tables e below (s₁.setTop (mkF m 1 #[iv 4] [(.int 4)])) _
    refine XS.ifYes X0.here hx rfl (pc0 := 1) (pc' := 8) rfl (hb hby own_d1_1) rfl ((if0 _ _).trans (feq (by decide)).2) (by decide) (by decide) ?_
    show Steps p.tables e below (s₁.setTop (mkF m 8 #[iv 4] [])) _
    refine XS.iloadN X0.here hx rfl (hb hby own_d1_8) rfl ?_
    show Steps p.tables e below (s₁.setTop (mkF m 9 #[iv 4] [(.int 4)])) _
    refine XS.iconst X0.here hx rfl (hb hby own_d1_9) ?_
    show Steps p.tables e below (s₁.setTop (mkF m 10 #[iv 4] [(.int 1), (.int 4)])) _
    refine XS.icmpYes X0.here hx rfl (pc0 := 10) (pc' := 17) rfl (hb hby own_d1_10) rfl (feq (by decide)).2 (by decide) (by decide) ?_
    show Steps p.tables e below (s₁.setTop (mkF m 17 #[iv 4] [])) _
    refine XS.iloadN X0.here hx rfl (hb hby own_d1_17) rfl ?_
    show Steps p.tables e below (s₁.setTop (mkF m 18 #[iv 4] [(.int 4)])) _
    refine XS.iconst X0.here hx rfl (hb hby own_d1_18) ?_
    show Steps p.tables e below (s₁.setTop (mkF m 19 #[iv 4] [(.int 2), (.int 4)])) _
    refine XS.icmpYes X0.here hx rfl (pc0 := 19) (pc' := 26) rfl (hb hby own_d1_19) rfl (feq (by decide)).2 (by decide) (by decide) ?_
    show Steps p.tables e below (s₁.setTop (mkF m 26 #[iv 4] [])) _
    refine XS.iloadN X0.here hx rfl (hb hby own_d1_26) rfl ?_
    show Steps p.tables e below (s₁.setTop (mkF m 27 #[iv 4] [(.int 4)])) _
    refine XS.iconst X0.here hx rfl (hb hby own_d1_27) ?_
    show Steps p.tables e below (s₁.setTop (mkF m 28 #[iv 4] [(.int 3), (.int 4)])) _
    refine XS.icmpYes X0.here hx rfl (pc0 := 28) (pc' := 35) rfl (hb hby own_d1_28) rfl (feq (by decide)).2 (by decide) (by decide) ?_
    show Steps p.tables e below (s₁.setTop (mkF m 35 #[iv 4] [])) _
    refine st1 _ ?_
    show Steps p.tables e below (T1.setTop (mkF m 38 #[iv 4] [(.ref w_COMMIT)])) _
    jvm_step X1.here [X1.here.top, hx, (hb hby own_d1_38), X1.method', Bd.returns, Value.isRef, FieldType.isReference]
    first | (intro acts; rw [hr _ acts rfl rfl rfl]) | rw [hr _ _ rfl rfl rfl]
    exact Steps.refl _
  · show own_p_4_Q Z w_INPUT w_ANIMATION w_INSETS_ANIMATION w_TRAVERSAL w_COMMIT h0 n0 _ T1.heap _
    rw [e1]
    exact ⟨rfl, N0, rfl⟩
theorem own_o_INPUT_ef (m : MethodId) (w_INPUT : Addr) : entryFrame m #[(.ref w_INPUT)] 1 = mkF m 0 #[rv w_INPUT] [] := by first | (simp [entryFrame, mkF, argsToLocals, Value.category]; done) | rfl
def own_o_INPUT_Q (Z : State) (w_INPUT : Addr) (w_ANIMATION : Addr) (w_INSETS_ANIMATION : Addr) (w_TRAVERSAL : Addr) (w_COMMIT : Addr) (h0 : Heap) (n0 : Nat) (v : Option Value) (h : Heap) (L : List Loc) : Prop := v = some (.int 0) ∧ Fr n0 L ∧ h = h0
set_option maxRecDepth 65536 in
set_option maxHeartbeats 40000000 in
theorem own_o_INPUT (l : Launch) (Z : State) (a0 : Array Value) (hw : ∀ d ∈ tables_1, d.before a0 Z = true) (ws : List Jvm.Cond) (w_INPUT : Addr) (w_ANIMATION : Addr) (w_INSETS_ANIMATION : Addr) (w_TRAVERSAL : Addr) (w_COMMIT : Addr) (h0 : Heap) (n0 : Nat) (O0 : Old Z n0 h0) (U_INPUT : own_En Z Z.heap "com/example/vsyncopate/vsyncopate/frame/FramePhase" "INPUT" "Lcom/example/vsyncopate/vsyncopate/frame/FramePhase;" w_INPUT (0 : Int32)) (U_ANIMATION : own_En Z Z.heap "com/example/vsyncopate/vsyncopate/frame/FramePhase" "ANIMATION" "Lcom/example/vsyncopate/vsyncopate/frame/FramePhase;" w_ANIMATION (1 : Int32)) (U_INSETS_ANIMATION : own_En Z Z.heap "com/example/vsyncopate/vsyncopate/frame/FramePhase" "INSETS_ANIMATION" "Lcom/example/vsyncopate/vsyncopate/frame/FramePhase;" w_INSETS_ANIMATION (2 : Int32)) (U_TRAVERSAL : own_En Z Z.heap "com/example/vsyncopate/vsyncopate/frame/FramePhase" "TRAVERSAL" "Lcom/example/vsyncopate/vsyncopate/frame/FramePhase;" w_TRAVERSAL (3 : Int32)) (U_COMMIT : own_En Z Z.heap "com/example/vsyncopate/vsyncopate/frame/FramePhase" "COMMIT" "Lcom/example/vsyncopate/vsyncopate/frame/FramePhase;" w_COMMIT (4 : Int32)) (S_PC : Sta Z Z.heap "com/example/vsyncopate/vsyncopate/frame/FrameTiming" "PHASE_COUNT" "I" (.int 5)) :
    MetFree l (⟨"java/lang/Enum", "ordinal", "()I"⟩ : MethodName) (head1 (Jvm.Cond.code (⟨"java/lang/Enum", "ordinal", "()I"⟩ : MethodName) jdk_37_method_2_code 1 (some .int) :: ws) ({ frames := 0, cells := 0, slots := 0, locals := 0 } : Room)) (fun ar U => ar = #[(.ref w_INPUT)] ∧ Z.Warmed39 U.vm ∧ U.heap = h0) (fun _ _ _ _ _ => True) (fun _ U oc U' => ∃ v L, oc = .returned v ∧ own_o_INPUT_Q Z w_INPUT w_ANIMATION w_INSETS_ANIMATION w_TRAVERSAL w_COMMIT h0 n0 v U'.heap L ∧ FrameEnd U oc U' L ({ frames := 0, cells := 0, slots := 0, locals := 0 } : Room).cells ({ frames := 0, cells := 0, slots := 0, locals := 0 } : Room).slots) := by
  refine MetFree.of_bodySF (plainFor_of_name own_pn1) hisR ?_
  intro p e s m args below meth c s₁ Bd hml0 hP hK
  obtain ⟨rfl, hZ, hh⟩ := hP
  have hx := Bd.exec
  have hby := Bd.bytes
  have hml : c.maxLocals = 1 := hml0
  have hown : s.vm.findClass "java/lang/Enum" = some m.cls := findClass_of_methodNamed Bd.named
  have hnm := (name_of_methodNamed Bd.named Bd.method).1
  have X0 : Stand p l e ({ frames := 0, cells := 0, slots := 0, locals := 0 } : Room) s m #[(.ref w_INPUT)] below meth c s₁ [] 0 0 := Stand.of_body Bd
  have e0 : s₁.heap = h0 := by rw [← hh, Bd.state]; rfl
  have N0 := Fr.nil n0
  have pre0 : ∀ t, Steps p.tables e below (s₁.setTop (mkF m 0 #[rv w_INPUT] [])) t → Steps p.tables e below (s₁.setTop (entryFrame m #[(.ref w_INPUT)] 1)) t := fun t k => castTop (own_o_INPUT_ef m w_INPUT) k
  obtain ⟨T1, X1, e1, st1⟩ := getF X0 hx hZ hown (host := "") (Or.inl (hw _ (own_m 54 rfl))) Via.refl e0 (U_INPUT.2.2.ext O0.2) (g := (mkF m 1 #[rv w_INPUT] [(.ref w_INPUT)])) rfl rfl (hb hby own_d6_1)
  obtain ⟨fs, hr, hrun, hended, hW, hsame⟩ := X1.leave (v := some (.int 0)) (fun h => by rw [Bd.returns] at h; cases h)
  refine ⟨_, _, pre0 _ ?_, hrun, hended, _, _, rfl, ?_, ⟨_, rfl⟩, hW, hsame.mono (by decide) (by decide)⟩
  · show Steps p.tables e below (s₁.setTop (mkF m 0 #[rv w_INPUT] [])) _
    refine XS.aloadN X0.here hx rfl (hb hby own_d6_0) rfl rfl ?_
    show Steps p.tables e below (s₁.setTop (mkF m 1 #[rv w_INPUT] [(.ref w_INPUT)])) _
    refine st1 _ ?_
    show Steps p.tables e below (T1.setTop (mkF m 4 #[rv w_INPUT] [(.int 0)])) _
    exact retI X1 hx Bd.returns (hb hby own_d6_4) hr
  · show own_o_INPUT_Q Z w_INPUT w_ANIMATION w_INSETS_ANIMATION w_TRAVERSAL w_COMMIT h0 n0 _ T1.heap _
    rw [e1]
    exact ⟨rfl, N0, rfl⟩
theorem own_o_ANIMATION_ef (m : MethodId) (w_ANIMATION : Addr) : entryFrame m #[(.ref w_ANIMATION)] 1 = mkF m 0 #[rv w_ANIMATION] [] := by first | (simp [entryFrame, mkF, argsToLocals, Value.category]; done) | rfl
def own_o_ANIMATION_Q (Z : State) (w_INPUT : Addr) (w_ANIMATION : Addr) (w_INSETS_ANIMATION : Addr) (w_TRAVERSAL : Addr) (w_COMMIT : Addr) (h0 : Heap) (n0 : Nat) (v : Option Value) (h : Heap) (L : List Loc) : Prop := v = some (.int 1) ∧ Fr n0 L ∧ h = h0
set_option maxRecDepth 65536 in
set_option maxHeartbeats 40000000 in
theorem own_o_ANIMATION (l : Launch) (Z : State) (a0 : Array Value) (hw : ∀ d ∈ tables_1, d.before a0 Z = true) (ws : List Jvm.Cond) (w_INPUT : Addr) (w_ANIMATION : Addr) (w_INSETS_ANIMATION : Addr) (w_TRAVERSAL : Addr) (w_COMMIT : Addr) (h0 : Heap) (n0 : Nat) (O0 : Old Z n0 h0) (U_INPUT : own_En Z Z.heap "com/example/vsyncopate/vsyncopate/frame/FramePhase" "INPUT" "Lcom/example/vsyncopate/vsyncopate/frame/FramePhase;" w_INPUT (0 : Int32)) (U_ANIMATION : own_En Z Z.heap "com/example/vsyncopate/vsyncopate/frame/FramePhase" "ANIMATION" "Lcom/example/vsyncopate/vsyncopate/frame/FramePhase;" w_ANIMATION (1 : Int32)) (U_INSETS_ANIMATION : own_En Z Z.heap "com/example/vsyncopate/vsyncopate/frame/FramePhase" "INSETS_ANIMATION" "Lcom/example/vsyncopate/vsyncopate/frame/FramePhase;" w_INSETS_ANIMATION (2 : Int32)) (U_TRAVERSAL : own_En Z Z.heap "com/example/vsyncopate/vsyncopate/frame/FramePhase" "TRAVERSAL" "Lcom/example/vsyncopate/vsyncopate/frame/FramePhase;" w_TRAVERSAL (3 : Int32)) (U_COMMIT : own_En Z Z.heap "com/example/vsyncopate/vsyncopate/frame/FramePhase" "COMMIT" "Lcom/example/vsyncopate/vsyncopate/frame/FramePhase;" w_COMMIT (4 : Int32)) (S_PC : Sta Z Z.heap "com/example/vsyncopate/vsyncopate/frame/FrameTiming" "PHASE_COUNT" "I" (.int 5)) :
    MetFree l (⟨"java/lang/Enum", "ordinal", "()I"⟩ : MethodName) (head1 (Jvm.Cond.code (⟨"java/lang/Enum", "ordinal", "()I"⟩ : MethodName) jdk_37_method_2_code 1 (some .int) :: ws) ({ frames := 0, cells := 0, slots := 0, locals := 0 } : Room)) (fun ar U => ar = #[(.ref w_ANIMATION)] ∧ Z.Warmed39 U.vm ∧ U.heap = h0) (fun _ _ _ _ _ => True) (fun _ U oc U' => ∃ v L, oc = .returned v ∧ own_o_ANIMATION_Q Z w_INPUT w_ANIMATION w_INSETS_ANIMATION w_TRAVERSAL w_COMMIT h0 n0 v U'.heap L ∧ FrameEnd U oc U' L ({ frames := 0, cells := 0, slots := 0, locals := 0 } : Room).cells ({ frames := 0, cells := 0, slots := 0, locals := 0 } : Room).slots) := by
  refine MetFree.of_bodySF (plainFor_of_name own_pn1) hisR ?_
  intro p e s m args below meth c s₁ Bd hml0 hP hK
  obtain ⟨rfl, hZ, hh⟩ := hP
  have hx := Bd.exec
  have hby := Bd.bytes
  have hml : c.maxLocals = 1 := hml0
  have hown : s.vm.findClass "java/lang/Enum" = some m.cls := findClass_of_methodNamed Bd.named
  have hnm := (name_of_methodNamed Bd.named Bd.method).1
  have X0 : Stand p l e ({ frames := 0, cells := 0, slots := 0, locals := 0 } : Room) s m #[(.ref w_ANIMATION)] below meth c s₁ [] 0 0 := Stand.of_body Bd
  have e0 : s₁.heap = h0 := by rw [← hh, Bd.state]; rfl
  have N0 := Fr.nil n0
  have pre0 : ∀ t, Steps p.tables e below (s₁.setTop (mkF m 0 #[rv w_ANIMATION] [])) t → Steps p.tables e below (s₁.setTop (entryFrame m #[(.ref w_ANIMATION)] 1)) t := fun t k => castTop (own_o_ANIMATION_ef m w_ANIMATION) k
  obtain ⟨T1, X1, e1, st1⟩ := getF X0 hx hZ hown (host := "") (Or.inl (hw _ (own_m 54 rfl))) Via.refl e0 (U_ANIMATION.2.2.ext O0.2) (g := (mkF m 1 #[rv w_ANIMATION] [(.ref w_ANIMATION)])) rfl rfl (hb hby own_d6_1)
  obtain ⟨fs, hr, hrun, hended, hW, hsame⟩ := X1.leave (v := some (.int 1)) (fun h => by rw [Bd.returns] at h; cases h)
  refine ⟨_, _, pre0 _ ?_, hrun, hended, _, _, rfl, ?_, ⟨_, rfl⟩, hW, hsame.mono (by decide) (by decide)⟩
  · show Steps p.tables e below (s₁.setTop (mkF m 0 #[rv w_ANIMATION] [])) _
    refine XS.aloadN X0.here hx rfl (hb hby own_d6_0) rfl rfl ?_
    show Steps p.tables e below (s₁.setTop (mkF m 1 #[rv w_ANIMATION] [(.ref w_ANIMATION)])) _
    refine st1 _ ?_
    show Steps p.tables e below (T1.setTop (mkF m 4 #[rv w_ANIMATION] [(.int 1)])) _
    exact retI X1 hx Bd.returns (hb hby own_d6_4) hr
  · show own_o_ANIMATION_Q Z w_INPUT w_ANIMATION w_INSETS_ANIMATION w_TRAVERSAL w_COMMIT h0 n0 _ T1.heap _
    rw [e1]
    exact ⟨rfl, N0, rfl⟩
theorem own_o_INSETS_ANIMATION_ef (m : MethodId) (w_INSETS_ANIMATION : Addr) : entryFrame m #[(.ref w_INSETS_ANIMATION)] 1 = mkF m 0 #[rv w_INSETS_ANIMATION] [] := by first | (simp [entryFrame, mkF, argsToLocals, Value.category]; done) | rfl
def own_o_INSETS_ANIMATION_Q (Z : State) (w_INPUT : Addr) (w_ANIMATION : Addr) (w_INSETS_ANIMATION : Addr) (w_TRAVERSAL : Addr) (w_COMMIT : Addr) (h0 : Heap) (n0 : Nat) (v : Option Value) (h : Heap) (L : List Loc) : Prop := v = some (.int 2) ∧ Fr n0 L ∧ h = h0
set_option maxRecDepth 65536 in
set_option maxHeartbeats 40000000 in
theorem own_o_INSETS_ANIMATION (l : Launch) (Z : State) (a0 : Array Value) (hw : ∀ d ∈ tables_1, d.before a0 Z = true) (ws : List Jvm.Cond) (w_INPUT : Addr) (w_ANIMATION : Addr) (w_INSETS_ANIMATION : Addr) (w_TRAVERSAL : Addr) (w_COMMIT : Addr) (h0 : Heap) (n0 : Nat) (O0 : Old Z n0 h0) (U_INPUT : own_En Z Z.heap "com/example/vsyncopate/vsyncopate/frame/FramePhase" "INPUT" "Lcom/example/vsyncopate/vsyncopate/frame/FramePhase;" w_INPUT (0 : Int32)) (U_ANIMATION : own_En Z Z.heap "com/example/vsyncopate/vsyncopate/frame/FramePhase" "ANIMATION" "Lcom/example/vsyncopate/vsyncopate/frame/FramePhase;" w_ANIMATION (1 : Int32)) (U_INSETS_ANIMATION : own_En Z Z.heap "com/example/vsyncopate/vsyncopate/frame/FramePhase" "INSETS_ANIMATION" "Lcom/example/vsyncopate/vsyncopate/frame/FramePhase;" w_INSETS_ANIMATION (2 : Int32)) (U_TRAVERSAL : own_En Z Z.heap "com/example/vsyncopate/vsyncopate/frame/FramePhase" "TRAVERSAL" "Lcom/example/vsyncopate/vsyncopate/frame/FramePhase;" w_TRAVERSAL (3 : Int32)) (U_COMMIT : own_En Z Z.heap "com/example/vsyncopate/vsyncopate/frame/FramePhase" "COMMIT" "Lcom/example/vsyncopate/vsyncopate/frame/FramePhase;" w_COMMIT (4 : Int32)) (S_PC : Sta Z Z.heap "com/example/vsyncopate/vsyncopate/frame/FrameTiming" "PHASE_COUNT" "I" (.int 5)) :
    MetFree l (⟨"java/lang/Enum", "ordinal", "()I"⟩ : MethodName) (head1 (Jvm.Cond.code (⟨"java/lang/Enum", "ordinal", "()I"⟩ : MethodName) jdk_37_method_2_code 1 (some .int) :: ws) ({ frames := 0, cells := 0, slots := 0, locals := 0 } : Room)) (fun ar U => ar = #[(.ref w_INSETS_ANIMATION)] ∧ Z.Warmed39 U.vm ∧ U.heap = h0) (fun _ _ _ _ _ => True) (fun _ U oc U' => ∃ v L, oc = .returned v ∧ own_o_INSETS_ANIMATION_Q Z w_INPUT w_ANIMATION w_INSETS_ANIMATION w_TRAVERSAL w_COMMIT h0 n0 v U'.heap L ∧ FrameEnd U oc U' L ({ frames := 0, cells := 0, slots := 0, locals := 0 } : Room).cells ({ frames := 0, cells := 0, slots := 0, locals := 0 } : Room).slots) := by
  refine MetFree.of_bodySF (plainFor_of_name own_pn1) hisR ?_
  intro p e s m args below meth c s₁ Bd hml0 hP hK
  obtain ⟨rfl, hZ, hh⟩ := hP
  have hx := Bd.exec
  have hby := Bd.bytes
  have hml : c.maxLocals = 1 := hml0
  have hown : s.vm.findClass "java/lang/Enum" = some m.cls := findClass_of_methodNamed Bd.named
  have hnm := (name_of_methodNamed Bd.named Bd.method).1
  have X0 : Stand p l e ({ frames := 0, cells := 0, slots := 0, locals := 0 } : Room) s m #[(.ref w_INSETS_ANIMATION)] below meth c s₁ [] 0 0 := Stand.of_body Bd
  have e0 : s₁.heap = h0 := by rw [← hh, Bd.state]; rfl
  have N0 := Fr.nil n0
  have pre0 : ∀ t, Steps p.tables e below (s₁.setTop (mkF m 0 #[rv w_INSETS_ANIMATION] [])) t → Steps p.tables e below (s₁.setTop (entryFrame m #[(.ref w_INSETS_ANIMATION)] 1)) t := fun t k => castTop (own_o_INSETS_ANIMATION_ef m w_INSETS_ANIMATION) k
  obtain ⟨T1, X1, e1, st1⟩ := getF X0 hx hZ hown (host := "") (Or.inl (hw _ (own_m 54 rfl))) Via.refl e0 (U_INSETS_ANIMATION.2.2.ext O0.2) (g := (mkF m 1 #[rv w_INSETS_ANIMATION] [(.ref w_INSETS_ANIMATION)])) rfl rfl (hb hby own_d6_1)
  obtain ⟨fs, hr, hrun, hended, hW, hsame⟩ := X1.leave (v := some (.int 2)) (fun h => by rw [Bd.returns] at h; cases h)
  refine ⟨_, _, pre0 _ ?_, hrun, hended, _, _, rfl, ?_, ⟨_, rfl⟩, hW, hsame.mono (by decide) (by decide)⟩
  · show Steps p.tables e below (s₁.setTop (mkF m 0 #[rv w_INSETS_ANIMATION] [])) _
    refine XS.aloadN X0.here hx rfl (hb hby own_d6_0) rfl rfl ?_
    show Steps p.tables e below (s₁.setTop (mkF m 1 #[rv w_INSETS_ANIMATION] [(.ref w_INSETS_ANIMATION)])) _
    refine st1 _ ?_
    show Steps p.tables e below (T1.setTop (mkF m 4 #[rv w_INSETS_ANIMATION] [(.int 2)])) _
    exact retI X1 hx Bd.returns (hb hby own_d6_4) hr
  · show own_o_INSETS_ANIMATION_Q Z w_INPUT w_ANIMATION w_INSETS_ANIMATION w_TRAVERSAL w_COMMIT h0 n0 _ T1.heap _
    rw [e1]
    exact ⟨rfl, N0, rfl⟩
theorem own_o_TRAVERSAL_ef (m : MethodId) (w_TRAVERSAL : Addr) : entryFrame m #[(.ref w_TRAVERSAL)] 1 = mkF m 0 #[rv w_TRAVERSAL] [] := by first | (simp [entryFrame, mkF, argsToLocals, Value.category]; done) | rfl
def own_o_TRAVERSAL_Q (Z : State) (w_INPUT : Addr) (w_ANIMATION : Addr) (w_INSETS_ANIMATION : Addr) (w_TRAVERSAL : Addr) (w_COMMIT : Addr) (h0 : Heap) (n0 : Nat) (v : Option Value) (h : Heap) (L : List Loc) : Prop := v = some (.int 3) ∧ Fr n0 L ∧ h = h0
set_option maxRecDepth 65536 in
set_option maxHeartbeats 40000000 in
theorem own_o_TRAVERSAL (l : Launch) (Z : State) (a0 : Array Value) (hw : ∀ d ∈ tables_1, d.before a0 Z = true) (ws : List Jvm.Cond) (w_INPUT : Addr) (w_ANIMATION : Addr) (w_INSETS_ANIMATION : Addr) (w_TRAVERSAL : Addr) (w_COMMIT : Addr) (h0 : Heap) (n0 : Nat) (O0 : Old Z n0 h0) (U_INPUT : own_En Z Z.heap "com/example/vsyncopate/vsyncopate/frame/FramePhase" "INPUT" "Lcom/example/vsyncopate/vsyncopate/frame/FramePhase;" w_INPUT (0 : Int32)) (U_ANIMATION : own_En Z Z.heap "com/example/vsyncopate/vsyncopate/frame/FramePhase" "ANIMATION" "Lcom/example/vsyncopate/vsyncopate/frame/FramePhase;" w_ANIMATION (1 : Int32)) (U_INSETS_ANIMATION : own_En Z Z.heap "com/example/vsyncopate/vsyncopate/frame/FramePhase" "INSETS_ANIMATION" "Lcom/example/vsyncopate/vsyncopate/frame/FramePhase;" w_INSETS_ANIMATION (2 : Int32)) (U_TRAVERSAL : own_En Z Z.heap "com/example/vsyncopate/vsyncopate/frame/FramePhase" "TRAVERSAL" "Lcom/example/vsyncopate/vsyncopate/frame/FramePhase;" w_TRAVERSAL (3 : Int32)) (U_COMMIT : own_En Z Z.heap "com/example/vsyncopate/vsyncopate/frame/FramePhase" "COMMIT" "Lcom/example/vsyncopate/vsyncopate/frame/FramePhase;" w_COMMIT (4 : Int32)) (S_PC : Sta Z Z.heap "com/example/vsyncopate/vsyncopate/frame/FrameTiming" "PHASE_COUNT" "I" (.int 5)) :
    MetFree l (⟨"java/lang/Enum", "ordinal", "()I"⟩ : MethodName) (head1 (Jvm.Cond.code (⟨"java/lang/Enum", "ordinal", "()I"⟩ : MethodName) jdk_37_method_2_code 1 (some .int) :: ws) ({ frames := 0, cells := 0, slots := 0, locals := 0 } : Room)) (fun ar U => ar = #[(.ref w_TRAVERSAL)] ∧ Z.Warmed39 U.vm ∧ U.heap = h0) (fun _ _ _ _ _ => True) (fun _ U oc U' => ∃ v L, oc = .returned v ∧ own_o_TRAVERSAL_Q Z w_INPUT w_ANIMATION w_INSETS_ANIMATION w_TRAVERSAL w_COMMIT h0 n0 v U'.heap L ∧ FrameEnd U oc U' L ({ frames := 0, cells := 0, slots := 0, locals := 0 } : Room).cells ({ frames := 0, cells := 0, slots := 0, locals := 0 } : Room).slots) := by
  refine MetFree.of_bodySF (plainFor_of_name own_pn1) hisR ?_
  intro p e s m args below meth c s₁ Bd hml0 hP hK
  obtain ⟨rfl, hZ, hh⟩ := hP
  have hx := Bd.exec
  have hby := Bd.bytes
  have hml : c.maxLocals = 1 := hml0
  have hown : s.vm.findClass "java/lang/Enum" = some m.cls := findClass_of_methodNamed Bd.named
  have hnm := (name_of_methodNamed Bd.named Bd.method).1
  have X0 : Stand p l e ({ frames := 0, cells := 0, slots := 0, locals := 0 } : Room) s m #[(.ref w_TRAVERSAL)] below meth c s₁ [] 0 0 := Stand.of_body Bd
  have e0 : s₁.heap = h0 := by rw [← hh, Bd.state]; rfl
  have N0 := Fr.nil n0
  have pre0 : ∀ t, Steps p.tables e below (s₁.setTop (mkF m 0 #[rv w_TRAVERSAL] [])) t → Steps p.tables e below (s₁.setTop (entryFrame m #[(.ref w_TRAVERSAL)] 1)) t := fun t k => castTop (own_o_TRAVERSAL_ef m w_TRAVERSAL) k
  obtain ⟨T1, X1, e1, st1⟩ := getF X0 hx hZ hown (host := "") (Or.inl (hw _ (own_m 54 rfl))) Via.refl e0 (U_TRAVERSAL.2.2.ext O0.2) (g := (mkF m 1 #[rv w_TRAVERSAL] [(.ref w_TRAVERSAL)])) rfl rfl (hb hby own_d6_1)
  obtain ⟨fs, hr, hrun, hended, hW, hsame⟩ := X1.leave (v := some (.int 3)) (fun h => by rw [Bd.returns] at h; cases h)
  refine ⟨_, _, pre0 _ ?_, hrun, hended, _, _, rfl, ?_, ⟨_, rfl⟩, hW, hsame.mono (by decide) (by decide)⟩
  · show Steps p.tables e below (s₁.setTop (mkF m 0 #[rv w_TRAVERSAL] [])) _
    refine XS.aloadN X0.here hx rfl (hb hby own_d6_0) rfl rfl ?_
    show Steps p.tables e below (s₁.setTop (mkF m 1 #[rv w_TRAVERSAL] [(.ref w_TRAVERSAL)])) _
    refine st1 _ ?_
    show Steps p.tables e below (T1.setTop (mkF m 4 #[rv w_TRAVERSAL] [(.int 3)])) _
    exact retI X1 hx Bd.returns (hb hby own_d6_4) hr
  · show own_o_TRAVERSAL_Q Z w_INPUT w_ANIMATION w_INSETS_ANIMATION w_TRAVERSAL w_COMMIT h0 n0 _ T1.heap _
    rw [e1]
    exact ⟨rfl, N0, rfl⟩
theorem own_o_COMMIT_ef (m : MethodId) (w_COMMIT : Addr) : entryFrame m #[(.ref w_COMMIT)] 1 = mkF m 0 #[rv w_COMMIT] [] := by first | (simp [entryFrame, mkF, argsToLocals, Value.category]; done) | rfl
def own_o_COMMIT_Q (Z : State) (w_INPUT : Addr) (w_ANIMATION : Addr) (w_INSETS_ANIMATION : Addr) (w_TRAVERSAL : Addr) (w_COMMIT : Addr) (h0 : Heap) (n0 : Nat) (v : Option Value) (h : Heap) (L : List Loc) : Prop := v = some (.int 4) ∧ Fr n0 L ∧ h = h0
set_option maxRecDepth 65536 in
set_option maxHeartbeats 40000000 in
theorem own_o_COMMIT (l : Launch) (Z : State) (a0 : Array Value) (hw : ∀ d ∈ tables_1, d.before a0 Z = true) (ws : List Jvm.Cond) (w_INPUT : Addr) (w_ANIMATION : Addr) (w_INSETS_ANIMATION : Addr) (w_TRAVERSAL : Addr) (w_COMMIT : Addr) (h0 : Heap) (n0 : Nat) (O0 : Old Z n0 h0) (U_INPUT : own_En Z Z.heap "com/example/vsyncopate/vsyncopate/frame/FramePhase" "INPUT" "Lcom/example/vsyncopate/vsyncopate/frame/FramePhase;" w_INPUT (0 : Int32)) (U_ANIMATION : own_En Z Z.heap "com/example/vsyncopate/vsyncopate/frame/FramePhase" "ANIMATION" "Lcom/example/vsyncopate/vsyncopate/frame/FramePhase;" w_ANIMATION (1 : Int32)) (U_INSETS_ANIMATION : own_En Z Z.heap "com/example/vsyncopate/vsyncopate/frame/FramePhase" "INSETS_ANIMATION" "Lcom/example/vsyncopate/vsyncopate/frame/FramePhase;" w_INSETS_ANIMATION (2 : Int32)) (U_TRAVERSAL : own_En Z Z.heap "com/example/vsyncopate/vsyncopate/frame/FramePhase" "TRAVERSAL" "Lcom/example/vsyncopate/vsyncopate/frame/FramePhase;" w_TRAVERSAL (3 : Int32)) (U_COMMIT : own_En Z Z.heap "com/example/vsyncopate/vsyncopate/frame/FramePhase" "COMMIT" "Lcom/example/vsyncopate/vsyncopate/frame/FramePhase;" w_COMMIT (4 : Int32)) (S_PC : Sta Z Z.heap "com/example/vsyncopate/vsyncopate/frame/FrameTiming" "PHASE_COUNT" "I" (.int 5)) :
    MetFree l (⟨"java/lang/Enum", "ordinal", "()I"⟩ : MethodName) (head1 (Jvm.Cond.code (⟨"java/lang/Enum", "ordinal", "()I"⟩ : MethodName) jdk_37_method_2_code 1 (some .int) :: ws) ({ frames := 0, cells := 0, slots := 0, locals := 0 } : Room)) (fun ar U => ar = #[(.ref w_COMMIT)] ∧ Z.Warmed39 U.vm ∧ U.heap = h0) (fun _ _ _ _ _ => True) (fun _ U oc U' => ∃ v L, oc = .returned v ∧ own_o_COMMIT_Q Z w_INPUT w_ANIMATION w_INSETS_ANIMATION w_TRAVERSAL w_COMMIT h0 n0 v U'.heap L ∧ FrameEnd U oc U' L ({ frames := 0, cells := 0, slots := 0, locals := 0 } : Room).cells ({ frames := 0, cells := 0, slots := 0, locals := 0 } : Room).slots) := by
  refine MetFree.of_bodySF (plainFor_of_name own_pn1) hisR ?_
  intro p e s m args below meth c s₁ Bd hml0 hP hK
  obtain ⟨rfl, hZ, hh⟩ := hP
  have hx := Bd.exec
  have hby := Bd.bytes
  have hml : c.maxLocals = 1 := hml0
  have hown : s.vm.findClass "java/lang/Enum" = some m.cls := findClass_of_methodNamed Bd.named
  have hnm := (name_of_methodNamed Bd.named Bd.method).1
  have X0 : Stand p l e ({ frames := 0, cells := 0, slots := 0, locals := 0 } : Room) s m #[(.ref w_COMMIT)] below meth c s₁ [] 0 0 := Stand.of_body Bd
  have e0 : s₁.heap = h0 := by rw [← hh, Bd.state]; rfl
  have N0 := Fr.nil n0
  have pre0 : ∀ t, Steps p.tables e below (s₁.setTop (mkF m 0 #[rv w_COMMIT] [])) t → Steps p.tables e below (s₁.setTop (entryFrame m #[(.ref w_COMMIT)] 1)) t := fun t k => castTop (own_o_COMMIT_ef m w_COMMIT) k
  obtain ⟨T1, X1, e1, st1⟩ := getF X0 hx hZ hown (host := "") (Or.inl (hw _ (own_m 54 rfl))) Via.refl e0 (U_COMMIT.2.2.ext O0.2) (g := (mkF m 1 #[rv w_COMMIT] [(.ref w_COMMIT)])) rfl rfl (hb hby own_d6_1)
  obtain ⟨fs, hr, hrun, hended, hW, hsame⟩ := X1.leave (v := some (.int 4)) (fun h => by rw [Bd.returns] at h; cases h)
  refine ⟨_, _, pre0 _ ?_, hrun, hended, _, _, rfl, ?_, ⟨_, rfl⟩, hW, hsame.mono (by decide) (by decide)⟩
  · show Steps p.tables e below (s₁.setTop (mkF m 0 #[rv w_COMMIT] [])) _
    refine XS.aloadN X0.here hx rfl (hb hby own_d6_0) rfl rfl ?_
    show Steps p.tables e below (s₁.setTop (mkF m 1 #[rv w_COMMIT] [(.ref w_COMMIT)])) _
    refine st1 _ ?_
    show Steps p.tables e below (T1.setTop (mkF m 4 #[rv w_COMMIT] [(.int 4)])) _
    exact retI X1 hx Bd.returns (hb hby own_d6_4) hr
  · show own_o_COMMIT_Q Z w_INPUT w_ANIMATION w_INSETS_ANIMATION w_TRAVERSAL w_COMMIT h0 n0 _ T1.heap _
    rw [e1]
    exact ⟨rfl, N0, rfl⟩
theorem own_mk_ef (m : MethodId) (a : Addr) : entryFrame m #[(.ref a)] 1 = mkF m 0 #[rv a] [] := by first | (simp [entryFrame, mkF, argsToLocals, Value.category]; done) | rfl
def own_mk_Q (Z : State) (w_INPUT : Addr) (w_ANIMATION : Addr) (w_INSETS_ANIMATION : Addr) (w_TRAVERSAL : Addr) (w_COMMIT : Addr) (a : Addr) (h0 : Heap) (n0 : Nat) (v : Option Value) (h : Heap) (L : List Loc) : Prop := v = none ∧ Fr n0 L ∧ Keep h0 h [a] ∧ ∃ (b c : Addr) (kb kc : ClassId), n0 ≤ b ∧ n0 ≤ c ∧ b ≠ a ∧ c ≠ a ∧ b ≠ c ∧ Arv Z h b kb .long (5 : Int32) [(.long 0), (.long 0), (.long 0), (.long 0), (.long 0)] (.long 0) ∧ Arv Z h c kc .int (5 : Int32) [(.int 0), (.int 0), (.int 0), (.int 0), (.int 0)] (.int 0) ∧ Exa Z h a "com/example/vsyncopate/vsyncopate/frame/FrameTiming" ∧ Fld Z h a "com/example/vsyncopate/vsyncopate/frame/FrameTiming" "phaseBeganNanos" "[J" (.ref b) ∧ Fld Z h a "com/example/vsyncopate/vsyncopate/frame/FrameTiming" "phaseCallbacks" "[I" (.ref c) ∧ Fld Z h a "com/example/vsyncopate/vsyncopate/frame/FrameTiming" "frameNumber" "J" (.long 0) ∧ Fld Z h a "com/example/vsyncopate/vsyncopate/frame/FrameTiming" "pulseTimeNanos" "J" (.long 0) ∧ Fld Z h a "com/example/vsyncopate/vsyncopate/frame/FrameTiming" "frameTimeNanos" "J" (.long 0) ∧ Fld Z h a "com/example/vsyncopate/vsyncopate/frame/FrameTiming" "skippedFrames" "J" (.long 0) ∧ Fld Z h a "com/example/vsyncopate/vsyncopate/frame/FrameTiming" "beganNanos" "J" (.long 0) ∧ Fld Z h a "com/example/vsyncopate/vsyncopate/frame/FrameTiming" "phasesBegun" "I" (.int 0)
set_option maxRecDepth 65536 in
set_option maxHeartbeats 40000000 in
theorem own_mk (l : Launch) (Z : State) (a0 : Array Value) (hw : ∀ d ∈ tables_1, d.before a0 Z = true) (ws : List Jvm.Cond) (w_INPUT : Addr) (w_ANIMATION : Addr) (w_INSETS_ANIMATION : Addr) (w_TRAVERSAL : Addr) (w_COMMIT : Addr) (a : Addr) (h0 : Heap) (n0 : Nat) (O0 : Old Z n0 h0) (U_INPUT : own_En Z Z.heap "com/example/vsyncopate/vsyncopate/frame/FramePhase" "INPUT" "Lcom/example/vsyncopate/vsyncopate/frame/FramePhase;" w_INPUT (0 : Int32)) (U_ANIMATION : own_En Z Z.heap "com/example/vsyncopate/vsyncopate/frame/FramePhase" "ANIMATION" "Lcom/example/vsyncopate/vsyncopate/frame/FramePhase;" w_ANIMATION (1 : Int32)) (U_INSETS_ANIMATION : own_En Z Z.heap "com/example/vsyncopate/vsyncopate/frame/FramePhase" "INSETS_ANIMATION" "Lcom/example/vsyncopate/vsyncopate/frame/FramePhase;" w_INSETS_ANIMATION (2 : Int32)) (U_TRAVERSAL : own_En Z Z.heap "com/example/vsyncopate/vsyncopate/frame/FramePhase" "TRAVERSAL" "Lcom/example/vsyncopate/vsyncopate/frame/FramePhase;" w_TRAVERSAL (3 : Int32)) (U_COMMIT : own_En Z Z.heap "com/example/vsyncopate/vsyncopate/frame/FramePhase" "COMMIT" "Lcom/example/vsyncopate/vsyncopate/frame/FramePhase;" w_COMMIT (4 : Int32)) (S_PC : Sta Z Z.heap "com/example/vsyncopate/vsyncopate/frame/FrameTiming" "PHASE_COUNT" "I" (.int 5)) (g_a : n0 ≤ a) (E_a : Exa Z h0 a "com/example/vsyncopate/vsyncopate/frame/FrameTiming") (F_phaseBeganNanos : Fld Z h0 a "com/example/vsyncopate/vsyncopate/frame/FrameTiming" "phaseBeganNanos" "[J" .null) (F_phaseCallbacks : Fld Z h0 a "com/example/vsyncopate/vsyncopate/frame/FrameTiming" "phaseCallbacks" "[I" .null) (F_frameNumber : Fld Z h0 a "com/example/vsyncopate/vsyncopate/frame/FrameTiming" "frameNumber" "J" (.long 0)) (F_pulseTimeNanos : Fld Z h0 a "com/example/vsyncopate/vsyncopate/frame/FrameTiming" "pulseTimeNanos" "J" (.long 0)) (F_frameTimeNanos : Fld Z h0 a "com/example/vsyncopate/vsyncopate/frame/FrameTiming" "frameTimeNanos" "J" (.long 0)) (F_skippedFrames : Fld Z h0 a "com/example/vsyncopate/vsyncopate/frame/FrameTiming" "skippedFrames" "J" (.long 0)) (F_beganNanos : Fld Z h0 a "com/example/vsyncopate/vsyncopate/frame/FrameTiming" "beganNanos" "J" (.long 0)) (F_phasesBegun : Fld Z h0 a "com/example/vsyncopate/vsyncopate/frame/FrameTiming" "phasesBegun" "I" (.int 0)) :
    MetFree l (⟨"com/example/vsyncopate/vsyncopate/frame/FrameTiming", "<init>", "()V"⟩ : MethodName) (head1 (Jvm.Cond.code (⟨"com/example/vsyncopate/vsyncopate/frame/FrameTiming", "<init>", "()V"⟩ : MethodName) prog_20_method_1_code 1 none :: ws) ({ frames := 1, cells := 2, slots := 10, locals := 12 } : Room)) (fun ar U => ar = #[(.ref a)] ∧ Z.Warmed39 U.vm ∧ U.heap = h0) (fun _ _ _ _ _ => True) (fun _ U oc U' => ∃ v L, oc = .returned v ∧ own_mk_Q Z w_INPUT w_ANIMATION w_INSETS_ANIMATION w_TRAVERSAL w_COMMIT a h0 n0 v U'.heap L ∧ FrameEnd U oc U' L ({ frames := 1, cells := 2, slots := 10, locals := 12 } : Room).cells ({ frames := 1, cells := 2, slots := 10, locals := 12 } : Room).slots) := by
  refine MetFree.of_bodySF (plainFor_of_name own_pn2) hisR ?_
  intro p e s m args below meth c s₁ Bd hml0 hP hK
  obtain ⟨rfl, hZ, hh⟩ := hP
  have hx := Bd.exec
  have hby := Bd.bytes
  have hml : c.maxLocals = 1 := hml0
  have hown : s.vm.findClass "com/example/vsyncopate/vsyncopate/frame/FrameTiming" = some m.cls := findClass_of_methodNamed Bd.named
  have hnm := (name_of_methodNamed Bd.named Bd.method).1
  have X0 : Stand p l e ({ frames := 1, cells := 2, slots := 10, locals := 12 } : Room) s m #[(.ref a)] below meth c s₁ [] 0 0 := Stand.of_body Bd
  have e0 : s₁.heap = h0 := by rw [← hh, Bd.state]; rfl
  have N0 := Fr.nil n0
  have pre0 : ∀ t, Steps p.tables e below (s₁.setTop (mkF m 0 #[rv a] [])) t → Steps p.tables e below (s₁.setTop (entryFrame m #[(.ref a)] 1)) t := fun t k => castTop (own_mk_ef m a) k
  have kp0 := Keep.refl h0 ([a] : List Addr)
  obtain ⟨T1, X1, e1, st1⟩ := initO X0 hx hZ hown (hw _ (own_m 14 rfl)) (hw _ (own_m 15 rfl)) (hw _ (own_m 16 rfl)) e0 (g := (mkF m 1 #[rv a] [(.ref a)])) rfl (by rw [hml]; rfl) rfl (hb hby own_d2_1) (by decide) (W := 0) (by show 2 * 0 + _ ≤ _; exact Nat.le_of_eq rfl) (by decide)
  obtain ⟨T2, X2, e2, st2⟩ := getS2 X1 hx hZ hown (host := "") (Or.inl (hw _ (own_m 17 rfl))) Via.refl e1 (S_PC.ext O0.2) (g := (mkF m 5 #[rv a] [(.ref a)])) rfl (hb hby own_d2_5)
  obtain ⟨T3, h3, k3, X3, e3, E3, A3, st3⟩ := newP X2 hx hZ (hw _ (own_m 19 rfl)) e2 (g := (mkF m 8 #[rv a] [(.int 5), (.ref a)])) rfl (hb hby own_d2_8) rfl (by decide) (cap := 5) (by decide) (by decide) (by decide) (by decide)
  obtain ⟨b3, g3⟩ : ∃ z, z = h0.size := ⟨_, rfl⟩
  rw [← g3] at A3  st3
  have ne_a_b3 : a ≠ b3 := Nat.ne_of_lt (g3 ▸ E_a.lt)
  have gg_b3 : n0 ≤ b3 := g3 ▸ own_le O0
  have sz_b3 : h0.size ≤ b3 := g3 ▸ kp0.1
  have O4 := O0.ext E3
  have kp5 := kp0.ext E3
  have V_b3 : Arv Z h3 b3 k3 .long (5 : Int32) [(.long 0), (.long 0), (.long 0), (.long 0), (.long 0)] (.long 0) := (Arv.new A3 (by decide)).pad (pad_rep [] (.long 0) 5)
  have f6 := (F_phaseBeganNanos.ext E3)
  have f7 := (E_a.ext E3)
  obtain ⟨T8, h8, X8, e8, W8, st8⟩ := putF X3 hx hZ hown (host := "") (Or.inl (hw _ (own_m 20 rfl))) Via.refl e3 f6 f7 (Or.inr ⟨(hw _ (own_m 21 rfl)), rfl, hnm⟩) (hw _ (own_m 9 rfl)) (ty := (.array .long)) (by decide) rfl rfl (g := (mkF m 10 #[rv a] [(.ref b3), (.ref a)])) rfl rfl (hb hby own_d2_10)
  have Fw8 := f6.same W8
  have O9 := O4.wr W8 g_a
  have kp10 := kp5.wr W8 (Or.inl (own_m 0 rfl))
  have N8 := Fr.snoc X8 N0 g_a
  obtain ⟨T11, X11, e11, st11⟩ := getS2 X8 hx hZ hown (host := "") (Or.inl (hw _ (own_m 17 rfl))) Via.refl e8 (S_PC.ext O9.2) (g := (mkF m 14 #[rv a] [(.ref a)])) rfl (hb hby own_d2_14)
  have f12 := (f7.wr W8)
  have f13 := (V_b3.other W8 (Ne.symm ne_a_b3))
  obtain ⟨T14, h14, k14, X14, e14, E14, A14, st14⟩ := newP X11 hx hZ (hw _ (own_m 22 rfl)) e11 (g := (mkF m 17 #[rv a] [(.int 5), (.ref a)])) rfl (hb hby own_d2_17) rfl (by decide) (cap := 5) (by decide) (by decide) (by decide) (by decide)
  obtain ⟨b14, g14⟩ : ∃ z, z = h8.size := ⟨_, rfl⟩
  rw [← g14] at A14  st14
  have ne_a_b14 : a ≠ b14 := Nat.ne_of_lt (g14 ▸ f12.lt)
  have ne_b3_b14 : b3 ≠ b14 := Nat.ne_of_lt (g14 ▸ f13.lt)
  have gg_b14 : n0 ≤ b14 := g14 ▸ own_le O9
  have sz_b14 : h0.size ≤ b14 := g14 ▸ kp10.1
  have O15 := O9.ext E14
  have kp16 := kp10.ext E14
  have V_b14 : Arv Z h14 b14 k14 .int (5 : Int32) [(.int 0), (.int 0), (.int 0), (.int 0), (.int 0)] (.int 0) := (Arv.new A14 (by decide)).pad (pad_rep [] (.int 0) 5)
  have f17 := (((F_phaseCallbacks.ext E3).other W8 (Or.inr (slot_ne (Or.inr (hw _ (own_m 24 rfl))) (Or.inr (hw _ (own_m 21 rfl))) (by decide) (t := (.array .int)) (t' := (.array .long)) (by decide) (by decide)))).ext E14)
  have f18 := (f12.ext E14)
  obtain ⟨T19, h19, X19, e19, W19, st19⟩ := putF X14 hx hZ hown (host := "") (Or.inl (hw _ (own_m 23 rfl))) Via.refl e14 f17 f18 (Or.inr ⟨(hw _ (own_m 24 rfl)), rfl, hnm⟩) (hw _ (own_m 9 rfl)) (ty := (.array .int)) (by decide) rfl rfl (g := (mkF m 19 #[rv a] [(.ref b14), (.ref a)])) rfl rfl (hb hby own_d2_19)
  have Fw19 := f17.same W19
  have O20 := O15.wr W19 g_a
  have kp21 := kp16.wr W19 (Or.inl (own_m 0 rfl))
  have N19 := Fr.snoc X19 N8 g_a
  have f22 := ((f13.ext E14).other W19 (Ne.symm ne_a_b3))
  have f23 := (V_b14.other W19 (Ne.symm ne_a_b14))
  have f24 := (f18.wr W19)
  have f25 := ((Fw8.ext E14).other W19 (Or.inr (slot_ne (Or.inr (hw _ (own_m 21 rfl))) (Or.inr (hw _ (own_m 24 rfl))) (by decide) (t := (.array .long)) (t' := (.array .int)) (by decide) (by decide))))
  have f26 := ((((F_frameNumber.ext E3).other W8 (Or.inr (slot_ne (Or.inl (hw _ (own_m 31 rfl))) (Or.inr (hw _ (own_m 21 rfl))) (by decide) (t := .long) (t' := (.array .long)) (by decide) (by decide)))).ext E14).other W19 (Or.inr (slot_ne (Or.inl (hw _ (own_m 31 rfl))) (Or.inr (hw _ (own_m 24 rfl))) (by decide) (t := .long) (t' := (.array .int)) (by decide) (by decide))))
  have f27 := ((((F_pulseTimeNanos.ext E3).other W8 (Or.inr (slot_ne (Or.inl (hw _ (own_m 33 rfl))) (Or.inr (hw _ (own_m 21 rfl))) (by decide) (t := .long) (t' := (.array .long)) (by decide) (by decide)))).ext E14).other W19 (Or.inr (slot_ne (Or.inl (hw _ (own_m 33 rfl))) (Or.inr (hw _ (own_m 24 rfl))) (by decide) (t := .long) (t' := (.array .int)) (by decide) (by decide))))
  have f28 := ((((F_frameTimeNanos.ext E3).other W8 (Or.inr (slot_ne (Or.inl (hw _ (own_m 35 rfl))) (Or.inr (hw _ (own_m 21 rfl))) (by decide) (t := .long) (t' := (.array .long)) (by decide) (by decide)))).ext E14).other W19 (Or.inr (slot_ne (Or.inl (hw _ (own_m 35 rfl))) (Or.inr (hw _ (own_m 24 rfl))) (by decide) (t := .long) (t' := (.array .int)) (by decide) (by decide))))
  have f29 := ((((F_skippedFrames.ext E3).other W8 (Or.inr (slot_ne (Or.inl (hw _ (own_m 37 rfl))) (Or.inr (hw _ (own_m 21 rfl))) (by decide) (t := .long) (t' := (.array .long)) (by decide) (by decide)))).ext E14).other W19 (Or.inr (slot_ne (Or.inl (hw _ (own_m 37 rfl))) (Or.inr (hw _ (own_m 24 rfl))) (by decide) (t := .long) (t' := (.array .int)) (by decide) (by decide))))
  have f30 := ((((F_beganNanos.ext E3).other W8 (Or.inr (slot_ne (Or.inl (hw _ (own_m 39 rfl))) (Or.inr (hw _ (own_m 21 rfl))) (by decide) (t := .long) (t' := (.array .long)) (by decide) (by decide)))).ext E14).other W19 (Or.inr (slot_ne (Or.inl (hw _ (own_m 39 rfl))) (Or.inr (hw _ (own_m 24 rfl))) (by decide) (t := .long) (t' := (.array .int)) (by decide) (by decide))))
  have f31 := ((((F_phasesBegun.ext E3).other W8 (Or.inr (slot_ne (Or.inl (hw _ (own_m 41 rfl))) (Or.inr (hw _ (own_m 21 rfl))) (by decide) (t := .int) (t' := (.array .long)) (by decide) (by decide)))).ext E14).other W19 (Or.inr (slot_ne (Or.inl (hw _ (own_m 41 rfl))) (Or.inr (hw _ (own_m 24 rfl))) (by decide) (t := .int) (t' := (.array .int)) (by decide) (by decide))))
  obtain ⟨fs, hr, hrun, hended, hW, hsame⟩ := X19.leave (v := none) (fun _ => rfl)
  refine ⟨_, _, pre0 _ ?_, hrun, hended, _, _, rfl, ?_, ⟨_, rfl⟩, hW, hsame.mono (by decide) (by decide)⟩
  · show Steps p.tables e below (s₁.setTop (mkF m 0 #[rv a] [])) _
    refine XS.aloadN X0.here hx rfl (hb hby own_d2_0) rfl rfl ?_
    show Steps p.tables e below (s₁.setTop (mkF m 1 #[rv a] [(.ref a)])) _
    refine st1 _ ?_
    show Steps p.tables e below (T1.setTop (mkF m 4 #[rv a] [])) _
    refine XS.aloadN X1.here hx rfl (hb hby own_d2_4) rfl rfl ?_
    show Steps p.tables e below (T1.setTop (mkF m 5 #[rv a] [(.ref a)])) _
    refine st2 _ ?_
    show Steps p.tables e below (T2.setTop (mkF m 8 #[rv a] [(.int 5), (.ref a)])) _
    refine st3 _ ?_
    show Steps p.tables e below (T3.setTop (mkF m 10 #[rv a] [(.ref b3), (.ref a)])) _
    refine st8 _ ?_
    show Steps p.tables e below (T8.setTop (mkF m 13 #[rv a] [])) _
    refine XS.aloadN X8.here hx rfl (hb hby own_d2_13) rfl rfl ?_
    show Steps p.tables e below (T8.setTop (mkF m 14 #[rv a] [(.ref a)])) _
    refine st11 _ ?_
    show Steps p.tables e below (T11.setTop (mkF m 17 #[rv a] [(.int 5), (.ref a)])) _
    refine st14 _ ?_
    show Steps p.tables e below (T14.setTop (mkF m 19 #[rv a] [(.ref b14), (.ref a)])) _
    refine st19 _ ?_
    show Steps p.tables e below (T19.setTop (mkF m 22 #[rv a] [])) _
    exact X19.returnOut hx Bd.returns (hb hby own_d2_22) hr
  · show own_mk_Q Z w_INPUT w_ANIMATION w_INSETS_ANIMATION w_TRAVERSAL w_COMMIT a h0 n0 _ T19.heap _
    rw [e19]
    exact ⟨rfl, N19, kp21, b3, b14, k3, k14, gg_b3, gg_b14, (Ne.symm ne_a_b3), (Ne.symm ne_a_b14), ne_b3_b14, f22, f23, f24, f25, Fw19, f26, f27, f28, f29, f30, f31⟩
theorem own_fb_ef (m : MethodId) (a : Addr) (q1 : Int64) (q2 : Int64) (q3 : Int64) (q4 : Int64) (q5 : Int64) : entryFrame m #[(.ref a), (.long q1), (.long q2), (.long q3), (.long q4), (.long q5)] 11 = mkF m 0 #[rv a, .val (.long q1), .second, .val (.long q2), .second, .val (.long q3), .second, .val (.long q4), .second, .val (.long q5), .second] [] := by first | (simp [entryFrame, mkF, argsToLocals, Value.category]; done) | rfl
def own_fb_Q (Z : State) (w_INPUT : Addr) (w_ANIMATION : Addr) (w_INSETS_ANIMATION : Addr) (w_TRAVERSAL : Addr) (w_COMMIT : Addr) (a : Addr) (b : Addr) (ca : Addr) (q1 : Int64) (q2 : Int64) (q3 : Int64) (q4 : Int64) (q5 : Int64) (u1 : Int64) (u2 : Int64) (u3 : Int64) (u4 : Int64) (u5 : Int64) (u6 : Int32) (h0 : Heap) (n0 : Nat) (v : Option Value) (h : Heap) (L : List Loc) : Prop := v = none ∧ Fr n0 L ∧ Keep h0 h [a] ∧ Exa Z h a "com/example/vsyncopate/vsyncopate/frame/FrameTiming" ∧ Fld Z h a "com/example/vsyncopate/vsyncopate/frame/FrameTiming" "phaseBeganNanos" "[J" (.ref b) ∧ Fld Z h a "com/example/vsyncopate/vsyncopate/frame/FrameTiming" "phaseCallbacks" "[I" (.ref ca) ∧ Fld Z h a "com/example/vsyncopate/vsyncopate/frame/FrameTiming" "frameNumber" "J" (.long q1) ∧ Fld Z h a "com/example/vsyncopate/vsyncopate/frame/FrameTiming" "pulseTimeNanos" "J" (.long q2) ∧ Fld Z h a "com/example/vsyncopate/vsyncopate/frame/FrameTiming" "frameTimeNanos" "J" (.long q3) ∧ Fld Z h a "com/example/vsyncopate/vsyncopate/frame/FrameTiming" "skippedFrames" "J" (.long q4) ∧ Fld Z h a "com/example/vsyncopate/vsyncopate/frame/FrameTiming" "beganNanos" "J" (.long q5) ∧ Fld Z h a "com/example/vsyncopate/vsyncopate/frame/FrameTiming" "phasesBegun" "I" (.int 0)
set_option maxRecDepth 65536 in
set_option maxHeartbeats 40000000 in
theorem own_fb (l : Launch) (Z : State) (a0 : Array Value) (hw : ∀ d ∈ tables_1, d.before a0 Z = true) (ws : List Jvm.Cond) (w_INPUT : Addr) (w_ANIMATION : Addr) (w_INSETS_ANIMATION : Addr) (w_TRAVERSAL : Addr) (w_COMMIT : Addr) (a : Addr) (b : Addr) (ca : Addr) (q1 : Int64) (q2 : Int64) (q3 : Int64) (q4 : Int64) (q5 : Int64) (u1 : Int64) (u2 : Int64) (u3 : Int64) (u4 : Int64) (u5 : Int64) (u6 : Int32) (h0 : Heap) (n0 : Nat) (O0 : Old Z n0 h0) (U_INPUT : own_En Z Z.heap "com/example/vsyncopate/vsyncopate/frame/FramePhase" "INPUT" "Lcom/example/vsyncopate/vsyncopate/frame/FramePhase;" w_INPUT (0 : Int32)) (U_ANIMATION : own_En Z Z.heap "com/example/vsyncopate/vsyncopate/frame/FramePhase" "ANIMATION" "Lcom/example/vsyncopate/vsyncopate/frame/FramePhase;" w_ANIMATION (1 : Int32)) (U_INSETS_ANIMATION : own_En Z Z.heap "com/example/vsyncopate/vsyncopate/frame/FramePhase" "INSETS_ANIMATION" "Lcom/example/vsyncopate/vsyncopate/frame/FramePhase;" w_INSETS_ANIMATION (2 : Int32)) (U_TRAVERSAL : own_En Z Z.heap "com/example/vsyncopate/vsyncopate/frame/FramePhase" "TRAVERSAL" "Lcom/example/vsyncopate/vsyncopate/frame/FramePhase;" w_TRAVERSAL (3 : Int32)) (U_COMMIT : own_En Z Z.heap "com/example/vsyncopate/vsyncopate/frame/FramePhase" "COMMIT" "Lcom/example/vsyncopate/vsyncopate/frame/FramePhase;" w_COMMIT (4 : Int32)) (S_PC : Sta Z Z.heap "com/example/vsyncopate/vsyncopate/frame/FrameTiming" "PHASE_COUNT" "I" (.int 5)) (g_a : n0 ≤ a) (E_a : Exa Z h0 a "com/example/vsyncopate/vsyncopate/frame/FrameTiming") (F_phaseBeganNanos : Fld Z h0 a "com/example/vsyncopate/vsyncopate/frame/FrameTiming" "phaseBeganNanos" "[J" (.ref b)) (F_phaseCallbacks : Fld Z h0 a "com/example/vsyncopate/vsyncopate/frame/FrameTiming" "phaseCallbacks" "[I" (.ref ca)) (F_frameNumber : Fld Z h0 a "com/example/vsyncopate/vsyncopate/frame/FrameTiming" "frameNumber" "J" (.long u1)) (F_pulseTimeNanos : Fld Z h0 a "com/example/vsyncopate/vsyncopate/frame/FrameTiming" "pulseTimeNanos" "J" (.long u2)) (F_frameTimeNanos : Fld Z h0 a "com/example/vsyncopate/vsyncopate/frame/FrameTiming" "frameTimeNanos" "J" (.long u3)) (F_skippedFrames : Fld Z h0 a "com/example/vsyncopate/vsyncopate/frame/FrameTiming" "skippedFrames" "J" (.long u4)) (F_beganNanos : Fld Z h0 a "com/example/vsyncopate/vsyncopate/frame/FrameTiming" "beganNanos" "J" (.long u5)) (F_phasesBegun : Fld Z h0 a "com/example/vsyncopate/vsyncopate/frame/FrameTiming" "phasesBegun" "I" (.int u6)) :
    MetFree l (⟨"com/example/vsyncopate/vsyncopate/frame/FrameTiming", "frameBegins", "(JJJJJ)V"⟩ : MethodName) (head1 (Jvm.Cond.code (⟨"com/example/vsyncopate/vsyncopate/frame/FrameTiming", "frameBegins", "(JJJJJ)V"⟩ : MethodName) prog_20_method_12_code 11 none :: ws) ({ frames := 0, cells := 0, slots := 0, locals := 0 } : Room)) (fun ar U => ar = #[(.ref a), (.long q1), (.long q2), (.long q3), (.long q4), (.long q5)] ∧ Z.Warmed39 U.vm ∧ U.heap = h0) (fun _ _ _ _ _ => True) (fun _ U oc U' => ∃ v L, oc = .returned v ∧ own_fb_Q Z w_INPUT w_ANIMATION w_INSETS_ANIMATION w_TRAVERSAL w_COMMIT a b ca q1 q2 q3 q4 q5 u1 u2 u3 u4 u5 u6 h0 n0 v U'.heap L ∧ FrameEnd U oc U' L ({ frames := 0, cells := 0, slots := 0, locals := 0 } : Room).cells ({ frames := 0, cells := 0, slots := 0, locals := 0 } : Room).slots) := by
  refine MetFree.of_bodySF (plainFor_of_name own_pn2) hisR ?_
  intro p e s m args below meth c s₁ Bd hml0 hP hK
  obtain ⟨rfl, hZ, hh⟩ := hP
  have hx := Bd.exec
  have hby := Bd.bytes
  have hml : c.maxLocals = 11 := hml0
  have hown : s.vm.findClass "com/example/vsyncopate/vsyncopate/frame/FrameTiming" = some m.cls := findClass_of_methodNamed Bd.named
  have hnm := (name_of_methodNamed Bd.named Bd.method).1
  have X0 : Stand p l e ({ frames := 0, cells := 0, slots := 0, locals := 0 } : Room) s m #[(.ref a), (.long q1), (.long q2), (.long q3), (.long q4), (.long q5)] below meth c s₁ [] 0 0 := Stand.of_body Bd
  have e0 : s₁.heap = h0 := by rw [← hh, Bd.state]; rfl
  have N0 := Fr.nil n0
  have pre0 : ∀ t, Steps p.tables e below (s₁.setTop (mkF m 0 #[rv a, .val (.long q1), .second, .val (.long q2), .second, .val (.long q3), .second, .val (.long q4), .second, .val (.long q5), .second] [])) t → Steps p.tables e below (s₁.setTop (entryFrame m #[(.ref a), (.long q1), (.long q2), (.long q3), (.long q4), (.long q5)] 11)) t := fun t k => castTop (own_fb_ef m a q1 q2 q3 q4 q5) k
  have kp0 := Keep.refl h0 ([a] : List Addr)
  obtain ⟨T1, h1, X1, e1, W1, st1⟩ := putF X0 hx hZ hown (host := "") (Or.inl (hw _ (own_m 30 rfl))) Via.refl e0 F_frameNumber E_a (Or.inl (hw _ (own_m 31 rfl))) (hw _ (own_m 9 rfl)) (ty := .long) (by decide) rfl rfl (g := (mkF m 2 #[rv a, .val (.long q1), .second, .val (.long q2), .second, .val (.long q3), .second, .val (.long q4), .second, .val (.long q5), .second] [(.long q1), (.ref a)])) rfl rfl (hb hby own_d4_2)
  have Fw1 := F_frameNumber.same W1
  have O2 := O0.wr W1 g_a
  have kp3 := kp0.wr W1 (Or.inl (own_m 0 rfl))
  have N1 := Fr.snoc X1 N0 g_a
  have f4 := (F_pulseTimeNanos.other W1 (Or.inr (slot_ne (Or.inl (hw _ (own_m 33 rfl))) (Or.inl (hw _ (own_m 31 rfl))) (by decide) (t := .long) (t' := .long) (by decide) (by decide))))
  have f5 := (E_a.wr W1)
  obtain ⟨T6, h6, X6, e6, W6, st6⟩ := putF X1 hx hZ hown (host := "") (Or.inl (hw _ (own_m 32 rfl))) Via.refl e1 f4 f5 (Or.inl (hw _ (own_m 33 rfl))) (hw _ (own_m 9 rfl)) (ty := .long) (by decide) rfl rfl (g := (mkF m 7 #[rv a, .val (.long q1), .second, .val (.long q2), .second, .val (.long q3), .second, .val (.long q4), .second, .val (.long q5), .second] [(.long q2), (.ref a)])) rfl rfl (hb hby own_d4_7)
  have Fw6 := f4.same W6
  have O7 := O2.wr W6 g_a
  have kp8 := kp3.wr W6 (Or.inl (own_m 0 rfl))
  have N6 := Fr.snoc X6 N1 g_a
  have f9 := ((F_frameTimeNanos.other W1 (Or.inr (slot_ne (Or.inl (hw _ (own_m 35 rfl))) (Or.inl (hw _ (own_m 31 rfl))) (by decide) (t := .long) (t' := .long) (by decide) (by decide)))).other W6 (Or.inr (slot_ne (Or.inl (hw _ (own_m 35 rfl))) (Or.inl (hw _ (own_m 33 rfl))) (by decide) (t := .long) (t' := .long) (by decide) (by decide))))
  have f10 := (f5.wr W6)
  obtain ⟨T11, h11, X11, e11, W11, st11⟩ := putF X6 hx hZ hown (host := "") (Or.inl (hw _ (own_m 34 rfl))) Via.refl e6 f9 f10 (Or.inl (hw _ (own_m 35 rfl))) (hw _ (own_m 9 rfl)) (ty := .long) (by decide) rfl rfl (g := (mkF m 13 #[rv a, .val (.long q1), .second, .val (.long q2), .second, .val (.long q3), .second, .val (.long q4), .second, .val (.long q5), .second] [(.long q3), (.ref a)])) rfl rfl (hb hby own_d4_13)
  have Fw11 := f9.same W11
  have O12 := O7.wr W11 g_a
  have kp13 := kp8.wr W11 (Or.inl (own_m 0 rfl))
  have N11 := Fr.snoc X11 N6 g_a
  have f14 := (((F_skippedFrames.other W1 (Or.inr (slot_ne (Or.inl (hw _ (own_m 37 rfl))) (Or.inl (hw _ (own_m 31 rfl))) (by decide) (t := .long) (t' := .long) (by decide) (by decide)))).other W6 (Or.inr (slot_ne (Or.inl (hw _ (own_m 37 rfl))) (Or.inl (hw _ (own_m 33 rfl))) (by decide) (t := .long) (t' := .long) (by decide) (by decide)))).other W11 (Or.inr (slot_ne (Or.inl (hw _ (own_m 37 rfl))) (Or.inl (hw _ (own_m 35 rfl))) (by decide) (t := .long) (t' := .long) (by decide) (by decide))))
  have f15 := (f10.wr W11)
  obtain ⟨T16, h16, X16, e16, W16, st16⟩ := putF X11 hx hZ hown (host := "") (Or.inl (hw _ (own_m 36 rfl))) Via.refl e11 f14 f15 (Or.inl (hw _ (own_m 37 rfl))) (hw _ (own_m 9 rfl)) (ty := .long) (by decide) rfl rfl (g := (mkF m 19 #[rv a, .val (.long q1), .second, .val (.long q2), .second, .val (.long q3), .second, .val (.long q4), .second, .val (.long q5), .second] [(.long q4), (.ref a)])) rfl rfl (hb hby own_d4_19)
  have Fw16 := f14.same W16
  have O17 := O12.wr W16 g_a
  have kp18 := kp13.wr W16 (Or.inl (own_m 0 rfl))
  have N16 := Fr.snoc X16 N11 g_a
  have f19 := ((((F_beganNanos.other W1 (Or.inr (slot_ne (Or.inl (hw _ (own_m 39 rfl))) (Or.inl (hw _ (own_m 31 rfl))) (by decide) (t := .long) (t' := .long) (by decide) (by decide)))).other W6 (Or.inr (slot_ne (Or.inl (hw _ (own_m 39 rfl))) (Or.inl (hw _ (own_m 33 rfl))) (by decide) (t := .long) (t' := .long) (by decide) (by decide)))).other W11 (Or.inr (slot_ne (Or.inl (hw _ (own_m 39 rfl))) (Or.inl (hw _ (own_m 35 rfl))) (by decide) (t := .long) (t' := .long) (by decide) (by decide)))).other W16 (Or.inr (slot_ne (Or.inl (hw _ (own_m 39 rfl))) (Or.inl (hw _ (own_m 37 rfl))) (by decide) (t := .long) (t' := .long) (by decide) (by decide))))
  have f20 := (f15.wr W16)
  obtain ⟨T21, h21, X21, e21, W21, st21⟩ := putF X16 hx hZ hown (host := "") (Or.inl (hw _ (own_m 38 rfl))) Via.refl e16 f19 f20 (Or.inl (hw _ (own_m 39 rfl))) (hw _ (own_m 9 rfl)) (ty := .long) (by decide) rfl rfl (g := (mkF m 25 #[rv a, .val (.long q1), .second, .val (.long q2), .second, .val (.long q3), .second, .val (.long q4), .second, .val (.long q5), .second] [(.long q5), (.ref a)])) rfl rfl (hb hby own_d4_25)
  have Fw21 := f19.same W21
  have O22 := O17.wr W21 g_a
  have kp23 := kp18.wr W21 (Or.inl (own_m 0 rfl))
  have N21 := Fr.snoc X21 N16 g_a
  have f24 := (((((F_phasesBegun.other W1 (Or.inr (slot_ne (Or.inl (hw _ (own_m 41 rfl))) (Or.inl (hw _ (own_m 31 rfl))) (by decide) (t := .int) (t' := .long) (by decide) (by decide)))).other W6 (Or.inr (slot_ne (Or.inl (hw _ (own_m 41 rfl))) (Or.inl (hw _ (own_m 33 rfl))) (by decide) (t := .int) (t' := .long) (by decide) (by decide)))).other W11 (Or.inr (slot_ne (Or.inl (hw _ (own_m 41 rfl))) (Or.inl (hw _ (own_m 35 rfl))) (by decide) (t := .int) (t' := .long) (by decide) (by decide)))).other W16 (Or.inr (slot_ne (Or.inl (hw _ (own_m 41 rfl))) (Or.inl (hw _ (own_m 37 rfl))) (by decide) (t := .int) (t' := .long) (by decide) (by decide)))).other W21 (Or.inr (slot_ne (Or.inl (hw _ (own_m 41 rfl))) (Or.inl (hw _ (own_m 39 rfl))) (by decide) (t := .int) (t' := .long) (by decide) (by decide))))
  have f25 := (f20.wr W21)
  obtain ⟨T26, h26, X26, e26, W26, st26⟩ := putF X21 hx hZ hown (host := "") (Or.inl (hw _ (own_m 40 rfl))) Via.refl e21 f24 f25 (Or.inl (hw _ (own_m 41 rfl))) (hw _ (own_m 9 rfl)) (ty := .int) (by decide) rfl rfl (g := (mkF m 30 #[rv a, .val (.long q1), .second, .val (.long q2), .second, .val (.long q3), .second, .val (.long q4), .second, .val (.long q5), .second] [(.int 0), (.ref a)])) rfl rfl (hb hby own_d4_30)
  have Fw26 := f24.same W26
  have O27 := O22.wr W26 g_a
  have kp28 := kp23.wr W26 (Or.inl (own_m 0 rfl))
  have N26 := Fr.snoc X26 N21 g_a
  have f29 := (f25.wr W26)
  have f30 := ((((((F_phaseBeganNanos.other W1 (Or.inr (slot_ne (Or.inr (hw _ (own_m 21 rfl))) (Or.inl (hw _ (own_m 31 rfl))) (by decide) (t := (.array .long)) (t' := .long) (by decide) (by decide)))).other W6 (Or.inr (slot_ne (Or.inr (hw _ (own_m 21 rfl))) (Or.inl (hw _ (own_m 33 rfl))) (by decide) (t := (.array .long)) (t' := .long) (by decide) (by decide)))).other W11 (Or.inr (slot_ne (Or.inr (hw _ (own_m 21 rfl))) (Or.inl (hw _ (own_m 35 rfl))) (by decide) (t := (.array .long)) (t' := .long) (by decide) (by decide)))).other W16 (Or.inr (slot_ne (Or.inr (hw _ (own_m 21 rfl))) (Or.inl (hw _ (own_m 37 rfl))) (by decide) (t := (.array .long)) (t' := .long) (by decide) (by decide)))).other W21 (Or.inr (slot_ne (Or.inr (hw _ (own_m 21 rfl))) (Or.inl (hw _ (own_m 39 rfl))) (by decide) (t := (.array .long)) (t' := .long) (by decide) (by decide)))).other W26 (Or.inr (slot_ne (Or.inr (hw _ (own_m 21 rfl))) (Or.inl (hw _ (own_m 41 rfl))) (by decide) (t := (.array .long)) (t' := .int) (by decide) (by decide))))
  have f31 := ((((((F_phaseCallbacks.other W1 (Or.inr (slot_ne (Or.inr (hw _ (own_m 24 rfl))) (Or.inl (hw _ (own_m 31 rfl))) (by decide) (t := (.array .int)) (t' := .long) (by decide) (by decide)))).other W6 (Or.inr (slot_ne (Or.inr (hw _ (own_m 24 rfl))) (Or.inl (hw _ (own_m 33 rfl))) (by decide) (t := (.array .int)) (t' := .long) (by decide) (by decide)))).other W11 (Or.inr (slot_ne (Or.inr (hw _ (own_m 24 rfl))) (Or.inl (hw _ (own_m 35 rfl))) (by decide) (t := (.array .int)) (t' := .long) (by decide) (by decide)))).other W16 (Or.inr (slot_ne (Or.inr (hw _ (own_m 24 rfl))) (Or.inl (hw _ (own_m 37 rfl))) (by decide) (t := (.array .int)) (t' := .long) (by decide) (by decide)))).other W21 (Or.inr (slot_ne (Or.inr (hw _ (own_m 24 rfl))) (Or.inl (hw _ (own_m 39 rfl))) (by decide) (t := (.array .int)) (t' := .long) (by decide) (by decide)))).other W26 (Or.inr (slot_ne (Or.inr (hw _ (own_m 24 rfl))) (Or.inl (hw _ (own_m 41 rfl))) (by decide) (t := (.array .int)) (t' := .int) (by decide) (by decide))))
  have f32 := (((((Fw1.other W6 (Or.inr (slot_ne (Or.inl (hw _ (own_m 31 rfl))) (Or.inl (hw _ (own_m 33 rfl))) (by decide) (t := .long) (t' := .long) (by decide) (by decide)))).other W11 (Or.inr (slot_ne (Or.inl (hw _ (own_m 31 rfl))) (Or.inl (hw _ (own_m 35 rfl))) (by decide) (t := .long) (t' := .long) (by decide) (by decide)))).other W16 (Or.inr (slot_ne (Or.inl (hw _ (own_m 31 rfl))) (Or.inl (hw _ (own_m 37 rfl))) (by decide) (t := .long) (t' := .long) (by decide) (by decide)))).other W21 (Or.inr (slot_ne (Or.inl (hw _ (own_m 31 rfl))) (Or.inl (hw _ (own_m 39 rfl))) (by decide) (t := .long) (t' := .long) (by decide) (by decide)))).other W26 (Or.inr (slot_ne (Or.inl (hw _ (own_m 31 rfl))) (Or.inl (hw _ (own_m 41 rfl))) (by decide) (t := .long) (t' := .int) (by decide) (by decide))))
  have f33 := ((((Fw6.other W11 (Or.inr (slot_ne (Or.inl (hw _ (own_m 33 rfl))) (Or.inl (hw _ (own_m 35 rfl))) (by decide) (t := .long) (t' := .long) (by decide) (by decide)))).other W16 (Or.inr (slot_ne (Or.inl (hw _ (own_m 33 rfl))) (Or.inl (hw _ (own_m 37 rfl))) (by decide) (t := .long) (t' := .long) (by decide) (by decide)))).other W21 (Or.inr (slot_ne (Or.inl (hw _ (own_m 33 rfl))) (Or.inl (hw _ (own_m 39 rfl))) (by decide) (t := .long) (t' := .long) (by decide) (by decide)))).other W26 (Or.inr (slot_ne (Or.inl (hw _ (own_m 33 rfl))) (Or.inl (hw _ (own_m 41 rfl))) (by decide) (t := .long) (t' := .int) (by decide) (by decide))))
  have f34 := (((Fw11.other W16 (Or.inr (slot_ne (Or.inl (hw _ (own_m 35 rfl))) (Or.inl (hw _ (own_m 37 rfl))) (by decide) (t := .long) (t' := .long) (by decide) (by decide)))).other W21 (Or.inr (slot_ne (Or.inl (hw _ (own_m 35 rfl))) (Or.inl (hw _ (own_m 39 rfl))) (by decide) (t := .long) (t' := .long) (by decide) (by decide)))).other W26 (Or.inr (slot_ne (Or.inl (hw _ (own_m 35 rfl))) (Or.inl (hw _ (own_m 41 rfl))) (by decide) (t := .long) (t' := .int) (by decide) (by decide))))
  have f35 := ((Fw16.other W21 (Or.inr (slot_ne (Or.inl (hw _ (own_m 37 rfl))) (Or.inl (hw _ (own_m 39 rfl))) (by decide) (t := .long) (t' := .long) (by decide) (by decide)))).other W26 (Or.inr (slot_ne (Or.inl (hw _ (own_m 37 rfl))) (Or.inl (hw _ (own_m 41 rfl))) (by decide) (t := .long) (t' := .int) (by decide) (by decide))))
  have f36 := (Fw21.other W26 (Or.inr (slot_ne (Or.inl (hw _ (own_m 39 rfl))) (Or.inl (hw _ (own_m 41 rfl))) (by decide) (t := .long) (t' := .int) (by decide) (by decide))))
  obtain ⟨fs, hr, hrun, hended, hW, hsame⟩ := X26.leave (v := none) (fun _ => rfl)
  refine ⟨_, _, pre0 _ ?_, hrun, hended, _, _, rfl, ?_, ⟨_, rfl⟩, hW, hsame.mono (by decide) (by decide)⟩
  · show Steps p.tables e below (s₁.setTop (mkF m 0 #[rv a, .val (.long q1), .second, .val (.long q2), .second, .val (.long q3), .second, .val (.long q4), .second, .val (.long q5), .second] [])) _
    refine XS.aloadN X0.here hx rfl (hb hby own_d4_0) rfl rfl ?_
    show Steps p.tables e below (s₁.setTop (mkF m 1 #[rv a, .val (.long q1), .second, .val (.long q2), .second, .val (.long q3), .second, .val (.long q4), .second, .val (.long q5), .second] [(.ref a)])) _
    refine XS.lloadN X0.here hx rfl (hb hby own_d4_1) rfl ?_
    show Steps p.tables e below (s₁.setTop (mkF m 2 #[rv a, .val (.long q1), .second, .val (.long q2), .second, .val (.long q3), .second, .val (.long q4), .second, .val (.long q5), .second] [(.long q1), (.ref a)])) _
    refine st1 _ ?_
    show Steps p.tables e below (T1.setTop (mkF m 5 #[rv a, .val (.long q1), .second, .val (.long q2), .second, .val (.long q3), .second, .val (.long q4), .second, .val (.long q5), .second] [])) _
    refine XS.aloadN X1.here hx rfl (hb hby own_d4_5) rfl rfl ?_
    show Steps p.tables e below (T1.setTop (mkF m 6 #[rv a, .val (.long q1), .second, .val (.long q2), .second, .val (.long q3), .second, .val (.long q4), .second, .val (.long q5), .second] [(.ref a)])) _
    refine XS.lloadN X1.here hx rfl (hb hby own_d4_6) rfl ?_
    show Steps p.tables e below (T1.setTop (mkF m 7 #[rv a, .val (.long q1), .second, .val (.long q2), .second, .val (.long q3), .second, .val (.long q4), .second, .val (.long q5), .second] [(.long q2), (.ref a)])) _
    refine st6 _ ?_
    show Steps p.tables e below (T6.setTop (mkF m 10 #[rv a, .val (.long q1), .second, .val (.long q2), .second, .val (.long q3), .second, .val (.long q4), .second, .val (.long q5), .second] [])) _
    refine XS.aloadN X6.here hx rfl (hb hby own_d4_10) rfl rfl ?_
    show Steps p.tables e below (T6.setTop (mkF m 11 #[rv a, .val (.long q1), .second, .val (.long q2), .second, .val (.long q3), .second, .val (.long q4), .second, .val (.long q5), .second] [(.ref a)])) _
    refine XS.lload X6.here hx rfl (hb hby own_d4_11) rfl ?_
    show Steps p.tables e below (T6.setTop (mkF m 13 #[rv a, .val (.long q1), .second, .val (.long q2), .second, .val (.long q3), .second, .val (.long q4), .second, .val (.long q5), .second] [(.long q3), (.ref a)])) _
    refine st11 _ ?_
    show Steps p.tables e below (T11.setTop (mkF m 16 #[rv a, .val (.long q1), .second, .val (.long q2), .second, .val (.long q3), .second, .val (.long q4), .second, .val (.long q5), .second] [])) _
    refine XS.aloadN X11.here hx rfl (hb hby own_d4_16) rfl rfl ?_
    show Steps p.tables e below (T11.setTop (mkF m 17 #[rv a, .val (.long q1), .second, .val (.long q2), .second, .val (.long q3), .second, .val (.long q4), .second, .val (.long q5), .second] [(.ref a)])) _
    refine XS.lload X11.here hx rfl (hb hby own_d4_17) rfl ?_
    show Steps p.tables e below (T11.setTop (mkF m 19 #[rv a, .val (.long q1), .second, .val (.long q2), .second, .val (.long q3), .second, .val (.long q4), .second, .val (.long q5), .second] [(.long q4), (.ref a)])) _
    refine st16 _ ?_
    show Steps p.tables e below (T16.setTop (mkF m 22 #[rv a, .val (.long q1), .second, .val (.long q2), .second, .val (.long q3), .second, .val (.long q4), .second, .val (.long q5), .second] [])) _
    refine XS.aloadN X16.here hx rfl (hb hby own_d4_22) rfl rfl ?_
    show Steps p.tables e below (T16.setTop (mkF m 23 #[rv a, .val (.long q1), .second, .val (.long q2), .second, .val (.long q3), .second, .val (.long q4), .second, .val (.long q5), .second] [(.ref a)])) _
    refine XS.lload X16.here hx rfl (hb hby own_d4_23) rfl ?_
    show Steps p.tables e below (T16.setTop (mkF m 25 #[rv a, .val (.long q1), .second, .val (.long q2), .second, .val (.long q3), .second, .val (.long q4), .second, .val (.long q5), .second] [(.long q5), (.ref a)])) _
    refine st21 _ ?_
    show Steps p.tables e below (T21.setTop (mkF m 28 #[rv a, .val (.long q1), .second, .val (.long q2), .second, .val (.long q3), .second, .val (.long q4), .second, .val (.long q5), .second] [])) _
    refine XS.aloadN X21.here hx rfl (hb hby own_d4_28) rfl rfl ?_
    show Steps p.tables e below (T21.setTop (mkF m 29 #[rv a, .val (.long q1), .second, .val (.long q2), .second, .val (.long q3), .second, .val (.long q4), .second, .val (.long q5), .second] [(.ref a)])) _
    refine XS.iconst X21.here hx rfl (hb hby own_d4_29) ?_
    show Steps p.tables e below (T21.setTop (mkF m 30 #[rv a, .val (.long q1), .second, .val (.long q2), .second, .val (.long q3), .second, .val (.long q4), .second, .val (.long q5), .second] [(.int 0), (.ref a)])) _
    refine st26 _ ?_
    show Steps p.tables e below (T26.setTop (mkF m 33 #[rv a, .val (.long q1), .second, .val (.long q2), .second, .val (.long q3), .second, .val (.long q4), .second, .val (.long q5), .second] [])) _
    exact X26.returnOut hx Bd.returns (hb hby own_d4_33) hr
  · show own_fb_Q Z w_INPUT w_ANIMATION w_INSETS_ANIMATION w_TRAVERSAL w_COMMIT a b ca q1 q2 q3 q4 q5 u1 u2 u3 u4 u5 u6 h0 n0 _ T26.heap _
    rw [e26]
    exact ⟨rfl, N26, kp28, f29, f30, f31, f32, f33, f34, f35, f36, Fw26⟩
theorem own_pb_INPUT_ef (m : MethodId) (w_INPUT : Addr) (a : Addr) (q : Int64) : entryFrame m #[(.ref a), (.ref w_INPUT), (.long q)] 4 = mkF m 0 #[rv a, rv w_INPUT, .val (.long q), .second] [] := by first | (simp [entryFrame, mkF, argsToLocals, Value.category]; done) | rfl
def own_pb_INPUT_Q (Z : State) (w_INPUT : Addr) (w_ANIMATION : Addr) (w_INSETS_ANIMATION : Addr) (w_TRAVERSAL : Addr) (w_COMMIT : Addr) (a : Addr) (b : Addr) (ca : Addr) (kb : ClassId) (kc : ClassId) (q : Int64) (u1 : Int64) (u2 : Int64) (u3 : Int64) (u4 : Int64) (u5 : Int64) (u6 : Int32) (h0 : Heap) (n0 : Nat) (v : Option Value) (h : Heap) (L : List Loc) : Prop := v = none ∧ Fr n0 L ∧ Keep h0 h [a, b, ca] ∧ Exa Z h a "com/example/vsyncopate/vsyncopate/frame/FrameTiming" ∧ Fld Z h a "com/example/vsyncopate/vsyncopate/frame/FrameTiming" "phaseBeganNanos" "[J" (.ref b) ∧ Fld Z h a "com/example/vsyncopate/vsyncopate/frame/FrameTiming" "phaseCallbacks" "[I" (.ref ca) ∧ Fld Z h a "com/example/vsyncopate/vsyncopate/frame/FrameTiming" "frameNumber" "J" (.long u1) ∧ Fld Z h a "com/example/vsyncopate/vsyncopate/frame/FrameTiming" "pulseTimeNanos" "J" (.long u2) ∧ Fld Z h a "com/example/vsyncopate/vsyncopate/frame/FrameTiming" "frameTimeNanos" "J" (.long u3) ∧ Fld Z h a "com/example/vsyncopate/vsyncopate/frame/FrameTiming" "skippedFrames" "J" (.long u4) ∧ Fld Z h a "com/example/vsyncopate/vsyncopate/frame/FrameTiming" "beganNanos" "J" (.long u5) ∧ Fld Z h a "com/example/vsyncopate/vsyncopate/frame/FrameTiming" "phasesBegun" "I" (.int 1)
set_option maxRecDepth 65536 in
set_option maxHeartbeats 40000000 in
theorem own_pb_INPUT (l : Launch) (Z : State) (a0 : Array Value) (hw : ∀ d ∈ tables_1, d.before a0 Z = true) (ws : List Jvm.Cond) (w_INPUT : Addr) (w_ANIMATION : Addr) (w_INSETS_ANIMATION : Addr) (w_TRAVERSAL : Addr) (w_COMMIT : Addr) (a : Addr) (b : Addr) (ca : Addr) (kb : ClassId) (kc : ClassId) (q : Int64) (u1 : Int64) (u2 : Int64) (u3 : Int64) (u4 : Int64) (u5 : Int64) (u6 : Int32) (h0 : Heap) (n0 : Nat) (O0 : Old Z n0 h0) (U_INPUT : own_En Z Z.heap "com/example/vsyncopate/vsyncopate/frame/FramePhase" "INPUT" "Lcom/example/vsyncopate/vsyncopate/frame/FramePhase;" w_INPUT (0 : Int32)) (U_ANIMATION : own_En Z Z.heap "com/example/vsyncopate/vsyncopate/frame/FramePhase" "ANIMATION" "Lcom/example/vsyncopate/vsyncopate/frame/FramePhase;" w_ANIMATION (1 : Int32)) (U_INSETS_ANIMATION : own_En Z Z.heap "com/example/vsyncopate/vsyncopate/frame/FramePhase" "INSETS_ANIMATION" "Lcom/example/vsyncopate/vsyncopate/frame/FramePhase;" w_INSETS_ANIMATION (2 : Int32)) (U_TRAVERSAL : own_En Z Z.heap "com/example/vsyncopate/vsyncopate/frame/FramePhase" "TRAVERSAL" "Lcom/example/vsyncopate/vsyncopate/frame/FramePhase;" w_TRAVERSAL (3 : Int32)) (U_COMMIT : own_En Z Z.heap "com/example/vsyncopate/vsyncopate/frame/FramePhase" "COMMIT" "Lcom/example/vsyncopate/vsyncopate/frame/FramePhase;" w_COMMIT (4 : Int32)) (S_PC : Sta Z Z.heap "com/example/vsyncopate/vsyncopate/frame/FrameTiming" "PHASE_COUNT" "I" (.int 5)) (g_a : n0 ≤ a) (E_a : Exa Z h0 a "com/example/vsyncopate/vsyncopate/frame/FrameTiming") (F_phaseBeganNanos : Fld Z h0 a "com/example/vsyncopate/vsyncopate/frame/FrameTiming" "phaseBeganNanos" "[J" (.ref b)) (F_phaseCallbacks : Fld Z h0 a "com/example/vsyncopate/vsyncopate/frame/FrameTiming" "phaseCallbacks" "[I" (.ref ca)) (F_frameNumber : Fld Z h0 a "com/example/vsyncopate/vsyncopate/frame/FrameTiming" "frameNumber" "J" (.long u1)) (F_pulseTimeNanos : Fld Z h0 a "com/example/vsyncopate/vsyncopate/frame/FrameTiming" "pulseTimeNanos" "J" (.long u2)) (F_frameTimeNanos : Fld Z h0 a "com/example/vsyncopate/vsyncopate/frame/FrameTiming" "frameTimeNanos" "J" (.long u3)) (F_skippedFrames : Fld Z h0 a "com/example/vsyncopate/vsyncopate/frame/FrameTiming" "skippedFrames" "J" (.long u4)) (F_beganNanos : Fld Z h0 a "com/example/vsyncopate/vsyncopate/frame/FrameTiming" "beganNanos" "J" (.long u5)) (F_phasesBegun : Fld Z h0 a "com/example/vsyncopate/vsyncopate/frame/FrameTiming" "phasesBegun" "I" (.int u6)) (g_b : n0 ≤ b) (g_c : n0 ≤ ca) (nba : b ≠ a) (nca : ca ≠ a) (nbc : b ≠ ca) (V_b : Arv Z h0 b kb .long (5 : Int32) [(.long 0), (.long 0), (.long 0), (.long 0), (.long 0)] (.long 0)) (V_c : Arv Z h0 ca kc .int (5 : Int32) [(.int 0), (.int 0), (.int 0), (.int 0), (.int 0)] (.int 0)) :
    MetFree l (⟨"com/example/vsyncopate/vsyncopate/frame/FrameTiming", "phaseBegins", "(Lcom/example/vsyncopate/vsyncopate/frame/FramePhase;J)V"⟩ : MethodName) (head1 (Jvm.Cond.code (⟨"com/example/vsyncopate/vsyncopate/frame/FrameTiming", "phaseBegins", "(Lcom/example/vsyncopate/vsyncopate/frame/FramePhase;J)V"⟩ : MethodName) prog_20_method_13_code 4 none :: ws) ({ frames := 1, cells := 0, slots := 0, locals := 13 } : Room)) (fun ar U => ar = #[(.ref a), (.ref w_INPUT), (.long q)] ∧ Z.Warmed39 U.vm ∧ U.heap = h0) (fun _ _ _ _ _ => True) (fun _ U oc U' => ∃ v L, oc = .returned v ∧ own_pb_INPUT_Q Z w_INPUT w_ANIMATION w_INSETS_ANIMATION w_TRAVERSAL w_COMMIT a b ca kb kc q u1 u2 u3 u4 u5 u6 h0 n0 v U'.heap L ∧ FrameEnd U oc U' L ({ frames := 1, cells := 0, slots := 0, locals := 13 } : Room).cells ({ frames := 1, cells := 0, slots := 0, locals := 13 } : Room).slots) := by
  refine MetFree.of_bodySF (plainFor_of_name own_pn2) hisR ?_
  intro p e s m args below meth c s₁ Bd hml0 hP hK
  obtain ⟨rfl, hZ, hh⟩ := hP
  have hx := Bd.exec
  have hby := Bd.bytes
  have hml : c.maxLocals = 4 := hml0
  have hown : s.vm.findClass "com/example/vsyncopate/vsyncopate/frame/FrameTiming" = some m.cls := findClass_of_methodNamed Bd.named
  have hnm := (name_of_methodNamed Bd.named Bd.method).1
  have X0 : Stand p l e ({ frames := 1, cells := 0, slots := 0, locals := 13 } : Room) s m #[(.ref a), (.ref w_INPUT), (.long q)] below meth c s₁ [] 0 0 := Stand.of_body Bd
  have e0 : s₁.heap = h0 := by rw [← hh, Bd.state]; rfl
  have N0 := Fr.nil n0
  have pre0 : ∀ t, Steps p.tables e below (s₁.setTop (mkF m 0 #[rv a, rv w_INPUT, .val (.long q), .second] [])) t → Steps p.tables e below (s₁.setTop (entryFrame m #[(.ref a), (.ref w_INPUT), (.long q)] 4)) t := fun t k => castTop (own_pb_INPUT_ef m w_INPUT a q) k
  have kp0 := Keep.refl h0 ([a, b, ca] : List Addr)
  obtain ⟨T1, X1, e1, st1⟩ := getF X0 hx hZ hown (host := "") (Or.inl (hw _ (own_m 20 rfl))) Via.refl e0 F_phaseBeganNanos (g := (mkF m 1 #[rv a, rv w_INPUT, .val (.long q), .second] [(.ref a)])) rfl rfl (hb hby own_d5_1)
  obtain ⟨cq2, kq2, q2a, q2b, q2c⟩ := isOf hZ e1 (U_INPUT.2.1.ext O0.2)
  obtain ⟨_, _, ⟨T2, L2, k2, n2⟩, -, X2, ⟨Lc2, hQ2, l2, y2, z2⟩, st2⟩ := X1.virtualBackUp hx (x := (⟨"com/example/vsyncopate/vsyncopate/frame/FramePhase", "ordinal", "()I"⟩ : MethodName)) (y := (⟨"java/lang/Enum", "ordinal", "()I"⟩ : MethodName)) (owner := "java/lang/Enum") hown (mvT hZ (hw _ (own_m 47 rfl))) (mvT hZ (hw _ (own_m 48 rfl))) (mvT hZ (hw _ (own_m 49 rfl))) (by decide) (mvT hZ (hw _ (own_m 51 rfl))) (mvT hZ (hw _ (own_m 50 rfl))) (backOf (W := 1) (own_o_INPUT l Z a0 hw [] w_INPUT w_ANIMATION w_INSETS_ANIMATION w_TRAVERSAL w_COMMIT  h0 n0 O0 U_INPUT U_ANIMATION U_INSETS_ANIMATION U_TRAVERSAL U_COMMIT S_PC ) hZ (hw _ (own_m 53 rfl)) (hw _ (own_m 52 rfl)) (by decide) (by decide)) q2a q2c (g := (mkF m 5 #[rv a, rv w_INPUT, .val (.long q), .second] [(.ref w_INPUT), (.ref b)])) rfl (by rw [hml]; rfl) (Steps.refl _) (argsL := []) (rest := [(.ref b)]) (lenOf own_pd0 rfl) rfl (by show 2 * 0 + _ ≤ _; exact Nat.le_of_eq rfl) (hb hby own_d5_5) (fun _ _ => ⟨rfl, e1, (by decide : 0 + 0 ≤ _), (by decide : 0 + 0 ≤ _)⟩)
  dsimp only [Pt.U, Pt.locs, Pt.cells, Pt.slots] at X2 l2 y2 z2 st2 hQ2
  subst l2 y2 z2
  obtain ⟨rfl, N2q, e2⟩ := hQ2
  have N2 := Fr.app N0 N2q
  obtain ⟨c3, c3A, c3q, c3S, c3N, c3H, c3G⟩ := id V_b
  have c3in : ¬ ((0 : Int32) < 0 ∨ c3.slots.size ≤ ((0 : Int32)).toNatClampNeg) := inb_of c3S ⟨by decide, by decide⟩
  obtain ⟨T4, h4, X4, e4, W4, st4⟩ := stJ X2 hx hZ e2 c3A (j := (0 : Int32)) c3in (g := (mkF m 9 #[rv a, rv w_INPUT, .val (.long q), .second] [(.long q), (.int 0), (.ref b)])) rfl rfl (hb hby own_d5_9)
  have V4 : Arv Z h4 b kb .long (5 : Int32) [(.long q), (.long 0), (.long 0), (.long 0), (.long 0)] (.long 0) := Arv.set c3A c3q c3S c3N c3H c3G rfl W4 0 rfl (Nat.le_of_ble_eq_true rfl)
  have O5 := O0.wr W4 g_b
  have kp6 := kp0.wr W4 (Or.inl (own_m 1 rfl))
  have N4 := Fr.snoc X4 N2 g_b
  have f7 := (F_phaseCallbacks.other W4 (Or.inl (Ne.symm nba)))
  obtain ⟨T8, X8, e8, st8⟩ := getF X4 hx hZ hown (host := "") (Or.inl (hw _ (own_m 23 rfl))) Via.refl e4 f7 (g := (mkF m 11 #[rv a, rv w_INPUT, .val (.long q), .second] [(.ref a)])) rfl rfl (hb hby own_d5_11)
  obtain ⟨cq9, kq9, q9a, q9b, q9c⟩ := isOf hZ e8 (U_INPUT.2.1.ext O5.2)
  obtain ⟨_, _, ⟨T9, L9, k9, n9⟩, -, X9, ⟨Lc9, hQ9, l9, y9, z9⟩, st9⟩ := X8.virtualBackUp hx (x := (⟨"com/example/vsyncopate/vsyncopate/frame/FramePhase", "ordinal", "()I"⟩ : MethodName)) (y := (⟨"java/lang/Enum", "ordinal", "()I"⟩ : MethodName)) (owner := "java/lang/Enum") hown (mvT hZ (hw _ (own_m 47 rfl))) (mvT hZ (hw _ (own_m 48 rfl))) (mvT hZ (hw _ (own_m 49 rfl))) (by decide) (mvT hZ (hw _ (own_m 51 rfl))) (mvT hZ (hw _ (own_m 50 rfl))) (backOf (W := 1) (own_o_INPUT l Z a0 hw [] w_INPUT w_ANIMATION w_INSETS_ANIMATION w_TRAVERSAL w_COMMIT  h4 n0 O5 U_INPUT U_ANIMATION U_INSETS_ANIMATION U_TRAVERSAL U_COMMIT S_PC ) hZ (hw _ (own_m 53 rfl)) (hw _ (own_m 52 rfl)) (by decide) (by decide)) q9a q9c (g := (mkF m 15 #[rv a, rv w_INPUT, .val (.long q), .second] [(.ref w_INPUT), (.ref ca)])) rfl (by rw [hml]; rfl) (Steps.refl _) (argsL := []) (rest := [(.ref ca)]) (lenOf own_pd0 rfl) rfl (by show 2 * 0 + _ ≤ _; exact Nat.le_of_eq rfl) (hb hby own_d5_15) (fun _ _ => ⟨rfl, e8, (by decide : 0 + 0 ≤ _), (by decide : 0 + 0 ≤ _)⟩)
  dsimp only [Pt.U, Pt.locs, Pt.cells, Pt.slots] at X9 l9 y9 z9 st9 hQ9
  subst l9 y9 z9
  obtain ⟨rfl, N9q, e9⟩ := hQ9
  have N9 := Fr.app N4 N9q
  have f10 := (V_c.other W4 (Ne.symm nbc))
  obtain ⟨c11, c11A, c11q, c11S, c11N, c11H, c11G⟩ := id f10
  have c11in : ¬ ((0 : Int32) < 0 ∨ c11.slots.size ≤ ((0 : Int32)).toNatClampNeg) := inb_of c11S ⟨by decide, by decide⟩
  obtain ⟨T12, h12, X12, e12, W12, st12⟩ := stI X9 hx hZ e9 c11A (j := (0 : Int32)) c11in (g := (mkF m 19 #[rv a, rv w_INPUT, .val (.long q), .second] [(.int 0), (.int 0), (.ref ca)])) rfl rfl (hb hby own_d5_19)
  have V12 : Arv Z h12 ca kc .int (5 : Int32) [(.int 0), (.int 0), (.int 0), (.int 0), (.int 0)] (.int 0) := Arv.set c11A c11q c11S c11N c11H c11G rfl W12 0 rfl (Nat.le_of_ble_eq_true rfl)
  have O13 := O5.wr W12 g_c
  have kp14 := kp6.wr W12 (Or.inl (own_m 2 rfl))
  have N12 := Fr.snoc X12 N9 g_c
  obtain ⟨cq15, kq15, q15a, q15b, q15c⟩ := isOf hZ e12 (U_INPUT.2.1.ext O13.2)
  obtain ⟨_, _, ⟨T15, L15, k15, n15⟩, -, X15, ⟨Lc15, hQ15, l15, y15, z15⟩, st15⟩ := X12.virtualBackUp hx (x := (⟨"com/example/vsyncopate/vsyncopate/frame/FramePhase", "ordinal", "()I"⟩ : MethodName)) (y := (⟨"java/lang/Enum", "ordinal", "()I"⟩ : MethodName)) (owner := "java/lang/Enum") hown (mvT hZ (hw _ (own_m 47 rfl))) (mvT hZ (hw _ (own_m 48 rfl))) (mvT hZ (hw _ (own_m 49 rfl))) (by decide) (mvT hZ (hw _ (own_m 51 rfl))) (mvT hZ (hw _ (own_m 50 rfl))) (backOf (W := 1) (own_o_INPUT l Z a0 hw [] w_INPUT w_ANIMATION w_INSETS_ANIMATION w_TRAVERSAL w_COMMIT  h12 n0 O13 U_INPUT U_ANIMATION U_INSETS_ANIMATION U_TRAVERSAL U_COMMIT S_PC ) hZ (hw _ (own_m 53 rfl)) (hw _ (own_m 52 rfl)) (by decide) (by decide)) q15a q15c (g := (mkF m 22 #[rv a, rv w_INPUT, .val (.long q), .second] [(.ref w_INPUT), (.ref a)])) rfl (by rw [hml]; rfl) (Steps.refl _) (argsL := []) (rest := [(.ref a)]) (lenOf own_pd0 rfl) rfl (by show 2 * 0 + _ ≤ _; exact Nat.le_of_eq rfl) (hb hby own_d5_22) (fun _ _ => ⟨rfl, e12, (by decide : 0 + 0 ≤ _), (by decide : 0 + 0 ≤ _)⟩)
  dsimp only [Pt.U, Pt.locs, Pt.cells, Pt.slots] at X15 l15 y15 z15 st15 hQ15
  subst l15 y15 z15
  obtain ⟨rfl, N15q, e15⟩ := hQ15
  have N15 := Fr.app N12 N15q
  have f16 := ((F_phasesBegun.other W4 (Or.inl (Ne.symm nba))).other W12 (Or.inl (Ne.symm nca)))
  have f17 := ((E_a.wr W4).wr W12)
  obtain ⟨T18, h18, X18, e18, W18, st18⟩ := putF X15 hx hZ hown (host := "") (Or.inl (hw _ (own_m 40 rfl))) Via.refl e15 f16 f17 (Or.inl (hw _ (own_m 41 rfl))) (hw _ (own_m 9 rfl)) (ty := .int) (by decide) rfl rfl (g := (mkF m 27 #[rv a, rv w_INPUT, .val (.long q), .second] [(.int 1), (.ref a)])) rfl rfl (hb hby own_d5_27)
  have Fw18 := f16.same W18
  have O19 := O13.wr W18 g_a
  have kp20 := kp14.wr W18 (Or.inl (own_m 0 rfl))
  have N18 := Fr.snoc X18 N15 g_a
  have f21 := (f17.wr W18)
  have f22 := (((F_phaseBeganNanos.other W4 (Or.inl (Ne.symm nba))).other W12 (Or.inl (Ne.symm nca))).other W18 (Or.inr (slot_ne (Or.inr (hw _ (own_m 21 rfl))) (Or.inl (hw _ (own_m 41 rfl))) (by decide) (t := (.array .long)) (t' := .int) (by decide) (by decide))))
  have f23 := ((f7.other W12 (Or.inl (Ne.symm nca))).other W18 (Or.inr (slot_ne (Or.inr (hw _ (own_m 24 rfl))) (Or.inl (hw _ (own_m 41 rfl))) (by decide) (t := (.array .int)) (t' := .int) (by decide) (by decide))))
  have f24 := (((F_frameNumber.other W4 (Or.inl (Ne.symm nba))).other W12 (Or.inl (Ne.symm nca))).other W18 (Or.inr (slot_ne (Or.inl (hw _ (own_m 31 rfl))) (Or.inl (hw _ (own_m 41 rfl))) (by decide) (t := .long) (t' := .int) (by decide) (by decide))))
  have f25 := (((F_pulseTimeNanos.other W4 (Or.inl (Ne.symm nba))).other W12 (Or.inl (Ne.symm nca))).other W18 (Or.inr (slot_ne (Or.inl (hw _ (own_m 33 rfl))) (Or.inl (hw _ (own_m 41 rfl))) (by decide) (t := .long) (t' := .int) (by decide) (by decide))))
  have f26 := (((F_frameTimeNanos.other W4 (Or.inl (Ne.symm nba))).other W12 (Or.inl (Ne.symm nca))).other W18 (Or.inr (slot_ne (Or.inl (hw _ (own_m 35 rfl))) (Or.inl (hw _ (own_m 41 rfl))) (by decide) (t := .long) (t' := .int) (by decide) (by decide))))
  have f27 := (((F_skippedFrames.other W4 (Or.inl (Ne.symm nba))).other W12 (Or.inl (Ne.symm nca))).other W18 (Or.inr (slot_ne (Or.inl (hw _ (own_m 37 rfl))) (Or.inl (hw _ (own_m 41 rfl))) (by decide) (t := .long) (t' := .int) (by decide) (by decide))))
  have f28 := (((F_beganNanos.other W4 (Or.inl (Ne.symm nba))).other W12 (Or.inl (Ne.symm nca))).other W18 (Or.inr (slot_ne (Or.inl (hw _ (own_m 39 rfl))) (Or.inl (hw _ (own_m 41 rfl))) (by decide) (t := .long) (t' := .int) (by decide) (by decide))))
  obtain ⟨fs, hr, hrun, hended, hW, hsame⟩ := X18.leave (v := none) (fun _ => rfl)
  refine ⟨_, _, pre0 _ ?_, hrun, hended, _, _, rfl, ?_, ⟨_, rfl⟩, hW, hsame.mono (by decide) (by decide)⟩
  · show Steps p.tables e below (s₁.setTop (mkF m 0 #[rv a, rv w_INPUT, .val (.long q), .second] [])) _
    refine XS.aloadN X0.here hx rfl (hb hby own_d5_0) rfl rfl ?_
    show Steps p.tables e below (s₁.setTop (mkF m 1 #[rv a, rv w_INPUT, .val (.long q), .second] [(.ref a)])) _
    refine st1 _ ?_
    show Steps p.tables e below (T1.setTop (mkF m 4 #[rv a, rv w_INPUT, .val (.long q), .second] [(.ref b)])) _
    refine XS.aloadN X1.here hx rfl (hb hby own_d5_4) rfl rfl ?_
    show Steps p.tables e below (T1.setTop (mkF m 5 #[rv a, rv w_INPUT, .val (.long q), .second] [(.ref w_INPUT), (.ref b)])) _
    refine st2.trans ?_
    show Steps p.tables e below (T2.setTop (mkF m 8 #[rv a, rv w_INPUT, .val (.long q), .second] [(.int 0), (.ref b)])) _
    refine XS.lloadN X2.here hx rfl (hb hby own_d5_8) rfl ?_
    show Steps p.tables e below (T2.setTop (mkF m 9 #[rv a, rv w_INPUT, .val (.long q), .second] [(.long q), (.int 0), (.ref b)])) _
    refine st4 _ ?_
    show Steps p.tables e below (T4.setTop (mkF m 10 #[rv a, rv w_INPUT, .val (.long q), .second] [])) _
    refine XS.aloadN X4.here hx rfl (hb hby own_d5_10) rfl rfl ?_
    show Steps p.tables e below (T4.setTop (mkF m 11 #[rv a, rv w_INPUT, .val (.long q), .second] [(.ref a)])) _
    refine st8 _ ?_
    show Steps p.tables e below (T8.setTop (mkF m 14 #[rv a, rv w_INPUT, .val (.long q), .second] [(.ref ca)])) _
    refine XS.aloadN X8.here hx rfl (hb hby own_d5_14) rfl rfl ?_
    show Steps p.tables e below (T8.setTop (mkF m 15 #[rv a, rv w_INPUT, .val (.long q), .second] [(.ref w_INPUT), (.ref ca)])) _
    refine st9.trans ?_
    show Steps p.tables e below (T9.setTop (mkF m 18 #[rv a, rv w_INPUT, .val (.long q), .second] [(.int 0), (.ref ca)])) _
    refine XS.iconst X9.here hx rfl (hb hby own_d5_18) ?_
    show Steps p.tables e below (T9.setTop (mkF m 19 #[rv a, rv w_INPUT, .val (.long q), .second] [(.int 0), (.int 0), (.ref ca)])) _
    refine st12 _ ?_
    show Steps p.tables e below (T12.setTop (mkF m 20 #[rv a, rv w_INPUT, .val (.long q), .second] [])) _
    refine XS.aloadN X12.here hx rfl (hb hby own_d5_20) rfl rfl ?_
    show Steps p.tables e below (T12.setTop (mkF m 21 #[rv a, rv w_INPUT, .val (.long q), .second] [(.ref a)])) _
    refine XS.aloadN X12.here hx rfl (hb hby own_d5_21) rfl rfl ?_
    show Steps p.tables e below (T12.setTop (mkF m 22 #[rv a, rv w_INPUT, .val (.long q), .second] [(.ref w_INPUT), (.ref a)])) _
    refine st15.trans ?_
    show Steps p.tables e below (T15.setTop (mkF m 25 #[rv a, rv w_INPUT, .val (.long q), .second] [(.int 0), (.ref a)])) _
    refine XS.iconst X15.here hx rfl (hb hby own_d5_25) ?_
    show Steps p.tables e below (T15.setTop (mkF m 26 #[rv a, rv w_INPUT, .val (.long q), .second] [(.int 1), (.int 0), (.ref a)])) _
    refine XS.iadd X15.here hx rfl (hb hby own_d5_26) rfl ?_
    show Steps p.tables e below (T15.setTop (mkF m 27 #[rv a, rv w_INPUT, .val (.long q), .second] [(.int ((0 : Int32) + (1 : Int32))), (.ref a)])) _
    refine own_top (v' := (.int 1)) (congrArg Value.int (by decide)) ?_
    show Steps p.tables e below (T15.setTop (mkF m 27 #[rv a, rv w_INPUT, .val (.long q), .second] [(.int 1), (.ref a)])) _
    refine st18 _ ?_
    show Steps p.tables e below (T18.setTop (mkF m 30 #[rv a, rv w_INPUT, .val (.long q), .second] [])) _
    exact X18.returnOut hx Bd.returns (hb hby own_d5_30) hr
  · show own_pb_INPUT_Q Z w_INPUT w_ANIMATION w_INSETS_ANIMATION w_TRAVERSAL w_COMMIT a b ca kb kc q u1 u2 u3 u4 u5 u6 h0 n0 _ T18.heap _
    rw [e18]
    exact ⟨rfl, N18, kp20, f21, f22, f23, f24, f25, f26, f27, f28, Fw18⟩
theorem own_pb_ANIMATION_ef (m : MethodId) (w_ANIMATION : Addr) (a : Addr) (q : Int64) : entryFrame m #[(.ref a), (.ref w_ANIMATION), (.long q)] 4 = mkF m 0 #[rv a, rv w_ANIMATION, .val (.long q), .second] [] := by first | (simp [entryFrame, mkF, argsToLocals, Value.category]; done) | rfl
def own_pb_ANIMATION_Q (Z : State) (w_INPUT : Addr) (w_ANIMATION : Addr) (w_INSETS_ANIMATION : Addr) (w_TRAVERSAL : Addr) (w_COMMIT : Addr) (a : Addr) (b : Addr) (ca : Addr) (kb : ClassId) (kc : ClassId) (q : Int64) (u1 : Int64) (u2 : Int64) (u3 : Int64) (u4 : Int64) (u5 : Int64) (u6 : Int32) (h0 : Heap) (n0 : Nat) (v : Option Value) (h : Heap) (L : List Loc) : Prop := v = none ∧ Fr n0 L ∧ Keep h0 h [a, b, ca] ∧ Exa Z h a "com/example/vsyncopate/vsyncopate/frame/FrameTiming" ∧ Fld Z h a "com/example/vsyncopate/vsyncopate/frame/FrameTiming" "phaseBeganNanos" "[J" (.ref b) ∧ Fld Z h a "com/example/vsyncopate/vsyncopate/frame/FrameTiming" "phaseCallbacks" "[I" (.ref ca) ∧ Fld Z h a "com/example/vsyncopate/vsyncopate/frame/FrameTiming" "frameNumber" "J" (.long u1) ∧ Fld Z h a "com/example/vsyncopate/vsyncopate/frame/FrameTiming" "pulseTimeNanos" "J" (.long u2) ∧ Fld Z h a "com/example/vsyncopate/vsyncopate/frame/FrameTiming" "frameTimeNanos" "J" (.long u3) ∧ Fld Z h a "com/example/vsyncopate/vsyncopate/frame/FrameTiming" "skippedFrames" "J" (.long u4) ∧ Fld Z h a "com/example/vsyncopate/vsyncopate/frame/FrameTiming" "beganNanos" "J" (.long u5) ∧ Fld Z h a "com/example/vsyncopate/vsyncopate/frame/FrameTiming" "phasesBegun" "I" (.int 2)
set_option maxRecDepth 65536 in
set_option maxHeartbeats 40000000 in
theorem own_pb_ANIMATION (l : Launch) (Z : State) (a0 : Array Value) (hw : ∀ d ∈ tables_1, d.before a0 Z = true) (ws : List Jvm.Cond) (w_INPUT : Addr) (w_ANIMATION : Addr) (w_INSETS_ANIMATION : Addr) (w_TRAVERSAL : Addr) (w_COMMIT : Addr) (a : Addr) (b : Addr) (ca : Addr) (kb : ClassId) (kc : ClassId) (q : Int64) (u1 : Int64) (u2 : Int64) (u3 : Int64) (u4 : Int64) (u5 : Int64) (u6 : Int32) (h0 : Heap) (n0 : Nat) (O0 : Old Z n0 h0) (U_INPUT : own_En Z Z.heap "com/example/vsyncopate/vsyncopate/frame/FramePhase" "INPUT" "Lcom/example/vsyncopate/vsyncopate/frame/FramePhase;" w_INPUT (0 : Int32)) (U_ANIMATION : own_En Z Z.heap "com/example/vsyncopate/vsyncopate/frame/FramePhase" "ANIMATION" "Lcom/example/vsyncopate/vsyncopate/frame/FramePhase;" w_ANIMATION (1 : Int32)) (U_INSETS_ANIMATION : own_En Z Z.heap "com/example/vsyncopate/vsyncopate/frame/FramePhase" "INSETS_ANIMATION" "Lcom/example/vsyncopate/vsyncopate/frame/FramePhase;" w_INSETS_ANIMATION (2 : Int32)) (U_TRAVERSAL : own_En Z Z.heap "com/example/vsyncopate/vsyncopate/frame/FramePhase" "TRAVERSAL" "Lcom/example/vsyncopate/vsyncopate/frame/FramePhase;" w_TRAVERSAL (3 : Int32)) (U_COMMIT : own_En Z Z.heap "com/example/vsyncopate/vsyncopate/frame/FramePhase" "COMMIT" "Lcom/example/vsyncopate/vsyncopate/frame/FramePhase;" w_COMMIT (4 : Int32)) (S_PC : Sta Z Z.heap "com/example/vsyncopate/vsyncopate/frame/FrameTiming" "PHASE_COUNT" "I" (.int 5)) (g_a : n0 ≤ a) (E_a : Exa Z h0 a "com/example/vsyncopate/vsyncopate/frame/FrameTiming") (F_phaseBeganNanos : Fld Z h0 a "com/example/vsyncopate/vsyncopate/frame/FrameTiming" "phaseBeganNanos" "[J" (.ref b)) (F_phaseCallbacks : Fld Z h0 a "com/example/vsyncopate/vsyncopate/frame/FrameTiming" "phaseCallbacks" "[I" (.ref ca)) (F_frameNumber : Fld Z h0 a "com/example/vsyncopate/vsyncopate/frame/FrameTiming" "frameNumber" "J" (.long u1)) (F_pulseTimeNanos : Fld Z h0 a "com/example/vsyncopate/vsyncopate/frame/FrameTiming" "pulseTimeNanos" "J" (.long u2)) (F_frameTimeNanos : Fld Z h0 a "com/example/vsyncopate/vsyncopate/frame/FrameTiming" "frameTimeNanos" "J" (.long u3)) (F_skippedFrames : Fld Z h0 a "com/example/vsyncopate/vsyncopate/frame/FrameTiming" "skippedFrames" "J" (.long u4)) (F_beganNanos : Fld Z h0 a "com/example/vsyncopate/vsyncopate/frame/FrameTiming" "beganNanos" "J" (.long u5)) (F_phasesBegun : Fld Z h0 a "com/example/vsyncopate/vsyncopate/frame/FrameTiming" "phasesBegun" "I" (.int u6)) (g_b : n0 ≤ b) (g_c : n0 ≤ ca) (nba : b ≠ a) (nca : ca ≠ a) (nbc : b ≠ ca) (V_b : Arv Z h0 b kb .long (5 : Int32) [(.long 0), (.long 0), (.long 0), (.long 0), (.long 0)] (.long 0)) (V_c : Arv Z h0 ca kc .int (5 : Int32) [(.int 0), (.int 0), (.int 0), (.int 0), (.int 0)] (.int 0)) :
    MetFree l (⟨"com/example/vsyncopate/vsyncopate/frame/FrameTiming", "phaseBegins", "(Lcom/example/vsyncopate/vsyncopate/frame/FramePhase;J)V"⟩ : MethodName) (head1 (Jvm.Cond.code (⟨"com/example/vsyncopate/vsyncopate/frame/FrameTiming", "phaseBegins", "(Lcom/example/vsyncopate/vsyncopate/frame/FramePhase;J)V"⟩ : MethodName) prog_20_method_13_code 4 none :: ws) ({ frames := 1, cells := 0, slots := 0, locals := 13 } : Room)) (fun ar U => ar = #[(.ref a), (.ref w_ANIMATION), (.long q)] ∧ Z.Warmed39 U.vm ∧ U.heap = h0) (fun _ _ _ _ _ => True) (fun _ U oc U' => ∃ v L, oc = .returned v ∧ own_pb_ANIMATION_Q Z w_INPUT w_ANIMATION w_INSETS_ANIMATION w_TRAVERSAL w_COMMIT a b ca kb kc q u1 u2 u3 u4 u5 u6 h0 n0 v U'.heap L ∧ FrameEnd U oc U' L ({ frames := 1, cells := 0, slots := 0, locals := 13 } : Room).cells ({ frames := 1, cells := 0, slots := 0, locals := 13 } : Room).slots) := by
  refine MetFree.of_bodySF (plainFor_of_name own_pn2) hisR ?_
  intro p e s m args below meth c s₁ Bd hml0 hP hK
  obtain ⟨rfl, hZ, hh⟩ := hP
  have hx := Bd.exec
  have hby := Bd.bytes
  have hml : c.maxLocals = 4 := hml0
  have hown : s.vm.findClass "com/example/vsyncopate/vsyncopate/frame/FrameTiming" = some m.cls := findClass_of_methodNamed Bd.named
  have hnm := (name_of_methodNamed Bd.named Bd.method).1
  have X0 : Stand p l e ({ frames := 1, cells := 0, slots := 0, locals := 13 } : Room) s m #[(.ref a), (.ref w_ANIMATION), (.long q)] below meth c s₁ [] 0 0 := Stand.of_body Bd
  have e0 : s₁.heap = h0 := by rw [← hh, Bd.state]; rfl
  have N0 := Fr.nil n0
  have pre0 : ∀ t, Steps p.tables e below (s₁.setTop (mkF m 0 #[rv a, rv w_ANIMATION, .val (.long q), .second] [])) t → Steps p.tables e below (s₁.setTop (entryFrame m #[(.ref a), (.ref w_ANIMATION), (.long q)] 4)) t := fun t k => castTop (own_pb_ANIMATION_ef m w_ANIMATION a q) k
  have kp0 := Keep.refl h0 ([a, b, ca] : List Addr)
  obtain ⟨T1, X1, e1, st1⟩ := getF X0 hx hZ hown (host := "") (Or.inl (hw _ (own_m 20 rfl))) Via.refl e0 F_phaseBeganNanos (g := (mkF m 1 #[rv a, rv w_ANIMATION, .val (.long q), .second] [(.ref a)])) rfl rfl (hb hby own_d5_1)
  obtain ⟨cq2, kq2, q2a, q2b, q2c⟩ := isOf hZ e1 (U_ANIMATION.2.1.ext O0.2)
  obtain ⟨_, _, ⟨T2, L2, k2, n2⟩, -, X2, ⟨Lc2, hQ2, l2, y2, z2⟩, st2⟩ := X1.virtualBackUp hx (x := (⟨"com/example/vsyncopate/vsyncopate/frame/FramePhase", "ordinal", "()I"⟩ : MethodName)) (y := (⟨"java/lang/Enum", "ordinal", "()I"⟩ : MethodName)) (owner := "java/lang/Enum") hown (mvT hZ (hw _ (own_m 47 rfl))) (mvT hZ (hw _ (own_m 48 rfl))) (mvT hZ (hw _ (own_m 49 rfl))) (by decide) (mvT hZ (hw _ (own_m 51 rfl))) (mvT hZ (hw _ (own_m 50 rfl))) (backOf (W := 1) (own_o_ANIMATION l Z a0 hw [] w_INPUT w_ANIMATION w_INSETS_ANIMATION w_TRAVERSAL w_COMMIT  h0 n0 O0 U_INPUT U_ANIMATION U_INSETS_ANIMATION U_TRAVERSAL U_COMMIT S_PC ) hZ (hw _ (own_m 53 rfl)) (hw _ (own_m 52 rfl)) (by decide) (by decide)) q2a q2c (g := (mkF m 5 #[rv a, rv w_ANIMATION, .val (.long q), .second] [(.ref w_ANIMATION), (.ref b)])) rfl (by rw [hml]; rfl) (Steps.refl _) (argsL := []) (rest := [(.ref b)]) (lenOf own_pd0 rfl) rfl (by show 2 * 0 + _ ≤ _; exact Nat.le_of_eq rfl) (hb hby own_d5_5) (fun _ _ => ⟨rfl, e1, (by decide : 0 + 0 ≤ _), (by decide : 0 + 0 ≤ _)⟩)
  dsimp only [Pt.U, Pt.locs, Pt.cells, Pt.slots] at X2 l2 y2 z2 st2 hQ2
  subst l2 y2 z2
  obtain ⟨rfl, N2q, e2⟩ := hQ2
  have N2 := Fr.app N0 N2q
  obtain ⟨c3, c3A, c3q, c3S, c3N, c3H, c3G⟩ := id V_b
  have c3in : ¬ ((1 : Int32) < 0 ∨ c3.slots.size ≤ ((1 : Int32)).toNatClampNeg) := inb_of c3S ⟨by decide, by decide⟩
  obtain ⟨T4, h4, X4, e4, W4, st4⟩ := stJ X2 hx hZ e2 c3A (j := (1 : Int32)) c3in (g := (mkF m 9 #[rv a, rv w_ANIMATION, .val (.long q), .second] [(.long q), (.int 1), (.ref b)])) rfl rfl (hb hby own_d5_9)
  have V4 : Arv Z h4 b kb .long (5 : Int32) [(.long 0), (.long q), (.long 0), (.long 0), (.long 0)] (.long 0) := Arv.set c3A c3q c3S c3N c3H c3G rfl W4 1 rfl (Nat.le_of_ble_eq_true rfl)
  have O5 := O0.wr W4 g_b
  have kp6 := kp0.wr W4 (Or.inl (own_m 1 rfl))
  have N4 := Fr.snoc X4 N2 g_b
  have f7 := (F_phaseCallbacks.other W4 (Or.inl (Ne.symm nba)))
  obtain ⟨T8, X8, e8, st8⟩ := getF X4 hx hZ hown (host := "") (Or.inl (hw _ (own_m 23 rfl))) Via.refl e4 f7 (g := (mkF m 11 #[rv a, rv w_ANIMATION, .val (.long q), .second] [(.ref a)])) rfl rfl (hb hby own_d5_11)
  obtain ⟨cq9, kq9, q9a, q9b, q9c⟩ := isOf hZ e8 (U_ANIMATION.2.1.ext O5.2)
  obtain ⟨_, _, ⟨T9, L9, k9, n9⟩, -, X9, ⟨Lc9, hQ9, l9, y9, z9⟩, st9⟩ := X8.virtualBackUp hx (x := (⟨"com/example/vsyncopate/vsyncopate/frame/FramePhase", "ordinal", "()I"⟩ : MethodName)) (y := (⟨"java/lang/Enum", "ordinal", "()I"⟩ : MethodName)) (owner := "java/lang/Enum") hown (mvT hZ (hw _ (own_m 47 rfl))) (mvT hZ (hw _ (own_m 48 rfl))) (mvT hZ (hw _ (own_m 49 rfl))) (by decide) (mvT hZ (hw _ (own_m 51 rfl))) (mvT hZ (hw _ (own_m 50 rfl))) (backOf (W := 1) (own_o_ANIMATION l Z a0 hw [] w_INPUT w_ANIMATION w_INSETS_ANIMATION w_TRAVERSAL w_COMMIT  h4 n0 O5 U_INPUT U_ANIMATION U_INSETS_ANIMATION U_TRAVERSAL U_COMMIT S_PC ) hZ (hw _ (own_m 53 rfl)) (hw _ (own_m 52 rfl)) (by decide) (by decide)) q9a q9c (g := (mkF m 15 #[rv a, rv w_ANIMATION, .val (.long q), .second] [(.ref w_ANIMATION), (.ref ca)])) rfl (by rw [hml]; rfl) (Steps.refl _) (argsL := []) (rest := [(.ref ca)]) (lenOf own_pd0 rfl) rfl (by show 2 * 0 + _ ≤ _; exact Nat.le_of_eq rfl) (hb hby own_d5_15) (fun _ _ => ⟨rfl, e8, (by decide : 0 + 0 ≤ _), (by decide : 0 + 0 ≤ _)⟩)
  dsimp only [Pt.U, Pt.locs, Pt.cells, Pt.slots] at X9 l9 y9 z9 st9 hQ9
  subst l9 y9 z9
  obtain ⟨rfl, N9q, e9⟩ := hQ9
  have N9 := Fr.app N4 N9q
  have f10 := (V_c.other W4 (Ne.symm nbc))
  obtain ⟨c11, c11A, c11q, c11S, c11N, c11H, c11G⟩ := id f10
  have c11in : ¬ ((1 : Int32) < 0 ∨ c11.slots.size ≤ ((1 : Int32)).toNatClampNeg) := inb_of c11S ⟨by decide, by decide⟩
  obtain ⟨T12, h12, X12, e12, W12, st12⟩ := stI X9 hx hZ e9 c11A (j := (1 : Int32)) c11in (g := (mkF m 19 #[rv a, rv w_ANIMATION, .val (.long q), .second] [(.int 0), (.int 1), (.ref ca)])) rfl rfl (hb hby own_d5_19)
  have V12 : Arv Z h12 ca kc .int (5 : Int32) [(.int 0), (.int 0), (.int 0), (.int 0), (.int 0)] (.int 0) := Arv.set c11A c11q c11S c11N c11H c11G rfl W12 1 rfl (Nat.le_of_ble_eq_true rfl)
  have O13 := O5.wr W12 g_c
  have kp14 := kp6.wr W12 (Or.inl (own_m 2 rfl))
  have N12 := Fr.snoc X12 N9 g_c
  obtain ⟨cq15, kq15, q15a, q15b, q15c⟩ := isOf hZ e12 (U_ANIMATION.2.1.ext O13.2)
  obtain ⟨_, _, ⟨T15, L15, k15, n15⟩, -, X15, ⟨Lc15, hQ15, l15, y15, z15⟩, st15⟩ := X12.virtualBackUp hx (x := (⟨"com/example/vsyncopate/vsyncopate/frame/FramePhase", "ordinal", "()I"⟩ : MethodName)) (y := (⟨"java/lang/Enum", "ordinal", "()I"⟩ : MethodName)) (owner := "java/lang/Enum") hown (mvT hZ (hw _ (own_m 47 rfl))) (mvT hZ (hw _ (own_m 48 rfl))) (mvT hZ (hw _ (own_m 49 rfl))) (by decide) (mvT hZ (hw _ (own_m 51 rfl))) (mvT hZ (hw _ (own_m 50 rfl))) (backOf (W := 1) (own_o_ANIMATION l Z a0 hw [] w_INPUT w_ANIMATION w_INSETS_ANIMATION w_TRAVERSAL w_COMMIT  h12 n0 O13 U_INPUT U_ANIMATION U_INSETS_ANIMATION U_TRAVERSAL U_COMMIT S_PC ) hZ (hw _ (own_m 53 rfl)) (hw _ (own_m 52 rfl)) (by decide) (by decide)) q15a q15c (g := (mkF m 22 #[rv a, rv w_ANIMATION, .val (.long q), .second] [(.ref w_ANIMATION), (.ref a)])) rfl (by rw [hml]; rfl) (Steps.refl _) (argsL := []) (rest := [(.ref a)]) (lenOf own_pd0 rfl) rfl (by show 2 * 0 + _ ≤ _; exact Nat.le_of_eq rfl) (hb hby own_d5_22) (fun _ _ => ⟨rfl, e12, (by decide : 0 + 0 ≤ _), (by decide : 0 + 0 ≤ _)⟩)
  dsimp only [Pt.U, Pt.locs, Pt.cells, Pt.slots] at X15 l15 y15 z15 st15 hQ15
  subst l15 y15 z15
  obtain ⟨rfl, N15q, e15⟩ := hQ15
  have N15 := Fr.app N12 N15q
  have f16 := ((F_phasesBegun.other W4 (Or.inl (Ne.symm nba))).other W12 (Or.inl (Ne.symm nca)))
  have f17 := ((E_a.wr W4).wr W12)
  obtain ⟨T18, h18, X18, e18, W18, st18⟩ := putF X15 hx hZ hown (host := "") (Or.inl (hw _ (own_m 40 rfl))) Via.refl e15 f16 f17 (Or.inl (hw _ (own_m 41 rfl))) (hw _ (own_m 9 rfl)) (ty := .int) (by decide) rfl rfl (g := (mkF m 27 #[rv a, rv w_ANIMATION, .val (.long q), .second] [(.int 2), (.ref a)])) rfl rfl (hb hby own_d5_27)
  have Fw18 := f16.same W18
  have O19 := O13.wr W18 g_a
  have kp20 := kp14.wr W18 (Or.inl (own_m 0 rfl))
  have N18 := Fr.snoc X18 N15 g_a
  have f21 := (f17.wr W18)
  have f22 := (((F_phaseBeganNanos.other W4 (Or.inl (Ne.symm nba))).other W12 (Or.inl (Ne.symm nca))).other W18 (Or.inr (slot_ne (Or.inr (hw _ (own_m 21 rfl))) (Or.inl (hw _ (own_m 41 rfl))) (by decide) (t := (.array .long)) (t' := .int) (by decide) (by decide))))
  have f23 := ((f7.other W12 (Or.inl (Ne.symm nca))).other W18 (Or.inr (slot_ne (Or.inr (hw _ (own_m 24 rfl))) (Or.inl (hw _ (own_m 41 rfl))) (by decide) (t := (.array .int)) (t' := .int) (by decide) (by decide))))
  have f24 := (((F_frameNumber.other W4 (Or.inl (Ne.symm nba))).other W12 (Or.inl (Ne.symm nca))).other W18 (Or.inr (slot_ne (Or.inl (hw _ (own_m 31 rfl))) (Or.inl (hw _ (own_m 41 rfl))) (by decide) (t := .long) (t' := .int) (by decide) (by decide))))
  have f25 := (((F_pulseTimeNanos.other W4 (Or.inl (Ne.symm nba))).other W12 (Or.inl (Ne.symm nca))).other W18 (Or.inr (slot_ne (Or.inl (hw _ (own_m 33 rfl))) (Or.inl (hw _ (own_m 41 rfl))) (by decide) (t := .long) (t' := .int) (by decide) (by decide))))
  have f26 := (((F_frameTimeNanos.other W4 (Or.inl (Ne.symm nba))).other W12 (Or.inl (Ne.symm nca))).other W18 (Or.inr (slot_ne (Or.inl (hw _ (own_m 35 rfl))) (Or.inl (hw _ (own_m 41 rfl))) (by decide) (t := .long) (t' := .int) (by decide) (by decide))))
  have f27 := (((F_skippedFrames.other W4 (Or.inl (Ne.symm nba))).other W12 (Or.inl (Ne.symm nca))).other W18 (Or.inr (slot_ne (Or.inl (hw _ (own_m 37 rfl))) (Or.inl (hw _ (own_m 41 rfl))) (by decide) (t := .long) (t' := .int) (by decide) (by decide))))
  have f28 := (((F_beganNanos.other W4 (Or.inl (Ne.symm nba))).other W12 (Or.inl (Ne.symm nca))).other W18 (Or.inr (slot_ne (Or.inl (hw _ (own_m 39 rfl))) (Or.inl (hw _ (own_m 41 rfl))) (by decide) (t := .long) (t' := .int) (by decide) (by decide))))
  obtain ⟨fs, hr, hrun, hended, hW, hsame⟩ := X18.leave (v := none) (fun _ => rfl)
  refine ⟨_, _, pre0 _ ?_, hrun, hended, _, _, rfl, ?_, ⟨_, rfl⟩, hW, hsame.mono (by decide) (by decide)⟩
  · show Steps p.tables e below (s₁.setTop (mkF m 0 #[rv a, rv w_ANIMATION, .val (.long q), .second] [])) _
    refine XS.aloadN X0.here hx rfl (hb hby own_d5_0) rfl rfl ?_
    show Steps p.tables e below (s₁.setTop (mkF m 1 #[rv a, rv w_ANIMATION, .val (.long q), .second] [(.ref a)])) _
    refine st1 _ ?_
    show Steps p.tables e below (T1.setTop (mkF m 4 #[rv a, rv w_ANIMATION, .val (.long q), .second] [(.ref b)])) _
    refine XS.aloadN X1.here hx rfl (hb hby own_d5_4) rfl rfl ?_
    show Steps p.tables e below (T1.setTop (mkF m 5 #[rv a, rv w_ANIMATION, .val (.long q), .second] [(.ref w_ANIMATION), (.ref b)])) _
    refine st2.trans ?_
    show Steps p.tables e below (T2.setTop (mkF m 8 #[rv a, rv w_ANIMATION, .val (.long q), .second] [(.int 1), (.ref b)])) _
    refine XS.lloadN X2.here hx rfl (hb hby own_d5_8) rfl ?_
    show Steps p.tables e below (T2.setTop (mkF m 9 #[rv a, rv w_ANIMATION, .val (.long q), .second] [(.long q), (.int 1), (.ref b)])) _
    refine st4 _ ?_
    show Steps p.tables e below (T4.setTop (mkF m 10 #[rv a, rv w_ANIMATION, .val (.long q), .second] [])) _
    refine XS.aloadN X4.here hx rfl (hb hby own_d5_10) rfl rfl ?_
    show Steps p.tables e below (T4.setTop (mkF m 11 #[rv a, rv w_ANIMATION, .val (.long q), .second] [(.ref a)])) _
    refine st8 _ ?_
    show Steps p.tables e below (T8.setTop (mkF m 14 #[rv a, rv w_ANIMATION, .val (.long q), .second] [(.ref ca)])) _
    refine XS.aloadN X8.here hx rfl (hb hby own_d5_14) rfl rfl ?_
    show Steps p.tables e below (T8.setTop (mkF m 15 #[rv a, rv w_ANIMATION, .val (.long q), .second] [(.ref w_ANIMATION), (.ref ca)])) _
    refine st9.trans ?_
    show Steps p.tables e below (T9.setTop (mkF m 18 #[rv a, rv w_ANIMATION, .val (.long q), .second] [(.int 1), (.ref ca)])) _
    refine XS.iconst X9.here hx rfl (hb hby own_d5_18) ?_
    show Steps p.tables e below (T9.setTop (mkF m 19 #[rv a, rv w_ANIMATION, .val (.long q), .second] [(.int 0), (.int 1), (.ref ca)])) _
    refine st12 _ ?_
    show Steps p.tables e below (T12.setTop (mkF m 20 #[rv a, rv w_ANIMATION, .val (.long q), .second] [])) _
    refine XS.aloadN X12.here hx rfl (hb hby own_d5_20) rfl rfl ?_
    show Steps p.tables e below (T12.setTop (mkF m 21 #[rv a, rv w_ANIMATION, .val (.long q), .second] [(.ref a)])) _
    refine XS.aloadN X12.here hx rfl (hb hby own_d5_21) rfl rfl ?_
    show Steps p.tables e below (T12.setTop (mkF m 22 #[rv a, rv w_ANIMATION, .val (.long q), .second] [(.ref w_ANIMATION), (.ref a)])) _
    refine st15.trans ?_
    show Steps p.tables e below (T15.setTop (mkF m 25 #[rv a, rv w_ANIMATION, .val (.long q), .second] [(.int 1), (.ref a)])) _
    refine XS.iconst X15.here hx rfl (hb hby own_d5_25) ?_
    show Steps p.tables e below (T15.setTop (mkF m 26 #[rv a, rv w_ANIMATION, .val (.long q), .second] [(.int 1), (.int 1), (.ref a)])) _
    refine XS.iadd X15.here hx rfl (hb hby own_d5_26) rfl ?_
    show Steps p.tables e below (T15.setTop (mkF m 27 #[rv a, rv w_ANIMATION, .val (.long q), .second] [(.int ((1 : Int32) + (1 : Int32))), (.ref a)])) _
    refine own_top (v' := (.int 2)) (congrArg Value.int (by decide)) ?_
    show Steps p.tables e below (T15.setTop (mkF m 27 #[rv a, rv w_ANIMATION, .val (.long q), .second] [(.int 2), (.ref a)])) _
    refine st18 _ ?_
    show Steps p.tables e below (T18.setTop (mkF m 30 #[rv a, rv w_ANIMATION, .val (.long q), .second] [])) _
    exact X18.returnOut hx Bd.returns (hb hby own_d5_30) hr
  · show own_pb_ANIMATION_Q Z w_INPUT w_ANIMATION w_INSETS_ANIMATION w_TRAVERSAL w_COMMIT a b ca kb kc q u1 u2 u3 u4 u5 u6 h0 n0 _ T18.heap _
    rw [e18]
    exact ⟨rfl, N18, kp20, f21, f22, f23, f24, f25, f26, f27, f28, Fw18⟩
theorem own_pb_INSETS_ANIMATION_ef (m : MethodId) (w_INSETS_ANIMATION : Addr) (a : Addr) (q : Int64) : entryFrame m #[(.ref a), (.ref w_INSETS_ANIMATION), (.long q)] 4 = mkF m 0 #[rv a, rv w_INSETS_ANIMATION, .val (.long q), .second] [] := by first | (simp [entryFrame, mkF, argsToLocals, Value.category]; done) | rfl
def own_pb_INSETS_ANIMATION_Q (Z : State) (w_INPUT : Addr) (w_ANIMATION : Addr) (w_INSETS_ANIMATION : Addr) (w_TRAVERSAL : Addr) (w_COMMIT : Addr) (a : Addr) (b : Addr) (ca : Addr) (kb : ClassId) (kc : ClassId) (q : Int64) (u1 : Int64) (u2 : Int64) (u3 : Int64) (u4 : Int64) (u5 : Int64) (u6 : Int32) (h0 : Heap) (n0 : Nat) (v : Option Value) (h : Heap) (L : List Loc) : Prop := v = none ∧ Fr n0 L ∧ Keep h0 h [a, b, ca] ∧ Exa Z h a "com/example/vsyncopate/vsyncopate/frame/FrameTiming" ∧ Fld Z h a "com/example/vsyncopate/vsyncopate/frame/FrameTiming" "phaseBeganNanos" "[J" (.ref b) ∧ Fld Z h a "com/example/vsyncopate/vsyncopate/frame/FrameTiming" "phaseCallbacks" "[I" (.ref ca) ∧ Fld Z h a "com/example/vsyncopate/vsyncopate/frame/FrameTiming" "frameNumber" "J" (.long u1) ∧ Fld Z h a "com/example/vsyncopate/vsyncopate/frame/FrameTiming" "pulseTimeNanos" "J" (.long u2) ∧ Fld Z h a "com/example/vsyncopate/vsyncopate/frame/FrameTiming" "frameTimeNanos" "J" (.long u3) ∧ Fld Z h a "com/example/vsyncopate/vsyncopate/frame/FrameTiming" "skippedFrames" "J" (.long u4) ∧ Fld Z h a "com/example/vsyncopate/vsyncopate/frame/FrameTiming" "beganNanos" "J" (.long u5) ∧ Fld Z h a "com/example/vsyncopate/vsyncopate/frame/FrameTiming" "phasesBegun" "I" (.int 3)
set_option maxRecDepth 65536 in
set_option maxHeartbeats 40000000 in
theorem own_pb_INSETS_ANIMATION (l : Launch) (Z : State) (a0 : Array Value) (hw : ∀ d ∈ tables_1, d.before a0 Z = true) (ws : List Jvm.Cond) (w_INPUT : Addr) (w_ANIMATION : Addr) (w_INSETS_ANIMATION : Addr) (w_TRAVERSAL : Addr) (w_COMMIT : Addr) (a : Addr) (b : Addr) (ca : Addr) (kb : ClassId) (kc : ClassId) (q : Int64) (u1 : Int64) (u2 : Int64) (u3 : Int64) (u4 : Int64) (u5 : Int64) (u6 : Int32) (h0 : Heap) (n0 : Nat) (O0 : Old Z n0 h0) (U_INPUT : own_En Z Z.heap "com/example/vsyncopate/vsyncopate/frame/FramePhase" "INPUT" "Lcom/example/vsyncopate/vsyncopate/frame/FramePhase;" w_INPUT (0 : Int32)) (U_ANIMATION : own_En Z Z.heap "com/example/vsyncopate/vsyncopate/frame/FramePhase" "ANIMATION" "Lcom/example/vsyncopate/vsyncopate/frame/FramePhase;" w_ANIMATION (1 : Int32)) (U_INSETS_ANIMATION : own_En Z Z.heap "com/example/vsyncopate/vsyncopate/frame/FramePhase" "INSETS_ANIMATION" "Lcom/example/vsyncopate/vsyncopate/frame/FramePhase;" w_INSETS_ANIMATION (2 : Int32)) (U_TRAVERSAL : own_En Z Z.heap "com/example/vsyncopate/vsyncopate/frame/FramePhase" "TRAVERSAL" "Lcom/example/vsyncopate/vsyncopate/frame/FramePhase;" w_TRAVERSAL (3 : Int32)) (U_COMMIT : own_En Z Z.heap "com/example/vsyncopate/vsyncopate/frame/FramePhase" "COMMIT" "Lcom/example/vsyncopate/vsyncopate/frame/FramePhase;" w_COMMIT (4 : Int32)) (S_PC : Sta Z Z.heap "com/example/vsyncopate/vsyncopate/frame/FrameTiming" "PHASE_COUNT" "I" (.int 5)) (g_a : n0 ≤ a) (E_a : Exa Z h0 a "com/example/vsyncopate/vsyncopate/frame/FrameTiming") (F_phaseBeganNanos : Fld Z h0 a "com/example/vsyncopate/vsyncopate/frame/FrameTiming" "phaseBeganNanos" "[J" (.ref b)) (F_phaseCallbacks : Fld Z h0 a "com/example/vsyncopate/vsyncopate/frame/FrameTiming" "phaseCallbacks" "[I" (.ref ca)) (F_frameNumber : Fld Z h0 a "com/example/vsyncopate/vsyncopate/frame/FrameTiming" "frameNumber" "J" (.long u1)) (F_pulseTimeNanos : Fld Z h0 a "com/example/vsyncopate/vsyncopate/frame/FrameTiming" "pulseTimeNanos" "J" (.long u2)) (F_frameTimeNanos : Fld Z h0 a "com/example/vsyncopate/vsyncopate/frame/FrameTiming" "frameTimeNanos" "J" (.long u3)) (F_skippedFrames : Fld Z h0 a "com/example/vsyncopate/vsyncopate/frame/FrameTiming" "skippedFrames" "J" (.long u4)) (F_beganNanos : Fld Z h0 a "com/example/vsyncopate/vsyncopate/frame/FrameTiming" "beganNanos" "J" (.long u5)) (F_phasesBegun : Fld Z h0 a "com/example/vsyncopate/vsyncopate/frame/FrameTiming" "phasesBegun" "I" (.int u6)) (g_b : n0 ≤ b) (g_c : n0 ≤ ca) (nba : b ≠ a) (nca : ca ≠ a) (nbc : b ≠ ca) (V_b : Arv Z h0 b kb .long (5 : Int32) [(.long 0), (.long 0), (.long 0), (.long 0), (.long 0)] (.long 0)) (V_c : Arv Z h0 ca kc .int (5 : Int32) [(.int 0), (.int 0), (.int 0), (.int 0), (.int 0)] (.int 0)) :
    MetFree l (⟨"com/example/vsyncopate/vsyncopate/frame/FrameTiming", "phaseBegins", "(Lcom/example/vsyncopate/vsyncopate/frame/FramePhase;J)V"⟩ : MethodName) (head1 (Jvm.Cond.code (⟨"com/example/vsyncopate/vsyncopate/frame/FrameTiming", "phaseBegins", "(Lcom/example/vsyncopate/vsyncopate/frame/FramePhase;J)V"⟩ : MethodName) prog_20_method_13_code 4 none :: ws) ({ frames := 1, cells := 0, slots := 0, locals := 13 } : Room)) (fun ar U => ar = #[(.ref a), (.ref w_INSETS_ANIMATION), (.long q)] ∧ Z.Warmed39 U.vm ∧ U.heap = h0) (fun _ _ _ _ _ => True) (fun _ U oc U' => ∃ v L, oc = .returned v ∧ own_pb_INSETS_ANIMATION_Q Z w_INPUT w_ANIMATION w_INSETS_ANIMATION w_TRAVERSAL w_COMMIT a b ca kb kc q u1 u2 u3 u4 u5 u6 h0 n0 v U'.heap L ∧ FrameEnd U oc U' L ({ frames := 1, cells := 0, slots := 0, locals := 13 } : Room).cells ({ frames := 1, cells := 0, slots := 0, locals := 13 } : Room).slots) := by
  refine MetFree.of_bodySF (plainFor_of_name own_pn2) hisR ?_
  intro p e s m args below meth c s₁ Bd hml0 hP hK
  obtain ⟨rfl, hZ, hh⟩ := hP
  have hx := Bd.exec
  have hby := Bd.bytes
  have hml : c.maxLocals = 4 := hml0
  have hown : s.vm.findClass "com/example/vsyncopate/vsyncopate/frame/FrameTiming" = some m.cls := findClass_of_methodNamed Bd.named
  have hnm := (name_of_methodNamed Bd.named Bd.method).1
  have X0 : Stand p l e ({ frames := 1, cells := 0, slots := 0, locals := 13 } : Room) s m #[(.ref a), (.ref w_INSETS_ANIMATION), (.long q)] below meth c s₁ [] 0 0 := Stand.of_body Bd
  have e0 : s₁.heap = h0 := by rw [← hh, Bd.state]; rfl
  have N0 := Fr.nil n0
  have pre0 : ∀ t, Steps p.tables e below (s₁.setTop (mkF m 0 #[rv a, rv w_INSETS_ANIMATION, .val (.long q), .second] [])) t → Steps p.tables e below (s₁.setTop (entryFrame m #[(.ref a), (.ref w_INSETS_ANIMATION), (.long q)] 4)) t := fun t k => castTop (own_pb_INSETS_ANIMATION_ef m w_INSETS_ANIMATION a q) k
  have kp0 := Keep.refl h0 ([a, b, ca] : List Addr)
  obtain ⟨T1, X1, e1, st1⟩ := getF X0 hx hZ hown (host := "") (Or.inl (hw _ (own_m 20 rfl))) Via.refl e0 F_phaseBeganNanos (g := (mkF m 1 #[rv a, rv w_INSETS_ANIMATION, .val (.long q), .second] [(.ref a)])) rfl rfl (hb hby own_d5_1)
  obtain ⟨cq2, kq2, q2a, q2b, q2c⟩ := isOf hZ e1 (U_INSETS_ANIMATION.2.1.ext O0.2)
  obtain ⟨_, _, ⟨T2, L2, k2, n2⟩, -, X2, ⟨Lc2, hQ2, l2, y2, z2⟩, st2⟩ := X1.virtualBackUp hx (x := (⟨"com/example/vsyncopate/vsyncopate/frame/FramePhase", "ordinal", "()I"⟩ : MethodName)) (y := (⟨"java/lang/Enum", "ordinal", "()I"⟩ : MethodName)) (owner := "java/lang/Enum") hown (mvT hZ (hw _ (own_m 47 rfl))) (mvT hZ (hw _ (own_m 48 rfl))) (mvT hZ (hw _ (own_m 49 rfl))) (by decide) (mvT hZ (hw _ (own_m 51 rfl))) (mvT hZ (hw _ (own_m 50 rfl))) (backOf (W := 1) (own_o_INSETS_ANIMATION l Z a0 hw [] w_INPUT w_ANIMATION w_INSETS_ANIMATION w_TRAVERSAL w_COMMIT  h0 n0 O0 U_INPUT U_ANIMATION U_INSETS_ANIMATION U_TRAVERSAL U_COMMIT S_PC ) hZ (hw _ (own_m 53 rfl)) (hw _ (own_m 52 rfl)) (by decide) (by decide)) q2a q2c (g := (mkF m 5 #[rv a, rv w_INSETS_ANIMATION, .val (.long q), .second] [(.ref w_INSETS_ANIMATION), (.ref b)])) rfl (by rw [hml]; rfl) (Steps.refl _) (argsL := []) (rest := [(.ref b)]) (lenOf own_pd0 rfl) rfl (by show 2 * 0 + _ ≤ _; exact Nat.le_of_eq rfl) (hb hby own_d5_5) (fun _ _ => ⟨rfl, e1, (by decide : 0 + 0 ≤ _), (by decide : 0 + 0 ≤ _)⟩)
  dsimp only [Pt.U, Pt.locs, Pt.cells, Pt.slots] at X2 l2 y2 z2 st2 hQ2
  subst l2 y2 z2
  obtain ⟨rfl, N2q, e2⟩ := hQ2
  have N2 := Fr.app N0 N2q
  obtain ⟨c3, c3A, c3q, c3S, c3N, c3H, c3G⟩ := id V_b
  have c3in : ¬ ((2 : Int32) < 0 ∨ c3.slots.size ≤ ((2 : Int32)).toNatClampNeg) := inb_of c3S ⟨by decide, by decide⟩
  obtain ⟨T4, h4, X4, e4, W4, st4⟩ := stJ X2 hx hZ e2 c3A (j := (2 : Int32)) c3in (g := (mkF m 9 #[rv a, rv w_INSETS_ANIMATION, .val (.long q), .second] [(.long q), (.int 2), (.ref b)])) rfl rfl (hb hby own_d5_9)
  have V4 : Arv Z h4 b kb .long (5 : Int32) [(.long 0), (.long 0), (.long q), (.long 0), (.long 0)] (.long 0) := Arv.set c3A c3q c3S c3N c3H c3G rfl W4 2 rfl (Nat.le_of_ble_eq_true rfl)
  have O5 := O0.wr W4 g_b
  have kp6 := kp0.wr W4 (Or.inl (own_m 1 rfl))
  have N4 := Fr.snoc X4 N2 g_b
  have f7 := (F_phaseCallbacks.other W4 (Or.inl (Ne.symm nba)))
  obtain ⟨T8, X8, e8, st8⟩ := getF X4 hx hZ hown (host := "") (Or.inl (hw _ (own_m 23 rfl))) Via.refl e4 f7 (g := (mkF m 11 #[rv a, rv w_INSETS_ANIMATION, .val (.long q), .second] [(.ref a)])) rfl rfl (hb hby own_d5_11)
  obtain ⟨cq9, kq9, q9a, q9b, q9c⟩ := isOf hZ e8 (U_INSETS_ANIMATION.2.1.ext O5.2)
  obtain ⟨_, _, ⟨T9, L9, k9, n9⟩, -, X9, ⟨Lc9, hQ9, l9, y9, z9⟩, st9⟩ := X8.virtualBackUp hx (x := (⟨"com/example/vsyncopate/vsyncopate/frame/FramePhase", "ordinal", "()I"⟩ : MethodName)) (y := (⟨"java/lang/Enum", "ordinal", "()I"⟩ : MethodName)) (owner := "java/lang/Enum") hown (mvT hZ (hw _ (own_m 47 rfl))) (mvT hZ (hw _ (own_m 48 rfl))) (mvT hZ (hw _ (own_m 49 rfl))) (by decide) (mvT hZ (hw _ (own_m 51 rfl))) (mvT hZ (hw _ (own_m 50 rfl))) (backOf (W := 1) (own_o_INSETS_ANIMATION l Z a0 hw [] w_INPUT w_ANIMATION w_INSETS_ANIMATION w_TRAVERSAL w_COMMIT  h4 n0 O5 U_INPUT U_ANIMATION U_INSETS_ANIMATION U_TRAVERSAL U_COMMIT S_PC ) hZ (hw _ (own_m 53 rfl)) (hw _ (own_m 52 rfl)) (by decide) (by decide)) q9a q9c (g := (mkF m 15 #[rv a, rv w_INSETS_ANIMATION, .val (.long q), .second] [(.ref w_INSETS_ANIMATION), (.ref ca)])) rfl (by rw [hml]; rfl) (Steps.refl _) (argsL := []) (rest := [(.ref ca)]) (lenOf own_pd0 rfl) rfl (by show 2 * 0 + _ ≤ _; exact Nat.le_of_eq rfl) (hb hby own_d5_15) (fun _ _ => ⟨rfl, e8, (by decide : 0 + 0 ≤ _), (by decide : 0 + 0 ≤ _)⟩)
  dsimp only [Pt.U, Pt.locs, Pt.cells, Pt.slots] at X9 l9 y9 z9 st9 hQ9
  subst l9 y9 z9
  obtain ⟨rfl, N9q, e9⟩ := hQ9
  have N9 := Fr.app N4 N9q
  have f10 := (V_c.other W4 (Ne.symm nbc))
  obtain ⟨c11, c11A, c11q, c11S, c11N, c11H, c11G⟩ := id f10
  have c11in : ¬ ((2 : Int32) < 0 ∨ c11.slots.size ≤ ((2 : Int32)).toNatClampNeg) := inb_of c11S ⟨by decide, by decide⟩
  obtain ⟨T12, h12, X12, e12, W12, st12⟩ := stI X9 hx hZ e9 c11A (j := (2 : Int32)) c11in (g := (mkF m 19 #[rv a, rv w_INSETS_ANIMATION, .val (.long q), .second] [(.int 0), (.int 2), (.ref ca)])) rfl rfl (hb hby own_d5_19)
  have V12 : Arv Z h12 ca kc .int (5 : Int32) [(.int 0), (.int 0), (.int 0), (.int 0), (.int 0)] (.int 0) := Arv.set c11A c11q c11S c11N c11H c11G rfl W12 2 rfl (Nat.le_of_ble_eq_true rfl)
  have O13 := O5.wr W12 g_c
  have kp14 := kp6.wr W12 (Or.inl (own_m 2 rfl))
  have N12 := Fr.snoc X12 N9 g_c
  obtain ⟨cq15, kq15, q15a, q15b, q15c⟩ := isOf hZ e12 (U_INSETS_ANIMATION.2.1.ext O13.2)
  obtain ⟨_, _, ⟨T15, L15, k15, n15⟩, -, X15, ⟨Lc15, hQ15, l15, y15, z15⟩, st15⟩ := X12.virtualBackUp hx (x := (⟨"com/example/vsyncopate/vsyncopate/frame/FramePhase", "ordinal", "()I"⟩ : MethodName)) (y := (⟨"java/lang/Enum", "ordinal", "()I"⟩ : MethodName)) (owner := "java/lang/Enum") hown (mvT hZ (hw _ (own_m 47 rfl))) (mvT hZ (hw _ (own_m 48 rfl))) (mvT hZ (hw _ (own_m 49 rfl))) (by decide) (mvT hZ (hw _ (own_m 51 rfl))) (mvT hZ (hw _ (own_m 50 rfl))) (backOf (W := 1) (own_o_INSETS_ANIMATION l Z a0 hw [] w_INPUT w_ANIMATION w_INSETS_ANIMATION w_TRAVERSAL w_COMMIT  h12 n0 O13 U_INPUT U_ANIMATION U_INSETS_ANIMATION U_TRAVERSAL U_COMMIT S_PC ) hZ (hw _ (own_m 53 rfl)) (hw _ (own_m 52 rfl)) (by decide) (by decide)) q15a q15c (g := (mkF m 22 #[rv a, rv w_INSETS_ANIMATION, .val (.long q), .second] [(.ref w_INSETS_ANIMATION), (.ref a)])) rfl (by rw [hml]; rfl) (Steps.refl _) (argsL := []) (rest := [(.ref a)]) (lenOf own_pd0 rfl) rfl (by show 2 * 0 + _ ≤ _; exact Nat.le_of_eq rfl) (hb hby own_d5_22) (fun _ _ => ⟨rfl, e12, (by decide : 0 + 0 ≤ _), (by decide : 0 + 0 ≤ _)⟩)
  dsimp only [Pt.U, Pt.locs, Pt.cells, Pt.slots] at X15 l15 y15 z15 st15 hQ15
  subst l15 y15 z15
  obtain ⟨rfl, N15q, e15⟩ := hQ15
  have N15 := Fr.app N12 N15q
  have f16 := ((F_phasesBegun.other W4 (Or.inl (Ne.symm nba))).other W12 (Or.inl (Ne.symm nca)))
  have f17 := ((E_a.wr W4).wr W12)
  obtain ⟨T18, h18, X18, e18, W18, st18⟩ := putF X15 hx hZ hown (host := "") (Or.inl (hw _ (own_m 40 rfl))) Via.refl e15 f16 f17 (Or.inl (hw _ (own_m 41 rfl))) (hw _ (own_m 9 rfl)) (ty := .int) (by decide) rfl rfl (g := (mkF m 27 #[rv a, rv w_INSETS_ANIMATION, .val (.long q), .second] [(.int 3), (.ref a)])) rfl rfl (hb hby own_d5_27)
  have Fw18 := f16.same W18
  have O19 := O13.wr W18 g_a
  have kp20 := kp14.wr W18 (Or.inl (own_m 0 rfl))
  have N18 := Fr.snoc X18 N15 g_a
  have f21 := (f17.wr W18)
  have f22 := (((F_phaseBeganNanos.other W4 (Or.inl (Ne.symm nba))).other W12 (Or.inl (Ne.symm nca))).other W18 (Or.inr (slot_ne (Or.inr (hw _ (own_m 21 rfl))) (Or.inl (hw _ (own_m 41 rfl))) (by decide) (t := (.array .long)) (t' := .int) (by decide) (by decide))))
  have f23 := ((f7.other W12 (Or.inl (Ne.symm nca))).other W18 (Or.inr (slot_ne (Or.inr (hw _ (own_m 24 rfl))) (Or.inl (hw _ (own_m 41 rfl))) (by decide) (t := (.array .int)) (t' := .int) (by decide) (by decide))))
  have f24 := (((F_frameNumber.other W4 (Or.inl (Ne.symm nba))).other W12 (Or.inl (Ne.symm nca))).other W18 (Or.inr (slot_ne (Or.inl (hw _ (own_m 31 rfl))) (Or.inl (hw _ (own_m 41 rfl))) (by decide) (t := .long) (t' := .int) (by decide) (by decide))))
  have f25 := (((F_pulseTimeNanos.other W4 (Or.inl (Ne.symm nba))).other W12 (Or.inl (Ne.symm nca))).other W18 (Or.inr (slot_ne (Or.inl (hw _ (own_m 33 rfl))) (Or.inl (hw _ (own_m 41 rfl))) (by decide) (t := .long) (t' := .int) (by decide) (by decide))))
  have f26 := (((F_frameTimeNanos.other W4 (Or.inl (Ne.symm nba))).other W12 (Or.inl (Ne.symm nca))).other W18 (Or.inr (slot_ne (Or.inl (hw _ (own_m 35 rfl))) (Or.inl (hw _ (own_m 41 rfl))) (by decide) (t := .long) (t' := .int) (by decide) (by decide))))
  have f27 := (((F_skippedFrames.other W4 (Or.inl (Ne.symm nba))).other W12 (Or.inl (Ne.symm nca))).other W18 (Or.inr (slot_ne (Or.inl (hw _ (own_m 37 rfl))) (Or.inl (hw _ (own_m 41 rfl))) (by decide) (t := .long) (t' := .int) (by decide) (by decide))))
  have f28 := (((F_beganNanos.other W4 (Or.inl (Ne.symm nba))).other W12 (Or.inl (Ne.symm nca))).other W18 (Or.inr (slot_ne (Or.inl (hw _ (own_m 39 rfl))) (Or.inl (hw _ (own_m 41 rfl))) (by decide) (t := .long) (t' := .int) (by decide) (by decide))))
  obtain ⟨fs, hr, hrun, hended, hW, hsame⟩ := X18.leave (v := none) (fun _ => rfl)
  refine ⟨_, _, pre0 _ ?_, hrun, hended, _, _, rfl, ?_, ⟨_, rfl⟩, hW, hsame.mono (by decide) (by decide)⟩
  · show Steps p.tables e below (s₁.setTop (mkF m 0 #[rv a, rv w_INSETS_ANIMATION, .val (.long q), .second] [])) _
    refine XS.aloadN X0.here hx rfl (hb hby own_d5_0) rfl rfl ?_
    show Steps p.tables e below (s₁.setTop (mkF m 1 #[rv a, rv w_INSETS_ANIMATION, .val (.long q), .second] [(.ref a)])) _
    refine st1 _ ?_
    show Steps p.tables e below (T1.setTop (mkF m 4 #[rv a, rv w_INSETS_ANIMATION, .val (.long q), .second] [(.ref b)])) _
    refine XS.aloadN X1.here hx rfl (hb hby own_d5_4) rfl rfl ?_
    show Steps p.tables e below (T1.setTop (mkF m 5 #[rv a, rv w_INSETS_ANIMATION, .val (.long q), .second] [(.ref w_INSETS_ANIMATION), (.ref b)])) _
    refine st2.trans ?_
    show Steps p.tables e below (T2.setTop (mkF m 8 #[rv a, rv w_INSETS_ANIMATION, .val (.long q), .second] [(.int 2), (.ref b)])) _
    refine XS.lloadN X2.here hx rfl (hb hby own_d5_8) rfl ?_
    show Steps p.tables e below (T2.setTop (mkF m 9 #[rv a, rv w_INSETS_ANIMATION, .val (.long q), .second] [(.long q), (.int 2), (.ref b)])) _
    refine st4 _ ?_
    show Steps p.tables e below (T4.setTop (mkF m 10 #[rv a, rv w_INSETS_ANIMATION, .val (.long q), .second] [])) _
    refine XS.aloadN X4.here hx rfl (hb hby own_d5_10) rfl rfl ?_
    show Steps p.tables e below (T4.setTop (mkF m 11 #[rv a, rv w_INSETS_ANIMATION, .val (.long q), .second] [(.ref a)])) _
    refine st8 _ ?_
    show Steps p.tables e below (T8.setTop (mkF m 14 #[rv a, rv w_INSETS_ANIMATION, .val (.long q), .second] [(.ref ca)])) _
    refine XS.aloadN X8.here hx rfl (hb hby own_d5_14) rfl rfl ?_
    show Steps p.tables e below (T8.setTop (mkF m 15 #[rv a, rv w_INSETS_ANIMATION, .val (.long q), .second] [(.ref w_INSETS_ANIMATION), (.ref ca)])) _
    refine st9.trans ?_
    show Steps p.tables e below (T9.setTop (mkF m 18 #[rv a, rv w_INSETS_ANIMATION, .val (.long q), .second] [(.int 2), (.ref ca)])) _
    refine XS.iconst X9.here hx rfl (hb hby own_d5_18) ?_
    show Steps p.tables e below (T9.setTop (mkF m 19 #[rv a, rv w_INSETS_ANIMATION, .val (.long q), .second] [(.int 0), (.int 2), (.ref ca)])) _
    refine st12 _ ?_
    show Steps p.tables e below (T12.setTop (mkF m 20 #[rv a, rv w_INSETS_ANIMATION, .val (.long q), .second] [])) _
    refine XS.aloadN X12.here hx rfl (hb hby own_d5_20) rfl rfl ?_
    show Steps p.tables e below (T12.setTop (mkF m 21 #[rv a, rv w_INSETS_ANIMATION, .val (.long q), .second] [(.ref a)])) _
    refine XS.aloadN X12.here hx rfl (hb hby own_d5_21) rfl rfl ?_
    show Steps p.tables e below (T12.setTop (mkF m 22 #[rv a, rv w_INSETS_ANIMATION, .val (.long q), .second] [(.ref w_INSETS_ANIMATION), (.ref a)])) _
    refine st15.trans ?_
    show Steps p.tables e below (T15.setTop (mkF m 25 #[rv a, rv w_INSETS_ANIMATION, .val (.long q), .second] [(.int 2), (.ref a)])) _
    refine XS.iconst X15.here hx rfl (hb hby own_d5_25) ?_
    show Steps p.tables e below (T15.setTop (mkF m 26 #[rv a, rv w_INSETS_ANIMATION, .val (.long q), .second] [(.int 1), (.int 2), (.ref a)])) _
    refine XS.iadd X15.here hx rfl (hb hby own_d5_26) rfl ?_
    show Steps p.tables e below (T15.setTop (mkF m 27 #[rv a, rv w_INSETS_ANIMATION, .val (.long q), .second] [(.int ((2 : Int32) + (1 : Int32))), (.ref a)])) _
    refine own_top (v' := (.int 3)) (congrArg Value.int (by decide)) ?_
    show Steps p.tables e below (T15.setTop (mkF m 27 #[rv a, rv w_INSETS_ANIMATION, .val (.long q), .second] [(.int 3), (.ref a)])) _
    refine st18 _ ?_
    show Steps p.tables e below (T18.setTop (mkF m 30 #[rv a, rv w_INSETS_ANIMATION, .val (.long q), .second] [])) _
    exact X18.returnOut hx Bd.returns (hb hby own_d5_30) hr
  · show own_pb_INSETS_ANIMATION_Q Z w_INPUT w_ANIMATION w_INSETS_ANIMATION w_TRAVERSAL w_COMMIT a b ca kb kc q u1 u2 u3 u4 u5 u6 h0 n0 _ T18.heap _
    rw [e18]
    exact ⟨rfl, N18, kp20, f21, f22, f23, f24, f25, f26, f27, f28, Fw18⟩
theorem own_pb_TRAVERSAL_ef (m : MethodId) (w_TRAVERSAL : Addr) (a : Addr) (q : Int64) : entryFrame m #[(.ref a), (.ref w_TRAVERSAL), (.long q)] 4 = mkF m 0 #[rv a, rv w_TRAVERSAL, .val (.long q), .second] [] := by first | (simp [entryFrame, mkF, argsToLocals, Value.category]; done) | rfl
def own_pb_TRAVERSAL_Q (Z : State) (w_INPUT : Addr) (w_ANIMATION : Addr) (w_INSETS_ANIMATION : Addr) (w_TRAVERSAL : Addr) (w_COMMIT : Addr) (a : Addr) (b : Addr) (ca : Addr) (kb : ClassId) (kc : ClassId) (q : Int64) (u1 : Int64) (u2 : Int64) (u3 : Int64) (u4 : Int64) (u5 : Int64) (u6 : Int32) (h0 : Heap) (n0 : Nat) (v : Option Value) (h : Heap) (L : List Loc) : Prop := v = none ∧ Fr n0 L ∧ Keep h0 h [a, b, ca] ∧ Exa Z h a "com/example/vsyncopate/vsyncopate/frame/FrameTiming" ∧ Fld Z h a "com/example/vsyncopate/vsyncopate/frame/FrameTiming" "phaseBeganNanos" "[J" (.ref b) ∧ Fld Z h a "com/example/vsyncopate/vsyncopate/frame/FrameTiming" "phaseCallbacks" "[I" (.ref ca) ∧ Fld Z h a "com/example/vsyncopate/vsyncopate/frame/FrameTiming" "frameNumber" "J" (.long u1) ∧ Fld Z h a "com/example/vsyncopate/vsyncopate/frame/FrameTiming" "pulseTimeNanos" "J" (.long u2) ∧ Fld Z h a "com/example/vsyncopate/vsyncopate/frame/FrameTiming" "frameTimeNanos" "J" (.long u3) ∧ Fld Z h a "com/example/vsyncopate/vsyncopate/frame/FrameTiming" "skippedFrames" "J" (.long u4) ∧ Fld Z h a "com/example/vsyncopate/vsyncopate/frame/FrameTiming" "beganNanos" "J" (.long u5) ∧ Fld Z h a "com/example/vsyncopate/vsyncopate/frame/FrameTiming" "phasesBegun" "I" (.int 4)
set_option maxRecDepth 65536 in
set_option maxHeartbeats 40000000 in
theorem own_pb_TRAVERSAL (l : Launch) (Z : State) (a0 : Array Value) (hw : ∀ d ∈ tables_1, d.before a0 Z = true) (ws : List Jvm.Cond) (w_INPUT : Addr) (w_ANIMATION : Addr) (w_INSETS_ANIMATION : Addr) (w_TRAVERSAL : Addr) (w_COMMIT : Addr) (a : Addr) (b : Addr) (ca : Addr) (kb : ClassId) (kc : ClassId) (q : Int64) (u1 : Int64) (u2 : Int64) (u3 : Int64) (u4 : Int64) (u5 : Int64) (u6 : Int32) (h0 : Heap) (n0 : Nat) (O0 : Old Z n0 h0) (U_INPUT : own_En Z Z.heap "com/example/vsyncopate/vsyncopate/frame/FramePhase" "INPUT" "Lcom/example/vsyncopate/vsyncopate/frame/FramePhase;" w_INPUT (0 : Int32)) (U_ANIMATION : own_En Z Z.heap "com/example/vsyncopate/vsyncopate/frame/FramePhase" "ANIMATION" "Lcom/example/vsyncopate/vsyncopate/frame/FramePhase;" w_ANIMATION (1 : Int32)) (U_INSETS_ANIMATION : own_En Z Z.heap "com/example/vsyncopate/vsyncopate/frame/FramePhase" "INSETS_ANIMATION" "Lcom/example/vsyncopate/vsyncopate/frame/FramePhase;" w_INSETS_ANIMATION (2 : Int32)) (U_TRAVERSAL : own_En Z Z.heap "com/example/vsyncopate/vsyncopate/frame/FramePhase" "TRAVERSAL" "Lcom/example/vsyncopate/vsyncopate/frame/FramePhase;" w_TRAVERSAL (3 : Int32)) (U_COMMIT : own_En Z Z.heap "com/example/vsyncopate/vsyncopate/frame/FramePhase" "COMMIT" "Lcom/example/vsyncopate/vsyncopate/frame/FramePhase;" w_COMMIT (4 : Int32)) (S_PC : Sta Z Z.heap "com/example/vsyncopate/vsyncopate/frame/FrameTiming" "PHASE_COUNT" "I" (.int 5)) (g_a : n0 ≤ a) (E_a : Exa Z h0 a "com/example/vsyncopate/vsyncopate/frame/FrameTiming") (F_phaseBeganNanos : Fld Z h0 a "com/example/vsyncopate/vsyncopate/frame/FrameTiming" "phaseBeganNanos" "[J" (.ref b)) (F_phaseCallbacks : Fld Z h0 a "com/example/vsyncopate/vsyncopate/frame/FrameTiming" "phaseCallbacks" "[I" (.ref ca)) (F_frameNumber : Fld Z h0 a "com/example/vsyncopate/vsyncopate/frame/FrameTiming" "frameNumber" "J" (.long u1)) (F_pulseTimeNanos : Fld Z h0 a "com/example/vsyncopate/vsyncopate/frame/FrameTiming" "pulseTimeNanos" "J" (.long u2)) (F_frameTimeNanos : Fld Z h0 a "com/example/vsyncopate/vsyncopate/frame/FrameTiming" "frameTimeNanos" "J" (.long u3)) (F_skippedFrames : Fld Z h0 a "com/example/vsyncopate/vsyncopate/frame/FrameTiming" "skippedFrames" "J" (.long u4)) (F_beganNanos : Fld Z h0 a "com/example/vsyncopate/vsyncopate/frame/FrameTiming" "beganNanos" "J" (.long u5)) (F_phasesBegun : Fld Z h0 a "com/example/vsyncopate/vsyncopate/frame/FrameTiming" "phasesBegun" "I" (.int u6)) (g_b : n0 ≤ b) (g_c : n0 ≤ ca) (nba : b ≠ a) (nca : ca ≠ a) (nbc : b ≠ ca) (V_b : Arv Z h0 b kb .long (5 : Int32) [(.long 0), (.long 0), (.long 0), (.long 0), (.long 0)] (.long 0)) (V_c : Arv Z h0 ca kc .int (5 : Int32) [(.int 0), (.int 0), (.int 0), (.int 0), (.int 0)] (.int 0)) :
    MetFree l (⟨"com/example/vsyncopate/vsyncopate/frame/FrameTiming", "phaseBegins", "(Lcom/example/vsyncopate/vsyncopate/frame/FramePhase;J)V"⟩ : MethodName) (head1 (Jvm.Cond.code (⟨"com/example/vsyncopate/vsyncopate/frame/FrameTiming", "phaseBegins", "(Lcom/example/vsyncopate/vsyncopate/frame/FramePhase;J)V"⟩ : MethodName) prog_20_method_13_code 4 none :: ws) ({ frames := 1, cells := 0, slots := 0, locals := 13 } : Room)) (fun ar U => ar = #[(.ref a), (.ref w_TRAVERSAL), (.long q)] ∧ Z.Warmed39 U.vm ∧ U.heap = h0) (fun _ _ _ _ _ => True) (fun _ U oc U' => ∃ v L, oc = .returned v ∧ own_pb_TRAVERSAL_Q Z w_INPUT w_ANIMATION w_INSETS_ANIMATION w_TRAVERSAL w_COMMIT a b ca kb kc q u1 u2 u3 u4 u5 u6 h0 n0 v U'.heap L ∧ FrameEnd U oc U' L ({ frames := 1, cells := 0, slots := 0, locals := 13 } : Room).cells ({ frames := 1, cells := 0, slots := 0, locals := 13 } : Room).slots) := by
  refine MetFree.of_bodySF (plainFor_of_name own_pn2) hisR ?_
  intro p e s m args below meth c s₁ Bd hml0 hP hK
  obtain ⟨rfl, hZ, hh⟩ := hP
  have hx := Bd.exec
  have hby := Bd.bytes
  have hml : c.maxLocals = 4 := hml0
  have hown : s.vm.findClass "com/example/vsyncopate/vsyncopate/frame/FrameTiming" = some m.cls := findClass_of_methodNamed Bd.named
  have hnm := (name_of_methodNamed Bd.named Bd.method).1
  have X0 : Stand p l e ({ frames := 1, cells := 0, slots := 0, locals := 13 } : Room) s m #[(.ref a), (.ref w_TRAVERSAL), (.long q)] below meth c s₁ [] 0 0 := Stand.of_body Bd
  have e0 : s₁.heap = h0 := by rw [← hh, Bd.state]; rfl
  have N0 := Fr.nil n0
  have pre0 : ∀ t, Steps p.tables e below (s₁.setTop (mkF m 0 #[rv a, rv w_TRAVERSAL, .val (.long q), .second] [])) t → Steps p.tables e below (s₁.setTop (entryFrame m #[(.ref a), (.ref w_TRAVERSAL), (.long q)] 4)) t := fun t k => castTop (own_pb_TRAVERSAL_ef m w_TRAVERSAL a q) k
  have kp0 := Keep.refl h0 ([a, b, ca] : List Addr)
  obtain ⟨T1, X1, e1, st1⟩ := getF X0 hx hZ hown (host := "") (Or.inl (hw _ (own_m 20 rfl))) Via.refl e0 F_phaseBeganNanos (g := (mkF m 1 #[rv a, rv w_TRAVERSAL, .val (.long q), .second] [(.ref a)])) rfl rfl (hb hby own_d5_1)
  obtain ⟨cq2, kq2, q2a, q2b, q2c⟩ := isOf hZ e1 (U_TRAVERSAL.2.1.ext O0.2)
  obtain ⟨_, _, ⟨T2, L2, k2, n2⟩, -, X2, ⟨Lc2, hQ2, l2, y2, z2⟩, st2⟩ := X1.virtualBackUp hx (x := (⟨"com/example/vsyncopate/vsyncopate/frame/FramePhase", "ordinal", "()I"⟩ : MethodName)) (y := (⟨"java/lang/Enum", "ordinal", "()I"⟩ : MethodName)) (owner := "java/lang/Enum") hown (mvT hZ (hw _ (own_m 47 rfl))) (mvT hZ (hw _ (own_m 48 rfl))) (mvT hZ (hw _ (own_m 49 rfl))) (by decide) (mvT hZ (hw _ (own_m 51 rfl))) (mvT hZ (hw _ (own_m 50 rfl))) (backOf (W := 1) (own_o_TRAVERSAL l Z a0 hw [] w_INPUT w_ANIMATION w_INSETS_ANIMATION w_TRAVERSAL w_COMMIT  h0 n0 O0 U_INPUT U_ANIMATION U_INSETS_ANIMATION U_TRAVERSAL U_COMMIT S_PC ) hZ (hw _ (own_m 53 rfl)) (hw _ (own_m 52 rfl)) (by decide) (by decide)) q2a q2c (g := (mkF m 5 #[rv a, rv w_TRAVERSAL, .val (.long q), .second] [(.ref w_TRAVERSAL), (.ref b)])) rfl (by rw [hml]; rfl) (Steps.refl _) (argsL := []) (rest := [(.ref b)]) (lenOf own_pd0 rfl) rfl (by show 2 * 0 + _ ≤ _; exact Nat.le_of_eq rfl) (hb hby own_d5_5) (fun _ _ => ⟨rfl, e1, (by decide : 0 + 0 ≤ _), (by decide : 0 + 0 ≤ _)⟩)
  dsimp only [Pt.U, Pt.locs, Pt.cells, Pt.slots] at X2 l2 y2 z2 st2 hQ2
  subst l2 y2 z2
  obtain ⟨rfl, N2q, e2⟩ := hQ2
  have N2 := Fr.app N0 N2q
  obtain ⟨c3, c3A, c3q, c3S, c3N, c3H, c3G⟩ := id V_b
  have c3in : ¬ ((3 : Int32) < 0 ∨ c3.slots.size ≤ ((3 : Int32)).toNatClampNeg) := inb_of c3S ⟨by decide, by decide⟩
  obtain ⟨T4, h4, X4, e4, W4, st4⟩ := stJ X2 hx hZ e2 c3A (j := (3 : Int32)) c3in (g := (mkF m 9 #[rv a, rv w_TRAVERSAL, .val (.long q), .second] [(.long q), (.int 3), (.ref b)])) rfl rfl (hb hby own_d5_9)
  have V4 : Arv Z h4 b kb .long (5 : Int32) [(.long 0), (.long 0), (.long 0), (.long q), (.long 0)] (.long 0) := Arv.set c3A c3q c3S c3N c3H c3G rfl W4 3 rfl (Nat.le_of_ble_eq_true rfl)
  have O5 := O0.wr W4 g_b
  have kp6 := kp0.wr W4 (Or.inl (own_m 1 rfl))
  have N4 := Fr.snoc X4 N2 g_b
  have f7 := (F_phaseCallbacks.other W4 (Or.inl (Ne.symm nba)))
  obtain ⟨T8, X8, e8, st8⟩ := getF X4 hx hZ hown (host := "") (Or.inl (hw _ (own_m 23 rfl))) Via.refl e4 f7 (g := (mkF m 11 #[rv a, rv w_TRAVERSAL, .val (.long q), .second] [(.ref a)])) rfl rfl (hb hby own_d5_11)
  obtain ⟨cq9, kq9, q9a, q9b, q9c⟩ := isOf hZ e8 (U_TRAVERSAL.2.1.ext O5.2)
  obtain ⟨_, _, ⟨T9, L9, k9, n9⟩, -, X9, ⟨Lc9, hQ9, l9, y9, z9⟩, st9⟩ := X8.virtualBackUp hx (x := (⟨"com/example/vsyncopate/vsyncopate/frame/FramePhase", "ordinal", "()I"⟩ : MethodName)) (y := (⟨"java/lang/Enum", "ordinal", "()I"⟩ : MethodName)) (owner := "java/lang/Enum") hown (mvT hZ (hw _ (own_m 47 rfl))) (mvT hZ (hw _ (own_m 48 rfl))) (mvT hZ (hw _ (own_m 49 rfl))) (by decide) (mvT hZ (hw _ (own_m 51 rfl))) (mvT hZ (hw _ (own_m 50 rfl))) (backOf (W := 1) (own_o_TRAVERSAL l Z a0 hw [] w_INPUT w_ANIMATION w_INSETS_ANIMATION w_TRAVERSAL w_COMMIT  h4 n0 O5 U_INPUT U_ANIMATION U_INSETS_ANIMATION U_TRAVERSAL U_COMMIT S_PC ) hZ (hw _ (own_m 53 rfl)) (hw _ (own_m 52 rfl)) (by decide) (by decide)) q9a q9c (g := (mkF m 15 #[rv a, rv w_TRAVERSAL, .val (.long q), .second] [(.ref w_TRAVERSAL), (.ref ca)])) rfl (by rw [hml]; rfl) (Steps.refl _) (argsL := []) (rest := [(.ref ca)]) (lenOf own_pd0 rfl) rfl (by show 2 * 0 + _ ≤ _; exact Nat.le_of_eq rfl) (hb hby own_d5_15) (fun _ _ => ⟨rfl, e8, (by decide : 0 + 0 ≤ _), (by decide : 0 + 0 ≤ _)⟩)
  dsimp only [Pt.U, Pt.locs, Pt.cells, Pt.slots] at X9 l9 y9 z9 st9 hQ9
  subst l9 y9 z9
  obtain ⟨rfl, N9q, e9⟩ := hQ9
  have N9 := Fr.app N4 N9q
  have f10 := (V_c.other W4 (Ne.symm nbc))
  obtain ⟨c11, c11A, c11q, c11S, c11N, c11H, c11G⟩ := id f10
  have c11in : ¬ ((3 : Int32) < 0 ∨ c11.slots.size ≤ ((3 : Int32)).toNatClampNeg) := inb_of c11S ⟨by decide, by decide⟩
  obtain ⟨T12, h12, X12, e12, W12, st12⟩ := stI X9 hx hZ e9 c11A (j := (3 : Int32)) c11in (g := (mkF m 19 #[rv a, rv w_TRAVERSAL, .val (.long q), .second] [(.int 0), (.int 3), (.ref ca)])) rfl rfl (hb hby own_d5_19)
  have V12 : Arv Z h12 ca kc .int (5 : Int32) [(.int 0), (.int 0), (.int 0), (.int 0), (.int 0)] (.int 0) := Arv.set c11A c11q c11S c11N c11H c11G rfl W12 3 rfl (Nat.le_of_ble_eq_true rfl)
  have O13 := O5.wr W12 g_c
  have kp14 := kp6.wr W12 (Or.inl (own_m 2 rfl))
  have N12 := Fr.snoc X12 N9 g_c
  obtain ⟨cq15, kq15, q15a, q15b, q15c⟩ := isOf hZ e12 (U_TRAVERSAL.2.1.ext O13.2)
  obtain ⟨_, _, ⟨T15, L15, k15, n15⟩, -, X15, ⟨Lc15, hQ15, l15, y15, z15⟩, st15⟩ := X12.virtualBackUp hx (x := (⟨"com/example/vsyncopate/vsyncopate/frame/FramePhase", "ordinal", "()I"⟩ : MethodName)) (y := (⟨"java/lang/Enum", "ordinal", "()I"⟩ : MethodName)) (owner := "java/lang/Enum") hown (mvT hZ (hw _ (own_m 47 rfl))) (mvT hZ (hw _ (own_m 48 rfl))) (mvT hZ (hw _ (own_m 49 rfl))) (by decide) (mvT hZ (hw _ (own_m 51 rfl))) (mvT hZ (hw _ (own_m 50 rfl))) (backOf (W := 1) (own_o_TRAVERSAL l Z a0 hw [] w_INPUT w_ANIMATION w_INSETS_ANIMATION w_TRAVERSAL w_COMMIT  h12 n0 O13 U_INPUT U_ANIMATION U_INSETS_ANIMATION U_TRAVERSAL U_COMMIT S_PC ) hZ (hw _ (own_m 53 rfl)) (hw _ (own_m 52 rfl)) (by decide) (by decide)) q15a q15c (g := (mkF m 22 #[rv a, rv w_TRAVERSAL, .val (.long q), .second] [(.ref w_TRAVERSAL), (.ref a)])) rfl (by rw [hml]; rfl) (Steps.refl _) (argsL := []) (rest := [(.ref a)]) (lenOf own_pd0 rfl) rfl (by show 2 * 0 + _ ≤ _; exact Nat.le_of_eq rfl) (hb hby own_d5_22) (fun _ _ => ⟨rfl, e12, (by decide : 0 + 0 ≤ _), (by decide : 0 + 0 ≤ _)⟩)
  dsimp only [Pt.U, Pt.locs, Pt.cells, Pt.slots] at X15 l15 y15 z15 st15 hQ15
  subst l15 y15 z15
  obtain ⟨rfl, N15q, e15⟩ := hQ15
  have N15 := Fr.app N12 N15q
  have f16 := ((F_phasesBegun.other W4 (Or.inl (Ne.symm nba))).other W12 (Or.inl (Ne.symm nca)))
  have f17 := ((E_a.wr W4).wr W12)
  obtain ⟨T18, h18, X18, e18, W18, st18⟩ := putF X15 hx hZ hown (host := "") (Or.inl (hw _ (own_m 40 rfl))) Via.refl e15 f16 f17 (Or.inl (hw _ (own_m 41 rfl))) (hw _ (own_m 9 rfl)) (ty := .int) (by decide) rfl rfl (g := (mkF m 27 #[rv a, rv w_TRAVERSAL, .val (.long q), .second] [(.int 4), (.ref a)])) rfl rfl (hb hby own_d5_27)
  have Fw18 := f16.same W18
  have O19 := O13.wr W18 g_a
  have kp20 := kp14.wr W18 (Or.inl (own_m 0 rfl))
  have N18 := Fr.snoc X18 N15 g_a
  have f21 := (f17.wr W18)
  have f22 := (((F_phaseBeganNanos.other W4 (Or.inl (Ne.symm nba))).other W12 (Or.inl (Ne.symm nca))).other W18 (Or.inr (slot_ne (Or.inr (hw _ (own_m 21 rfl))) (Or.inl (hw _ (own_m 41 rfl))) (by decide) (t := (.array .long)) (t' := .int) (by decide) (by decide))))
  have f23 := ((f7.other W12 (Or.inl (Ne.symm nca))).other W18 (Or.inr (slot_ne (Or.inr (hw _ (own_m 24 rfl))) (Or.inl (hw _ (own_m 41 rfl))) (by decide) (t := (.array .int)) (t' := .int) (by decide) (by decide))))
  have f24 := (((F_frameNumber.other W4 (Or.inl (Ne.symm nba))).other W12 (Or.inl (Ne.symm nca))).other W18 (Or.inr (slot_ne (Or.inl (hw _ (own_m 31 rfl))) (Or.inl (hw _ (own_m 41 rfl))) (by decide) (t := .long) (t' := .int) (by decide) (by decide))))
  have f25 := (((F_pulseTimeNanos.other W4 (Or.inl (Ne.symm nba))).other W12 (Or.inl (Ne.symm nca))).other W18 (Or.inr (slot_ne (Or.inl (hw _ (own_m 33 rfl))) (Or.inl (hw _ (own_m 41 rfl))) (by decide) (t := .long) (t' := .int) (by decide) (by decide))))
  have f26 := (((F_frameTimeNanos.other W4 (Or.inl (Ne.symm nba))).other W12 (Or.inl (Ne.symm nca))).other W18 (Or.inr (slot_ne (Or.inl (hw _ (own_m 35 rfl))) (Or.inl (hw _ (own_m 41 rfl))) (by decide) (t := .long) (t' := .int) (by decide) (by decide))))
  have f27 := (((F_skippedFrames.other W4 (Or.inl (Ne.symm nba))).other W12 (Or.inl (Ne.symm nca))).other W18 (Or.inr (slot_ne (Or.inl (hw _ (own_m 37 rfl))) (Or.inl (hw _ (own_m 41 rfl))) (by decide) (t := .long) (t' := .int) (by decide) (by decide))))
  have f28 := (((F_beganNanos.other W4 (Or.inl (Ne.symm nba))).other W12 (Or.inl (Ne.symm nca))).other W18 (Or.inr (slot_ne (Or.inl (hw _ (own_m 39 rfl))) (Or.inl (hw _ (own_m 41 rfl))) (by decide) (t := .long) (t' := .int) (by decide) (by decide))))
  obtain ⟨fs, hr, hrun, hended, hW, hsame⟩ := X18.leave (v := none) (fun _ => rfl)
  refine ⟨_, _, pre0 _ ?_, hrun, hended, _, _, rfl, ?_, ⟨_, rfl⟩, hW, hsame.mono (by decide) (by decide)⟩
  · show Steps p.tables e below (s₁.setTop (mkF m 0 #[rv a, rv w_TRAVERSAL, .val (.long q), .second] [])) _
    refine XS.aloadN X0.here hx rfl (hb hby own_d5_0) rfl rfl ?_
    show Steps p.tables e below (s₁.setTop (mkF m 1 #[rv a, rv w_TRAVERSAL, .val (.long q), .second] [(.ref a)])) _
    refine st1 _ ?_
    show Steps p.tables e below (T1.setTop (mkF m 4 #[rv a, rv w_TRAVERSAL, .val (.long q), .second] [(.ref b)])) _
    refine XS.aloadN X1.here hx rfl (hb hby own_d5_4) rfl rfl ?_
    show Steps p.tables e below (T1.setTop (mkF m 5 #[rv a, rv w_TRAVERSAL, .val (.long q), .second] [(.ref w_TRAVERSAL), (.ref b)])) _
    refine st2.trans ?_
    show Steps p.tables e below (T2.setTop (mkF m 8 #[rv a, rv w_TRAVERSAL, .val (.long q), .second] [(.int 3), (.ref b)])) _
    refine XS.lloadN X2.here hx rfl (hb hby own_d5_8) rfl ?_
    show Steps p.tables e below (T2.setTop (mkF m 9 #[rv a, rv w_TRAVERSAL, .val (.long q), .second] [(.long q), (.int 3), (.ref b)])) _
    refine st4 _ ?_
    show Steps p.tables e below (T4.setTop (mkF m 10 #[rv a, rv w_TRAVERSAL, .val (.long q), .second] [])) _
    refine XS.aloadN X4.here hx rfl (hb hby own_d5_10) rfl rfl ?_
    show Steps p.tables e below (T4.setTop (mkF m 11 #[rv a, rv w_TRAVERSAL, .val (.long q), .second] [(.ref a)])) _
    refine st8 _ ?_
    show Steps p.tables e below (T8.setTop (mkF m 14 #[rv a, rv w_TRAVERSAL, .val (.long q), .second] [(.ref ca)])) _
    refine XS.aloadN X8.here hx rfl (hb hby own_d5_14) rfl rfl ?_
    show Steps p.tables e below (T8.setTop (mkF m 15 #[rv a, rv w_TRAVERSAL, .val (.long q), .second] [(.ref w_TRAVERSAL), (.ref ca)])) _
    refine st9.trans ?_
    show Steps p.tables e below (T9.setTop (mkF m 18 #[rv a, rv w_TRAVERSAL, .val (.long q), .second] [(.int 3), (.ref ca)])) _
    refine XS.iconst X9.here hx rfl (hb hby own_d5_18) ?_
    show Steps p.tables e below (T9.setTop (mkF m 19 #[rv a, rv w_TRAVERSAL, .val (.long q), .second] [(.int 0), (.int 3), (.ref ca)])) _
    refine st12 _ ?_
    show Steps p.tables e below (T12.setTop (mkF m 20 #[rv a, rv w_TRAVERSAL, .val (.long q), .second] [])) _
    refine XS.aloadN X12.here hx rfl (hb hby own_d5_20) rfl rfl ?_
    show Steps p.tables e below (T12.setTop (mkF m 21 #[rv a, rv w_TRAVERSAL, .val (.long q), .second] [(.ref a)])) _
    refine XS.aloadN X12.here hx rfl (hb hby own_d5_21) rfl rfl ?_
    show Steps p.tables e below (T12.setTop (mkF m 22 #[rv a, rv w_TRAVERSAL, .val (.long q), .second] [(.ref w_TRAVERSAL), (.ref a)])) _
    refine st15.trans ?_
    show Steps p.tables e below (T15.setTop (mkF m 25 #[rv a, rv w_TRAVERSAL, .val (.long q), .second] [(.int 3), (.ref a)])) _
    refine XS.iconst X15.here hx rfl (hb hby own_d5_25) ?_
    show Steps p.tables e below (T15.setTop (mkF m 26 #[rv a, rv w_TRAVERSAL, .val (.long q), .second] [(.int 1), (.int 3), (.ref a)])) _
    refine XS.iadd X15.here hx rfl (hb hby own_d5_26) rfl ?_
    show Steps p.tables e below (T15.setTop (mkF m 27 #[rv a, rv w_TRAVERSAL, .val (.long q), .second] [(.int ((3 : Int32) + (1 : Int32))), (.ref a)])) _
    refine own_top (v' := (.int 4)) (congrArg Value.int (by decide)) ?_
    show Steps p.tables e below (T15.setTop (mkF m 27 #[rv a, rv w_TRAVERSAL, .val (.long q), .second] [(.int 4), (.ref a)])) _
    refine st18 _ ?_
    show Steps p.tables e below (T18.setTop (mkF m 30 #[rv a, rv w_TRAVERSAL, .val (.long q), .second] [])) _
    exact X18.returnOut hx Bd.returns (hb hby own_d5_30) hr
  · show own_pb_TRAVERSAL_Q Z w_INPUT w_ANIMATION w_INSETS_ANIMATION w_TRAVERSAL w_COMMIT a b ca kb kc q u1 u2 u3 u4 u5 u6 h0 n0 _ T18.heap _
    rw [e18]
    exact ⟨rfl, N18, kp20, f21, f22, f23, f24, f25, f26, f27, f28, Fw18⟩
theorem own_pb_COMMIT_ef (m : MethodId) (w_COMMIT : Addr) (a : Addr) (q : Int64) : entryFrame m #[(.ref a), (.ref w_COMMIT), (.long q)] 4 = mkF m 0 #[rv a, rv w_COMMIT, .val (.long q), .second] [] := by first | (simp [entryFrame, mkF, argsToLocals, Value.category]; done) | rfl
def own_pb_COMMIT_Q (Z : State) (w_INPUT : Addr) (w_ANIMATION : Addr) (w_INSETS_ANIMATION : Addr) (w_TRAVERSAL : Addr) (w_COMMIT : Addr) (a : Addr) (b : Addr) (ca : Addr) (kb : ClassId) (kc : ClassId) (q : Int64) (u1 : Int64) (u2 : Int64) (u3 : Int64) (u4 : Int64) (u5 : Int64) (u6 : Int32) (h0 : Heap) (n0 : Nat) (v : Option Value) (h : Heap) (L : List Loc) : Prop := v = none ∧ Fr n0 L ∧ Keep h0 h [a, b, ca] ∧ Exa Z h a "com/example/vsyncopate/vsyncopate/frame/FrameTiming" ∧ Fld Z h a "com/example/vsyncopate/vsyncopate/frame/FrameTiming" "phaseBeganNanos" "[J" (.ref b) ∧ Fld Z h a "com/example/vsyncopate/vsyncopate/frame/FrameTiming" "phaseCallbacks" "[I" (.ref ca) ∧ Fld Z h a "com/example/vsyncopate/vsyncopate/frame/FrameTiming" "frameNumber" "J" (.long u1) ∧ Fld Z h a "com/example/vsyncopate/vsyncopate/frame/FrameTiming" "pulseTimeNanos" "J" (.long u2) ∧ Fld Z h a "com/example/vsyncopate/vsyncopate/frame/FrameTiming" "frameTimeNanos" "J" (.long u3) ∧ Fld Z h a "com/example/vsyncopate/vsyncopate/frame/FrameTiming" "skippedFrames" "J" (.long u4) ∧ Fld Z h a "com/example/vsyncopate/vsyncopate/frame/FrameTiming" "beganNanos" "J" (.long u5) ∧ Fld Z h a "com/example/vsyncopate/vsyncopate/frame/FrameTiming" "phasesBegun" "I" (.int 5)
set_option maxRecDepth 65536 in
set_option maxHeartbeats 40000000 in
theorem own_pb_COMMIT (l : Launch) (Z : State) (a0 : Array Value) (hw : ∀ d ∈ tables_1, d.before a0 Z = true) (ws : List Jvm.Cond) (w_INPUT : Addr) (w_ANIMATION : Addr) (w_INSETS_ANIMATION : Addr) (w_TRAVERSAL : Addr) (w_COMMIT : Addr) (a : Addr) (b : Addr) (ca : Addr) (kb : ClassId) (kc : ClassId) (q : Int64) (u1 : Int64) (u2 : Int64) (u3 : Int64) (u4 : Int64) (u5 : Int64) (u6 : Int32) (h0 : Heap) (n0 : Nat) (O0 : Old Z n0 h0) (U_INPUT : own_En Z Z.heap "com/example/vsyncopate/vsyncopate/frame/FramePhase" "INPUT" "Lcom/example/vsyncopate/vsyncopate/frame/FramePhase;" w_INPUT (0 : Int32)) (U_ANIMATION : own_En Z Z.heap "com/example/vsyncopate/vsyncopate/frame/FramePhase" "ANIMATION" "Lcom/example/vsyncopate/vsyncopate/frame/FramePhase;" w_ANIMATION (1 : Int32)) (U_INSETS_ANIMATION : own_En Z Z.heap "com/example/vsyncopate/vsyncopate/frame/FramePhase" "INSETS_ANIMATION" "Lcom/example/vsyncopate/vsyncopate/frame/FramePhase;" w_INSETS_ANIMATION (2 : Int32)) (U_TRAVERSAL : own_En Z Z.heap "com/example/vsyncopate/vsyncopate/frame/FramePhase" "TRAVERSAL" "Lcom/example/vsyncopate/vsyncopate/frame/FramePhase;" w_TRAVERSAL (3 : Int32)) (U_COMMIT : own_En Z Z.heap "com/example/vsyncopate/vsyncopate/frame/FramePhase" "COMMIT" "Lcom/example/vsyncopate/vsyncopate/frame/FramePhase;" w_COMMIT (4 : Int32)) (S_PC : Sta Z Z.heap "com/example/vsyncopate/vsyncopate/frame/FrameTiming" "PHASE_COUNT" "I" (.int 5)) (g_a : n0 ≤ a) (E_a : Exa Z h0 a "com/example/vsyncopate/vsyncopate/frame/FrameTiming") (F_phaseBeganNanos : Fld Z h0 a "com/example/vsyncopate/vsyncopate/frame/FrameTiming" "phaseBeganNanos" "[J" (.ref b)) (F_phaseCallbacks : Fld Z h0 a "com/example/vsyncopate/vsyncopate/frame/FrameTiming" "phaseCallbacks" "[I" (.ref ca)) (F_frameNumber : Fld Z h0 a "com/example/vsyncopate/vsyncopate/frame/FrameTiming" "frameNumber" "J" (.long u1)) (F_pulseTimeNanos : Fld Z h0 a "com/example/vsyncopate/vsyncopate/frame/FrameTiming" "pulseTimeNanos" "J" (.long u2)) (F_frameTimeNanos : Fld Z h0 a "com/example/vsyncopate/vsyncopate/frame/FrameTiming" "frameTimeNanos" "J" (.long u3)) (F_skippedFrames : Fld Z h0 a "com/example/vsyncopate/vsyncopate/frame/FrameTiming" "skippedFrames" "J" (.long u4)) (F_beganNanos : Fld Z h0 a "com/example/vsyncopate/vsyncopate/frame/FrameTiming" "beganNanos" "J" (.long u5)) (F_phasesBegun : Fld Z h0 a "com/example/vsyncopate/vsyncopate/frame/FrameTiming" "phasesBegun" "I" (.int u6)) (g_b : n0 ≤ b) (g_c : n0 ≤ ca) (nba : b ≠ a) (nca : ca ≠ a) (nbc : b ≠ ca) (V_b : Arv Z h0 b kb .long (5 : Int32) [(.long 0), (.long 0), (.long 0), (.long 0), (.long 0)] (.long 0)) (V_c : Arv Z h0 ca kc .int (5 : Int32) [(.int 0), (.int 0), (.int 0), (.int 0), (.int 0)] (.int 0)) :
    MetFree l (⟨"com/example/vsyncopate/vsyncopate/frame/FrameTiming", "phaseBegins", "(Lcom/example/vsyncopate/vsyncopate/frame/FramePhase;J)V"⟩ : MethodName) (head1 (Jvm.Cond.code (⟨"com/example/vsyncopate/vsyncopate/frame/FrameTiming", "phaseBegins", "(Lcom/example/vsyncopate/vsyncopate/frame/FramePhase;J)V"⟩ : MethodName) prog_20_method_13_code 4 none :: ws) ({ frames := 1, cells := 0, slots := 0, locals := 13 } : Room)) (fun ar U => ar = #[(.ref a), (.ref w_COMMIT), (.long q)] ∧ Z.Warmed39 U.vm ∧ U.heap = h0) (fun _ _ _ _ _ => True) (fun _ U oc U' => ∃ v L, oc = .returned v ∧ own_pb_COMMIT_Q Z w_INPUT w_ANIMATION w_INSETS_ANIMATION w_TRAVERSAL w_COMMIT a b ca kb kc q u1 u2 u3 u4 u5 u6 h0 n0 v U'.heap L ∧ FrameEnd U oc U' L ({ frames := 1, cells := 0, slots := 0, locals := 13 } : Room).cells ({ frames := 1, cells := 0, slots := 0, locals := 13 } : Room).slots) := by
  refine MetFree.of_bodySF (plainFor_of_name own_pn2) hisR ?_
  intro p e s m args below meth c s₁ Bd hml0 hP hK
  obtain ⟨rfl, hZ, hh⟩ := hP
  have hx := Bd.exec
  have hby := Bd.bytes
  have hml : c.maxLocals = 4 := hml0
  have hown : s.vm.findClass "com/example/vsyncopate/vsyncopate/frame/FrameTiming" = some m.cls := findClass_of_methodNamed Bd.named
  have hnm := (name_of_methodNamed Bd.named Bd.method).1
  have X0 : Stand p l e ({ frames := 1, cells := 0, slots := 0, locals := 13 } : Room) s m #[(.ref a), (.ref w_COMMIT), (.long q)] below meth c s₁ [] 0 0 := Stand.of_body Bd
  have e0 : s₁.heap = h0 := by rw [← hh, Bd.state]; rfl
  have N0 := Fr.nil n0
  have pre0 : ∀ t, Steps p.tables e below (s₁.setTop (mkF m 0 #[rv a, rv w_COMMIT, .val (.long q), .second] [])) t → Steps p.tables e below (s₁.setTop (entryFrame m #[(.ref a), (.ref w_COMMIT), (.long q)] 4)) t := fun t k => castTop (own_pb_COMMIT_ef m w_COMMIT a q) k
  have kp0 := Keep.refl h0 ([a, b, ca] : List Addr)
  obtain ⟨T1, X1, e1, st1⟩ := getF X0 hx hZ hown (host := "") (Or.inl (hw _ (own_m 20 rfl))) Via.refl e0 F_phaseBeganNanos (g := (mkF m 1 #[rv a, rv w_COMMIT, .val (.long q), .second] [(.ref a)])) rfl rfl (hb hby own_d5_1)
  obtain ⟨cq2, kq2, q2a, q2b, q2c⟩ := isOf hZ e1 (U_COMMIT.2.1.ext O0.2)
  obtain ⟨_, _, ⟨T2, L2, k2, n2⟩, -, X2, ⟨Lc2, hQ2, l2, y2, z2⟩, st2⟩ := X1.virtualBackUp hx (x := (⟨"com/example/vsyncopate/vsyncopate/frame/FramePhase", "ordinal", "()I"⟩ : MethodName)) (y := (⟨"java/lang/Enum", "ordinal", "()I"⟩ : MethodName)) (owner := "java/lang/Enum") hown (mvT hZ (hw _ (own_m 47 rfl))) (mvT hZ (hw _ (own_m 48 rfl))) (mvT hZ (hw _ (own_m 49 rfl))) (by decide) (mvT hZ (hw _ (own_m 51 rfl))) (mvT hZ (hw _ (own_m 50 rfl))) (backOf (W := 1) (own_o_COMMIT l Z a0 hw [] w_INPUT w_ANIMATION w_INSETS_ANIMATION w_TRAVERSAL w_COMMIT  h0 n0 O0 U_INPUT U_ANIMATION U_INSETS_ANIMATION U_TRAVERSAL U_COMMIT S_PC ) hZ (hw _ (own_m 53 rfl)) (hw _ (own_m 52 rfl)) (by decide) (by decide)) q2a q2c (g := (mkF m 5 #[rv a, rv w_COMMIT, .val (.long q), .second] [(.ref w_COMMIT), (.ref b)])) rfl (by rw [hml]; rfl) (Steps.refl _) (argsL := []) (rest := [(.ref b)]) (lenOf own_pd0 rfl) rfl (by show 2 * 0 + _ ≤ _; exact Nat.le_of_eq rfl) (hb hby own_d5_5) (fun _ _ => ⟨rfl, e1, (by decide : 0 + 0 ≤ _), (by decide : 0 + 0 ≤ _)⟩)
  dsimp only [Pt.U, Pt.locs, Pt.cells, Pt.slots] at X2 l2 y2 z2 st2 hQ2
  subst l2 y2 z2
  obtain ⟨rfl, N2q, e2⟩ := hQ2
  have N2 := Fr.app N0 N2q
  obtain ⟨c3, c3A, c3q, c3S, c3N, c3H, c3G⟩ := id V_b
  have c3in : ¬ ((4 : Int32) < 0 ∨ c3.slots.size ≤ ((4 : Int32)).toNatClampNeg) := inb_of c3S ⟨by decide, by decide⟩
  obtain ⟨T4, h4, X4, e4, W4, st4⟩ := stJ X2 hx hZ e2 c3A (j := (4 : Int32)) c3in (g := (mkF m 9 #[rv a, rv w_COMMIT, .val (.long q), .second] [(.long q), (.int 4), (.ref b)])) rfl rfl (hb hby own_d5_9)
  have V4 : Arv Z h4 b kb .long (5 : Int32) [(.long 0), (.long 0), (.long 0), (.long 0), (.long q)] (.long 0) := Arv.set c3A c3q c3S c3N c3H c3G rfl W4 4 rfl (Nat.le_of_ble_eq_true rfl)
  have O5 := O0.wr W4 g_b
  have kp6 := kp0.wr W4 (Or.inl (own_m 1 rfl))
  have N4 := Fr.snoc X4 N2 g_b
  have f7 := (F_phaseCallbacks.other W4 (Or.inl (Ne.symm nba)))
  obtain ⟨T8, X8, e8, st8⟩ := getF X4 hx hZ hown (host := "") (Or.inl (hw _ (own_m 23 rfl))) Via.refl e4 f7 (g := (mkF m 11 #[rv a, rv w_COMMIT, .val (.long q), .second] [(.ref a)])) rfl rfl (hb hby own_d5_11)
  obtain ⟨cq9, kq9, q9a, q9b, q9c⟩ := isOf hZ e8 (U_COMMIT.2.1.ext O5.2)
  obtain ⟨_, _, ⟨T9, L9, k9, n9⟩, -, X9, ⟨Lc9, hQ9, l9, y9, z9⟩, st9⟩ := X8.virtualBackUp hx (x := (⟨"com/example/vsyncopate/vsyncopate/frame/FramePhase", "ordinal", "()I"⟩ : MethodName)) (y := (⟨"java/lang/Enum", "ordinal", "()I"⟩ : MethodName)) (owner := "java/lang/Enum") hown (mvT hZ (hw _ (own_m 47 rfl))) (mvT hZ (hw _ (own_m 48 rfl))) (mvT hZ (hw _ (own_m 49 rfl))) (by decide) (mvT hZ (hw _ (own_m 51 rfl))) (mvT hZ (hw _ (own_m 50 rfl))) (backOf (W := 1) (own_o_COMMIT l Z a0 hw [] w_INPUT w_ANIMATION w_INSETS_ANIMATION w_TRAVERSAL w_COMMIT  h4 n0 O5 U_INPUT U_ANIMATION U_INSETS_ANIMATION U_TRAVERSAL U_COMMIT S_PC ) hZ (hw _ (own_m 53 rfl)) (hw _ (own_m 52 rfl)) (by decide) (by decide)) q9a q9c (g := (mkF m 15 #[rv a, rv w_COMMIT, .val (.long q), .second] [(.ref w_COMMIT), (.ref ca)])) rfl (by rw [hml]; rfl) (Steps.refl _) (argsL := []) (rest := [(.ref ca)]) (lenOf own_pd0 rfl) rfl (by show 2 * 0 + _ ≤ _; exact Nat.le_of_eq rfl) (hb hby own_d5_15) (fun _ _ => ⟨rfl, e8, (by decide : 0 + 0 ≤ _), (by decide : 0 + 0 ≤ _)⟩)
  dsimp only [Pt.U, Pt.locs, Pt.cells, Pt.slots] at X9 l9 y9 z9 st9 hQ9
  subst l9 y9 z9
  obtain ⟨rfl, N9q, e9⟩ := hQ9
  have N9 := Fr.app N4 N9q
  have f10 := (V_c.other W4 (Ne.symm nbc))
  obtain ⟨c11, c11A, c11q, c11S, c11N, c11H, c11G⟩ := id f10
  have c11in : ¬ ((4 : Int32) < 0 ∨ c11.slots.size ≤ ((4 : Int32)).toNatClampNeg) := inb_of c11S ⟨by decide, by decide⟩
  obtain ⟨T12, h12, X12, e12, W12, st12⟩ := stI X9 hx hZ e9 c11A (j := (4 : Int32)) c11in (g := (mkF m 19 #[rv a, rv w_COMMIT, .val (.long q), .second] [(.int 0), (.int 4), (.ref ca)])) rfl rfl (hb hby own_d5_19)
  have V12 : Arv Z h12 ca kc .int (5 : Int32) [(.int 0), (.int 0), (.int 0), (.int 0), (.int 0)] (.int 0) := Arv.set c11A c11q c11S c11N c11H c11G rfl W12 4 rfl (Nat.le_of_ble_eq_true rfl)
  have O13 := O5.wr W12 g_c
  have kp14 := kp6.wr W12 (Or.inl (own_m 2 rfl))
  have N12 := Fr.snoc X12 N9 g_c
  obtain ⟨cq15, kq15, q15a, q15b, q15c⟩ := isOf hZ e12 (U_COMMIT.2.1.ext O13.2)
  obtain ⟨_, _, ⟨T15, L15, k15, n15⟩, -, X15, ⟨Lc15, hQ15, l15, y15, z15⟩, st15⟩ := X12.virtualBackUp hx (x := (⟨"com/example/vsyncopate/vsyncopate/frame/FramePhase", "ordinal", "()I"⟩ : MethodName)) (y := (⟨"java/lang/Enum", "ordinal", "()I"⟩ : MethodName)) (owner := "java/lang/Enum") hown (mvT hZ (hw _ (own_m 47 rfl))) (mvT hZ (hw _ (own_m 48 rfl))) (mvT hZ (hw _ (own_m 49 rfl))) (by decide) (mvT hZ (hw _ (own_m 51 rfl))) (mvT hZ (hw _ (own_m 50 rfl))) (backOf (W := 1) (own_o_COMMIT l Z a0 hw [] w_INPUT w_ANIMATION w_INSETS_ANIMATION w_TRAVERSAL w_COMMIT  h12 n0 O13 U_INPUT U_ANIMATION U_INSETS_ANIMATION U_TRAVERSAL U_COMMIT S_PC ) hZ (hw _ (own_m 53 rfl)) (hw _ (own_m 52 rfl)) (by decide) (by decide)) q15a q15c (g := (mkF m 22 #[rv a, rv w_COMMIT, .val (.long q), .second] [(.ref w_COMMIT), (.ref a)])) rfl (by rw [hml]; rfl) (Steps.refl _) (argsL := []) (rest := [(.ref a)]) (lenOf own_pd0 rfl) rfl (by show 2 * 0 + _ ≤ _; exact Nat.le_of_eq rfl) (hb hby own_d5_22) (fun _ _ => ⟨rfl, e12, (by decide : 0 + 0 ≤ _), (by decide : 0 + 0 ≤ _)⟩)
  dsimp only [Pt.U, Pt.locs, Pt.cells, Pt.slots] at X15 l15 y15 z15 st15 hQ15
  subst l15 y15 z15
  obtain ⟨rfl, N15q, e15⟩ := hQ15
  have N15 := Fr.app N12 N15q
  have f16 := ((F_phasesBegun.other W4 (Or.inl (Ne.symm nba))).other W12 (Or.inl (Ne.symm nca)))
  have f17 := ((E_a.wr W4).wr W12)
  obtain ⟨T18, h18, X18, e18, W18, st18⟩ := putF X15 hx hZ hown (host := "") (Or.inl (hw _ (own_m 40 rfl))) Via.refl e15 f16 f17 (Or.inl (hw _ (own_m 41 rfl))) (hw _ (own_m 9 rfl)) (ty := .int) (by decide) rfl rfl (g := (mkF m 27 #[rv a, rv w_COMMIT, .val (.long q), .second] [(.int 5), (.ref a)])) rfl rfl (hb hby own_d5_27)
  have Fw18 := f16.same W18
  have O19 := O13.wr W18 g_a
  have kp20 := kp14.wr W18 (Or.inl (own_m 0 rfl))
  have N18 := Fr.snoc X18 N15 g_a
  have f21 := (f17.wr W18)
  have f22 := (((F_phaseBeganNanos.other W4 (Or.inl (Ne.symm nba))).other W12 (Or.inl (Ne.symm nca))).other W18 (Or.inr (slot_ne (Or.inr (hw _ (own_m 21 rfl))) (Or.inl (hw _ (own_m 41 rfl))) (by decide) (t := (.array .long)) (t' := .int) (by decide) (by decide))))
  have f23 := ((f7.other W12 (Or.inl (Ne.symm nca))).other W18 (Or.inr (slot_ne (Or.inr (hw _ (own_m 24 rfl))) (Or.inl (hw _ (own_m 41 rfl))) (by decide) (t := (.array .int)) (t' := .int) (by decide) (by decide))))
  have f24 := (((F_frameNumber.other W4 (Or.inl (Ne.symm nba))).other W12 (Or.inl (Ne.symm nca))).other W18 (Or.inr (slot_ne (Or.inl (hw _ (own_m 31 rfl))) (Or.inl (hw _ (own_m 41 rfl))) (by decide) (t := .long) (t' := .int) (by decide) (by decide))))
  have f25 := (((F_pulseTimeNanos.other W4 (Or.inl (Ne.symm nba))).other W12 (Or.inl (Ne.symm nca))).other W18 (Or.inr (slot_ne (Or.inl (hw _ (own_m 33 rfl))) (Or.inl (hw _ (own_m 41 rfl))) (by decide) (t := .long) (t' := .int) (by decide) (by decide))))
  have f26 := (((F_frameTimeNanos.other W4 (Or.inl (Ne.symm nba))).other W12 (Or.inl (Ne.symm nca))).other W18 (Or.inr (slot_ne (Or.inl (hw _ (own_m 35 rfl))) (Or.inl (hw _ (own_m 41 rfl))) (by decide) (t := .long) (t' := .int) (by decide) (by decide))))
  have f27 := (((F_skippedFrames.other W4 (Or.inl (Ne.symm nba))).other W12 (Or.inl (Ne.symm nca))).other W18 (Or.inr (slot_ne (Or.inl (hw _ (own_m 37 rfl))) (Or.inl (hw _ (own_m 41 rfl))) (by decide) (t := .long) (t' := .int) (by decide) (by decide))))
  have f28 := (((F_beganNanos.other W4 (Or.inl (Ne.symm nba))).other W12 (Or.inl (Ne.symm nca))).other W18 (Or.inr (slot_ne (Or.inl (hw _ (own_m 39 rfl))) (Or.inl (hw _ (own_m 41 rfl))) (by decide) (t := .long) (t' := .int) (by decide) (by decide))))
  obtain ⟨fs, hr, hrun, hended, hW, hsame⟩ := X18.leave (v := none) (fun _ => rfl)
  refine ⟨_, _, pre0 _ ?_, hrun, hended, _, _, rfl, ?_, ⟨_, rfl⟩, hW, hsame.mono (by decide) (by decide)⟩
  · show Steps p.tables e below (s₁.setTop (mkF m 0 #[rv a, rv w_COMMIT, .val (.long q), .second] [])) _
    refine XS.aloadN X0.here hx rfl (hb hby own_d5_0) rfl rfl ?_
    show Steps p.tables e below (s₁.setTop (mkF m 1 #[rv a, rv w_COMMIT, .val (.long q), .second] [(.ref a)])) _
    refine st1 _ ?_
    show Steps p.tables e below (T1.setTop (mkF m 4 #[rv a, rv w_COMMIT, .val (.long q), .second] [(.ref b)])) _
    refine XS.aloadN X1.here hx rfl (hb hby own_d5_4) rfl rfl ?_
    show Steps p.tables e below (T1.setTop (mkF m 5 #[rv a, rv w_COMMIT, .val (.long q), .second] [(.ref w_COMMIT), (.ref b)])) _
    refine st2.trans ?_
    show Steps p.tables e below (T2.setTop (mkF m 8 #[rv a, rv w_COMMIT, .val (.long q), .second] [(.int 4), (.ref b)])) _
    refine XS.lloadN X2.here hx rfl (hb hby own_d5_8) rfl ?_
    show Steps p.tables e below (T2.setTop (mkF m 9 #[rv a, rv w_COMMIT, .val (.long q), .second] [(.long q), (.int 4), (.ref b)])) _
    refine st4 _ ?_
    show Steps p.tables e below (T4.setTop (mkF m 10 #[rv a, rv w_COMMIT, .val (.long q), .second] [])) _
    refine XS.aloadN X4.here hx rfl (hb hby own_d5_10) rfl rfl ?_
    show Steps p.tables e below (T4.setTop (mkF m 11 #[rv a, rv w_COMMIT, .val (.long q), .second] [(.ref a)])) _
    refine st8 _ ?_
    show Steps p.tables e below (T8.setTop (mkF m 14 #[rv a, rv w_COMMIT, .val (.long q), .second] [(.ref ca)])) _
    refine XS.aloadN X8.here hx rfl (hb hby own_d5_14) rfl rfl ?_
    show Steps p.tables e below (T8.setTop (mkF m 15 #[rv a, rv w_COMMIT, .val (.long q), .second] [(.ref w_COMMIT), (.ref ca)])) _
    refine st9.trans ?_
    show Steps p.tables e below (T9.setTop (mkF m 18 #[rv a, rv w_COMMIT, .val (.long q), .second] [(.int 4), (.ref ca)])) _
    refine XS.iconst X9.here hx rfl (hb hby own_d5_18) ?_
    show Steps p.tables e below (T9.setTop (mkF m 19 #[rv a, rv w_COMMIT, .val (.long q), .second] [(.int 0), (.int 4), (.ref ca)])) _
    refine st12 _ ?_
    show Steps p.tables e below (T12.setTop (mkF m 20 #[rv a, rv w_COMMIT, .val (.long q), .second] [])) _
    refine XS.aloadN X12.here hx rfl (hb hby own_d5_20) rfl rfl ?_
    show Steps p.tables e below (T12.setTop (mkF m 21 #[rv a, rv w_COMMIT, .val (.long q), .second] [(.ref a)])) _
    refine XS.aloadN X12.here hx rfl (hb hby own_d5_21) rfl rfl ?_
    show Steps p.tables e below (T12.setTop (mkF m 22 #[rv a, rv w_COMMIT, .val (.long q), .second] [(.ref w_COMMIT), (.ref a)])) _
    refine st15.trans ?_
    show Steps p.tables e below (T15.setTop (mkF m 25 #[rv a, rv w_COMMIT, .val (.long q), .second] [(.int 4), (.ref a)])) _
    refine XS.iconst X15.here hx rfl (hb hby own_d5_25) ?_
    show Steps p.tables e below (T15.setTop (mkF m 26 #[rv a, rv w_COMMIT, .val (.long q), .second] [(.int 1), (.int 4), (.ref a)])) _
    refine XS.iadd X15.here hx rfl (hb hby own_d5_26) rfl ?_
    show Steps p.tables e below (T15.setTop (mkF m 27 #[rv a, rv w_COMMIT, .val (.long q), .second] [(.int ((4 : Int32) + (1 : Int32))), (.ref a)])) _
    refine own_top (v' := (.int 5)) (congrArg Value.int (by decide)) ?_
    show Steps p.tables e below (T15.setTop (mkF m 27 #[rv a, rv w_COMMIT, .val (.long q), .second] [(.int 5), (.ref a)])) _
    refine st18 _ ?_
    show Steps p.tables e below (T18.setTop (mkF m 30 #[rv a, rv w_COMMIT, .val (.long q), .second] [])) _
    exact X18.returnOut hx Bd.returns (hb hby own_d5_30) hr
  · show own_pb_COMMIT_Q Z w_INPUT w_ANIMATION w_INSETS_ANIMATION w_TRAVERSAL w_COMMIT a b ca kb kc q u1 u2 u3 u4 u5 u6 h0 n0 _ T18.heap _
    rw [e18]
    exact ⟨rfl, N18, kp20, f21, f22, f23, f24, f25, f26, f27, f28, Fw18⟩
theorem own_g_frameNumber_ef (m : MethodId) (a : Addr) : entryFrame m #[(.ref a)] 1 = mkF m 0 #[rv a] [] := by first | (simp [entryFrame, mkF, argsToLocals, Value.category]; done) | rfl
def own_g_frameNumber_Q (Z : State) (w_INPUT : Addr) (w_ANIMATION : Addr) (w_INSETS_ANIMATION : Addr) (w_TRAVERSAL : Addr) (w_COMMIT : Addr) (a : Addr) (u : Int64) (h0 : Heap) (n0 : Nat) (v : Option Value) (h : Heap) (L : List Loc) : Prop := v = some (.long u) ∧ Fr n0 L ∧ h = h0
set_option maxRecDepth 65536 in
set_option maxHeartbeats 40000000 in
theorem own_g_frameNumber (l : Launch) (Z : State) (a0 : Array Value) (hw : ∀ d ∈ tables_1, d.before a0 Z = true) (ws : List Jvm.Cond) (w_INPUT : Addr) (w_ANIMATION : Addr) (w_INSETS_ANIMATION : Addr) (w_TRAVERSAL : Addr) (w_COMMIT : Addr) (a : Addr) (u : Int64) (h0 : Heap) (n0 : Nat) (O0 : Old Z n0 h0) (U_INPUT : own_En Z Z.heap "com/example/vsyncopate/vsyncopate/frame/FramePhase" "INPUT" "Lcom/example/vsyncopate/vsyncopate/frame/FramePhase;" w_INPUT (0 : Int32)) (U_ANIMATION : own_En Z Z.heap "com/example/vsyncopate/vsyncopate/frame/FramePhase" "ANIMATION" "Lcom/example/vsyncopate/vsyncopate/frame/FramePhase;" w_ANIMATION (1 : Int32)) (U_INSETS_ANIMATION : own_En Z Z.heap "com/example/vsyncopate/vsyncopate/frame/FramePhase" "INSETS_ANIMATION" "Lcom/example/vsyncopate/vsyncopate/frame/FramePhase;" w_INSETS_ANIMATION (2 : Int32)) (U_TRAVERSAL : own_En Z Z.heap "com/example/vsyncopate/vsyncopate/frame/FramePhase" "TRAVERSAL" "Lcom/example/vsyncopate/vsyncopate/frame/FramePhase;" w_TRAVERSAL (3 : Int32)) (U_COMMIT : own_En Z Z.heap "com/example/vsyncopate/vsyncopate/frame/FramePhase" "COMMIT" "Lcom/example/vsyncopate/vsyncopate/frame/FramePhase;" w_COMMIT (4 : Int32)) (S_PC : Sta Z Z.heap "com/example/vsyncopate/vsyncopate/frame/FrameTiming" "PHASE_COUNT" "I" (.int 5)) (F_a : Fld Z h0 a "com/example/vsyncopate/vsyncopate/frame/FrameTiming" "frameNumber" "J" (.long u)) :
    MetFree l (⟨"com/example/vsyncopate/vsyncopate/frame/FrameTiming", "frameNumber", "()J"⟩ : MethodName) (head1 (Jvm.Cond.code (⟨"com/example/vsyncopate/vsyncopate/frame/FrameTiming", "frameNumber", "()J"⟩ : MethodName) prog_20_method_2_code 1 (some .long) :: ws) ({ frames := 0, cells := 0, slots := 0, locals := 0 } : Room)) (fun ar U => ar = #[(.ref a)] ∧ Z.Warmed39 U.vm ∧ U.heap = h0) (fun _ _ _ _ _ => True) (fun _ U oc U' => ∃ v L, oc = .returned v ∧ own_g_frameNumber_Q Z w_INPUT w_ANIMATION w_INSETS_ANIMATION w_TRAVERSAL w_COMMIT a u h0 n0 v U'.heap L ∧ FrameEnd U oc U' L ({ frames := 0, cells := 0, slots := 0, locals := 0 } : Room).cells ({ frames := 0, cells := 0, slots := 0, locals := 0 } : Room).slots) := by
  refine MetFree.of_bodySF (plainFor_of_name own_pn2) hisR ?_
  intro p e s m args below meth c s₁ Bd hml0 hP hK
  obtain ⟨rfl, hZ, hh⟩ := hP
  have hx := Bd.exec
  have hby := Bd.bytes
  have hml : c.maxLocals = 1 := hml0
  have hown : s.vm.findClass "com/example/vsyncopate/vsyncopate/frame/FrameTiming" = some m.cls := findClass_of_methodNamed Bd.named
  have hnm := (name_of_methodNamed Bd.named Bd.method).1
  have X0 : Stand p l e ({ frames := 0, cells := 0, slots := 0, locals := 0 } : Room) s m #[(.ref a)] below meth c s₁ [] 0 0 := Stand.of_body Bd
  have e0 : s₁.heap = h0 := by rw [← hh, Bd.state]; rfl
  have N0 := Fr.nil n0
  have pre0 : ∀ t, Steps p.tables e below (s₁.setTop (mkF m 0 #[rv a] [])) t → Steps p.tables e below (s₁.setTop (entryFrame m #[(.ref a)] 1)) t := fun t k => castTop (own_g_frameNumber_ef m a) k
  obtain ⟨T1, X1, e1, st1⟩ := getF X0 hx hZ hown (host := "") (Or.inl (hw _ (own_m 30 rfl))) Via.refl e0 F_a (g := (mkF m 1 #[rv a] [(.ref a)])) rfl rfl (hb hby own_d7_1)
  obtain ⟨fs, hr, hrun, hended, hW, hsame⟩ := X1.leave (v := some (.long u)) (fun h => by rw [Bd.returns] at h; cases h)
  refine ⟨_, _, pre0 _ ?_, hrun, hended, _, _, rfl, ?_, ⟨_, rfl⟩, hW, hsame.mono (by decide) (by decide)⟩
  · show Steps p.tables e below (s₁.setTop (mkF m 0 #[rv a] [])) _
    refine XS.aloadN X0.here hx rfl (hb hby own_d7_0) rfl rfl ?_
    show Steps p.tables e below (s₁.setTop (mkF m 1 #[rv a] [(.ref a)])) _
    refine st1 _ ?_
    show Steps p.tables e below (T1.setTop (mkF m 4 #[rv a] [(.long u)])) _
    jvm_step X1.here [X1.here.top, hx, (hb hby own_d7_4), X1.method', Bd.returns, narrow]
    first | (intro acts; rw [hr _ acts rfl rfl rfl]) | rw [hr _ _ rfl rfl rfl]
    exact Steps.refl _
  · show own_g_frameNumber_Q Z w_INPUT w_ANIMATION w_INSETS_ANIMATION w_TRAVERSAL w_COMMIT a u h0 n0 _ T1.heap _
    rw [e1]
    exact ⟨rfl, N0, rfl⟩
theorem own_g_pulseTimeNanos_ef (m : MethodId) (a : Addr) : entryFrame m #[(.ref a)] 1 = mkF m 0 #[rv a] [] := by first | (simp [entryFrame, mkF, argsToLocals, Value.category]; done) | rfl
def own_g_pulseTimeNanos_Q (Z : State) (w_INPUT : Addr) (w_ANIMATION : Addr) (w_INSETS_ANIMATION : Addr) (w_TRAVERSAL : Addr) (w_COMMIT : Addr) (a : Addr) (u : Int64) (h0 : Heap) (n0 : Nat) (v : Option Value) (h : Heap) (L : List Loc) : Prop := v = some (.long u) ∧ Fr n0 L ∧ h = h0
set_option maxRecDepth 65536 in
set_option maxHeartbeats 40000000 in
theorem own_g_pulseTimeNanos (l : Launch) (Z : State) (a0 : Array Value) (hw : ∀ d ∈ tables_1, d.before a0 Z = true) (ws : List Jvm.Cond) (w_INPUT : Addr) (w_ANIMATION : Addr) (w_INSETS_ANIMATION : Addr) (w_TRAVERSAL : Addr) (w_COMMIT : Addr) (a : Addr) (u : Int64) (h0 : Heap) (n0 : Nat) (O0 : Old Z n0 h0) (U_INPUT : own_En Z Z.heap "com/example/vsyncopate/vsyncopate/frame/FramePhase" "INPUT" "Lcom/example/vsyncopate/vsyncopate/frame/FramePhase;" w_INPUT (0 : Int32)) (U_ANIMATION : own_En Z Z.heap "com/example/vsyncopate/vsyncopate/frame/FramePhase" "ANIMATION" "Lcom/example/vsyncopate/vsyncopate/frame/FramePhase;" w_ANIMATION (1 : Int32)) (U_INSETS_ANIMATION : own_En Z Z.heap "com/example/vsyncopate/vsyncopate/frame/FramePhase" "INSETS_ANIMATION" "Lcom/example/vsyncopate/vsyncopate/frame/FramePhase;" w_INSETS_ANIMATION (2 : Int32)) (U_TRAVERSAL : own_En Z Z.heap "com/example/vsyncopate/vsyncopate/frame/FramePhase" "TRAVERSAL" "Lcom/example/vsyncopate/vsyncopate/frame/FramePhase;" w_TRAVERSAL (3 : Int32)) (U_COMMIT : own_En Z Z.heap "com/example/vsyncopate/vsyncopate/frame/FramePhase" "COMMIT" "Lcom/example/vsyncopate/vsyncopate/frame/FramePhase;" w_COMMIT (4 : Int32)) (S_PC : Sta Z Z.heap "com/example/vsyncopate/vsyncopate/frame/FrameTiming" "PHASE_COUNT" "I" (.int 5)) (F_a : Fld Z h0 a "com/example/vsyncopate/vsyncopate/frame/FrameTiming" "pulseTimeNanos" "J" (.long u)) :
    MetFree l (⟨"com/example/vsyncopate/vsyncopate/frame/FrameTiming", "pulseTimeNanos", "()J"⟩ : MethodName) (head1 (Jvm.Cond.code (⟨"com/example/vsyncopate/vsyncopate/frame/FrameTiming", "pulseTimeNanos", "()J"⟩ : MethodName) prog_20_method_3_code 1 (some .long) :: ws) ({ frames := 0, cells := 0, slots := 0, locals := 0 } : Room)) (fun ar U => ar = #[(.ref a)] ∧ Z.Warmed39 U.vm ∧ U.heap = h0) (fun _ _ _ _ _ => True) (fun _ U oc U' => ∃ v L, oc = .returned v ∧ own_g_pulseTimeNanos_Q Z w_INPUT w_ANIMATION w_INSETS_ANIMATION w_TRAVERSAL w_COMMIT a u h0 n0 v U'.heap L ∧ FrameEnd U oc U' L ({ frames := 0, cells := 0, slots := 0, locals := 0 } : Room).cells ({ frames := 0, cells := 0, slots := 0, locals := 0 } : Room).slots) := by
  refine MetFree.of_bodySF (plainFor_of_name own_pn2) hisR ?_
  intro p e s m args below meth c s₁ Bd hml0 hP hK
  obtain ⟨rfl, hZ, hh⟩ := hP
  have hx := Bd.exec
  have hby := Bd.bytes
  have hml : c.maxLocals = 1 := hml0
  have hown : s.vm.findClass "com/example/vsyncopate/vsyncopate/frame/FrameTiming" = some m.cls := findClass_of_methodNamed Bd.named
  have hnm := (name_of_methodNamed Bd.named Bd.method).1
  have X0 : Stand p l e ({ frames := 0, cells := 0, slots := 0, locals := 0 } : Room) s m #[(.ref a)] below meth c s₁ [] 0 0 := Stand.of_body Bd
  have e0 : s₁.heap = h0 := by rw [← hh, Bd.state]; rfl
  have N0 := Fr.nil n0
  have pre0 : ∀ t, Steps p.tables e below (s₁.setTop (mkF m 0 #[rv a] [])) t → Steps p.tables e below (s₁.setTop (entryFrame m #[(.ref a)] 1)) t := fun t k => castTop (own_g_pulseTimeNanos_ef m a) k
  obtain ⟨T1, X1, e1, st1⟩ := getF X0 hx hZ hown (host := "") (Or.inl (hw _ (own_m 32 rfl))) Via.refl e0 F_a (g := (mkF m 1 #[rv a] [(.ref a)])) rfl rfl (hb hby own_d8_1)
  obtain ⟨fs, hr, hrun, hended, hW, hsame⟩ := X1.leave (v := some (.long u)) (fun h => by rw [Bd.returns] at h; cases h)
  refine ⟨_, _, pre0 _ ?_, hrun, hended, _, _, rfl, ?_, ⟨_, rfl⟩, hW, hsame.mono (by decide) (by decide)⟩
  · show Steps p.tables e below (s₁.setTop (mkF m 0 #[rv a] [])) _
    refine XS.aloadN X0.here hx rfl (hb hby own_d8_0) rfl rfl ?_
    show Steps p.tables e below (s₁.setTop (mkF m 1 #[rv a] [(.ref a)])) _
    refine st1 _ ?_
    show Steps p.tables e below (T1.setTop (mkF m 4 #[rv a] [(.long u)])) _
    jvm_step X1.here [X1.here.top, hx, (hb hby own_d8_4), X1.method', Bd.returns, narrow]
    first | (intro acts; rw [hr _ acts rfl rfl rfl]) | rw [hr _ _ rfl rfl rfl]
    exact Steps.refl _
  · show own_g_pulseTimeNanos_Q Z w_INPUT w_ANIMATION w_INSETS_ANIMATION w_TRAVERSAL w_COMMIT a u h0 n0 _ T1.heap _
    rw [e1]
    exact ⟨rfl, N0, rfl⟩
theorem own_g_frameTimeNanos_ef (m : MethodId) (a : Addr) : entryFrame m #[(.ref a)] 1 = mkF m 0 #[rv a] [] := by first | (simp [entryFrame, mkF, argsToLocals, Value.category]; done) | rfl
def own_g_frameTimeNanos_Q (Z : State) (w_INPUT : Addr) (w_ANIMATION : Addr) (w_INSETS_ANIMATION : Addr) (w_TRAVERSAL : Addr) (w_COMMIT : Addr) (a : Addr) (u : Int64) (h0 : Heap) (n0 : Nat) (v : Option Value) (h : Heap) (L : List Loc) : Prop := v = some (.long u) ∧ Fr n0 L ∧ h = h0
set_option maxRecDepth 65536 in
set_option maxHeartbeats 40000000 in
theorem own_g_frameTimeNanos (l : Launch) (Z : State) (a0 : Array Value) (hw : ∀ d ∈ tables_1, d.before a0 Z = true) (ws : List Jvm.Cond) (w_INPUT : Addr) (w_ANIMATION : Addr) (w_INSETS_ANIMATION : Addr) (w_TRAVERSAL : Addr) (w_COMMIT : Addr) (a : Addr) (u : Int64) (h0 : Heap) (n0 : Nat) (O0 : Old Z n0 h0) (U_INPUT : own_En Z Z.heap "com/example/vsyncopate/vsyncopate/frame/FramePhase" "INPUT" "Lcom/example/vsyncopate/vsyncopate/frame/FramePhase;" w_INPUT (0 : Int32)) (U_ANIMATION : own_En Z Z.heap "com/example/vsyncopate/vsyncopate/frame/FramePhase" "ANIMATION" "Lcom/example/vsyncopate/vsyncopate/frame/FramePhase;" w_ANIMATION (1 : Int32)) (U_INSETS_ANIMATION : own_En Z Z.heap "com/example/vsyncopate/vsyncopate/frame/FramePhase" "INSETS_ANIMATION" "Lcom/example/vsyncopate/vsyncopate/frame/FramePhase;" w_INSETS_ANIMATION (2 : Int32)) (U_TRAVERSAL : own_En Z Z.heap "com/example/vsyncopate/vsyncopate/frame/FramePhase" "TRAVERSAL" "Lcom/example/vsyncopate/vsyncopate/frame/FramePhase;" w_TRAVERSAL (3 : Int32)) (U_COMMIT : own_En Z Z.heap "com/example/vsyncopate/vsyncopate/frame/FramePhase" "COMMIT" "Lcom/example/vsyncopate/vsyncopate/frame/FramePhase;" w_COMMIT (4 : Int32)) (S_PC : Sta Z Z.heap "com/example/vsyncopate/vsyncopate/frame/FrameTiming" "PHASE_COUNT" "I" (.int 5)) (F_a : Fld Z h0 a "com/example/vsyncopate/vsyncopate/frame/FrameTiming" "frameTimeNanos" "J" (.long u)) :
    MetFree l (⟨"com/example/vsyncopate/vsyncopate/frame/FrameTiming", "frameTimeNanos", "()J"⟩ : MethodName) (head1 (Jvm.Cond.code (⟨"com/example/vsyncopate/vsyncopate/frame/FrameTiming", "frameTimeNanos", "()J"⟩ : MethodName) prog_20_method_4_code 1 (some .long) :: ws) ({ frames := 0, cells := 0, slots := 0, locals := 0 } : Room)) (fun ar U => ar = #[(.ref a)] ∧ Z.Warmed39 U.vm ∧ U.heap = h0) (fun _ _ _ _ _ => True) (fun _ U oc U' => ∃ v L, oc = .returned v ∧ own_g_frameTimeNanos_Q Z w_INPUT w_ANIMATION w_INSETS_ANIMATION w_TRAVERSAL w_COMMIT a u h0 n0 v U'.heap L ∧ FrameEnd U oc U' L ({ frames := 0, cells := 0, slots := 0, locals := 0 } : Room).cells ({ frames := 0, cells := 0, slots := 0, locals := 0 } : Room).slots) := by
  refine MetFree.of_bodySF (plainFor_of_name own_pn2) hisR ?_
  intro p e s m args below meth c s₁ Bd hml0 hP hK
  obtain ⟨rfl, hZ, hh⟩ := hP
  have hx := Bd.exec
  have hby := Bd.bytes
  have hml : c.maxLocals = 1 := hml0
  have hown : s.vm.findClass "com/example/vsyncopate/vsyncopate/frame/FrameTiming" = some m.cls := findClass_of_methodNamed Bd.named
  have hnm := (name_of_methodNamed Bd.named Bd.method).1
  have X0 : Stand p l e ({ frames := 0, cells := 0, slots := 0, locals := 0 } : Room) s m #[(.ref a)] below meth c s₁ [] 0 0 := Stand.of_body Bd
  have e0 : s₁.heap = h0 := by rw [← hh, Bd.state]; rfl
  have N0 := Fr.nil n0
  have pre0 : ∀ t, Steps p.tables e below (s₁.setTop (mkF m 0 #[rv a] [])) t → Steps p.tables e below (s₁.setTop (entryFrame m #[(.ref a)] 1)) t := fun t k => castTop (own_g_frameTimeNanos_ef m a) k
  obtain ⟨T1, X1, e1, st1⟩ := getF X0 hx hZ hown (host := "") (Or.inl (hw _ (own_m 34 rfl))) Via.refl e0 F_a (g := (mkF m 1 #[rv a] [(.ref a)])) rfl rfl (hb hby own_d9_1)
  obtain ⟨fs, hr, hrun, hended, hW, hsame⟩ := X1.leave (v := some (.long u)) (fun h => by rw [Bd.returns] at h; cases h)
  refine ⟨_, _, pre0 _ ?_, hrun, hended, _, _, rfl, ?_, ⟨_, rfl⟩, hW, hsame.mono (by decide) (by decide)⟩
  · show Steps p.tables e below (s₁.setTop (mkF m 0 #[rv a] [])) _
    refine XS.aloadN X0.here hx rfl (hb hby own_d9_0) rfl rfl ?_
    show Steps p.tables e below (s₁.setTop (mkF m 1 #[rv a] [(.ref a)])) _
    refine st1 _ ?_
    show Steps p.tables e below (T1.setTop (mkF m 4 #[rv a] [(.long u)])) _
    jvm_step X1.here [X1.here.top, hx, (hb hby own_d9_4), X1.method', Bd.returns, narrow]
    first | (intro acts; rw [hr _ acts rfl rfl rfl]) | rw [hr _ _ rfl rfl rfl]
    exact Steps.refl _
  · show own_g_frameTimeNanos_Q Z w_INPUT w_ANIMATION w_INSETS_ANIMATION w_TRAVERSAL w_COMMIT a u h0 n0 _ T1.heap _
    rw [e1]
    exact ⟨rfl, N0, rfl⟩
theorem own_g_skippedFrames_ef (m : MethodId) (a : Addr) : entryFrame m #[(.ref a)] 1 = mkF m 0 #[rv a] [] := by first | (simp [entryFrame, mkF, argsToLocals, Value.category]; done) | rfl
def own_g_skippedFrames_Q (Z : State) (w_INPUT : Addr) (w_ANIMATION : Addr) (w_INSETS_ANIMATION : Addr) (w_TRAVERSAL : Addr) (w_COMMIT : Addr) (a : Addr) (u : Int64) (h0 : Heap) (n0 : Nat) (v : Option Value) (h : Heap) (L : List Loc) : Prop := v = some (.long u) ∧ Fr n0 L ∧ h = h0
set_option maxRecDepth 65536 in
set_option maxHeartbeats 40000000 in
theorem own_g_skippedFrames (l : Launch) (Z : State) (a0 : Array Value) (hw : ∀ d ∈ tables_1, d.before a0 Z = true) (ws : List Jvm.Cond) (w_INPUT : Addr) (w_ANIMATION : Addr) (w_INSETS_ANIMATION : Addr) (w_TRAVERSAL : Addr) (w_COMMIT : Addr) (a : Addr) (u : Int64) (h0 : Heap) (n0 : Nat) (O0 : Old Z n0 h0) (U_INPUT : own_En Z Z.heap "com/example/vsyncopate/vsyncopate/frame/FramePhase" "INPUT" "Lcom/example/vsyncopate/vsyncopate/frame/FramePhase;" w_INPUT (0 : Int32)) (U_ANIMATION : own_En Z Z.heap "com/example/vsyncopate/vsyncopate/frame/FramePhase" "ANIMATION" "Lcom/example/vsyncopate/vsyncopate/frame/FramePhase;" w_ANIMATION (1 : Int32)) (U_INSETS_ANIMATION : own_En Z Z.heap "com/example/vsyncopate/vsyncopate/frame/FramePhase" "INSETS_ANIMATION" "Lcom/example/vsyncopate/vsyncopate/frame/FramePhase;" w_INSETS_ANIMATION (2 : Int32)) (U_TRAVERSAL : own_En Z Z.heap "com/example/vsyncopate/vsyncopate/frame/FramePhase" "TRAVERSAL" "Lcom/example/vsyncopate/vsyncopate/frame/FramePhase;" w_TRAVERSAL (3 : Int32)) (U_COMMIT : own_En Z Z.heap "com/example/vsyncopate/vsyncopate/frame/FramePhase" "COMMIT" "Lcom/example/vsyncopate/vsyncopate/frame/FramePhase;" w_COMMIT (4 : Int32)) (S_PC : Sta Z Z.heap "com/example/vsyncopate/vsyncopate/frame/FrameTiming" "PHASE_COUNT" "I" (.int 5)) (F_a : Fld Z h0 a "com/example/vsyncopate/vsyncopate/frame/FrameTiming" "skippedFrames" "J" (.long u)) :
    MetFree l (⟨"com/example/vsyncopate/vsyncopate/frame/FrameTiming", "skippedFrames", "()J"⟩ : MethodName) (head1 (Jvm.Cond.code (⟨"com/example/vsyncopate/vsyncopate/frame/FrameTiming", "skippedFrames", "()J"⟩ : MethodName) prog_20_method_5_code 1 (some .long) :: ws) ({ frames := 0, cells := 0, slots := 0, locals := 0 } : Room)) (fun ar U => ar = #[(.ref a)] ∧ Z.Warmed39 U.vm ∧ U.heap = h0) (fun _ _ _ _ _ => True) (fun _ U oc U' => ∃ v L, oc = .returned v ∧ own_g_skippedFrames_Q Z w_INPUT w_ANIMATION w_INSETS_ANIMATION w_TRAVERSAL w_COMMIT a u h0 n0 v U'.heap L ∧ FrameEnd U oc U' L ({ frames := 0, cells := 0, slots := 0, locals := 0 } : Room).cells ({ frames := 0, cells := 0, slots := 0, locals := 0 } : Room).slots) := by
  refine MetFree.of_bodySF (plainFor_of_name own_pn2) hisR ?_
  intro p e s m args below meth c s₁ Bd hml0 hP hK
  obtain ⟨rfl, hZ, hh⟩ := hP
  have hx := Bd.exec
  have hby := Bd.bytes
  have hml : c.maxLocals = 1 := hml0
  have hown : s.vm.findClass "com/example/vsyncopate/vsyncopate/frame/FrameTiming" = some m.cls := findClass_of_methodNamed Bd.named
  have hnm := (name_of_methodNamed Bd.named Bd.method).1
  have X0 : Stand p l e ({ frames := 0, cells := 0, slots := 0, locals := 0 } : Room) s m #[(.ref a)] below meth c s₁ [] 0 0 := Stand.of_body Bd
  have e0 : s₁.heap = h0 := by rw [← hh, Bd.state]; rfl
  have N0 := Fr.nil n0
  have pre0 : ∀ t, Steps p.tables e below (s₁.setTop (mkF m 0 #[rv a] [])) t → Steps p.tables e below (s₁.setTop (entryFrame m #[(.ref a)] 1)) t := fun t k => castTop (own_g_skippedFrames_ef m a) k
  obtain ⟨T1, X1, e1, st1⟩ := getF X0 hx hZ hown (host := "") (Or.inl (hw _ (own_m 36 rfl))) Via.refl e0 F_a (g := (mkF m 1 #[rv a] [(.ref a)])) rfl rfl (hb hby own_d10_1)
  obtain ⟨fs, hr, hrun, hended, hW, hsame⟩ := X1.leave (v := some (.long u)) (fun h => by rw [Bd.returns] at h; cases h)
  refine ⟨_, _, pre0 _ ?_, hrun, hended, _, _, rfl, ?_, ⟨_, rfl⟩, hW, hsame.mono (by decide) (by decide)⟩
  · show Steps p.tables e below (s₁.setTop (mkF m 0 #[rv a] [])) _
    refine XS.aloadN X0.here hx rfl (hb hby own_d10_0) rfl rfl ?_
    show Steps p.tables e below (s₁.setTop (mkF m 1 #[rv a] [(.ref a)])) _
    refine st1 _ ?_
    show Steps p.tables e below (T1.setTop (mkF m 4 #[rv a] [(.long u)])) _
    jvm_step X1.here [X1.here.top, hx, (hb hby own_d10_4), X1.method', Bd.returns, narrow]
    first | (intro acts; rw [hr _ acts rfl rfl rfl]) | rw [hr _ _ rfl rfl rfl]
    exact Steps.refl _
  · show own_g_skippedFrames_Q Z w_INPUT w_ANIMATION w_INSETS_ANIMATION w_TRAVERSAL w_COMMIT a u h0 n0 _ T1.heap _
    rw [e1]
    exact ⟨rfl, N0, rfl⟩
theorem own_g_beganNanos_ef (m : MethodId) (a : Addr) : entryFrame m #[(.ref a)] 1 = mkF m 0 #[rv a] [] := by first | (simp [entryFrame, mkF, argsToLocals, Value.category]; done) | rfl
def own_g_beganNanos_Q (Z : State) (w_INPUT : Addr) (w_ANIMATION : Addr) (w_INSETS_ANIMATION : Addr) (w_TRAVERSAL : Addr) (w_COMMIT : Addr) (a : Addr) (u : Int64) (h0 : Heap) (n0 : Nat) (v : Option Value) (h : Heap) (L : List Loc) : Prop := v = some (.long u) ∧ Fr n0 L ∧ h = h0
set_option maxRecDepth 65536 in
set_option maxHeartbeats 40000000 in
theorem own_g_beganNanos (l : Launch) (Z : State) (a0 : Array Value) (hw : ∀ d ∈ tables_1, d.before a0 Z = true) (ws : List Jvm.Cond) (w_INPUT : Addr) (w_ANIMATION : Addr) (w_INSETS_ANIMATION : Addr) (w_TRAVERSAL : Addr) (w_COMMIT : Addr) (a : Addr) (u : Int64) (h0 : Heap) (n0 : Nat) (O0 : Old Z n0 h0) (U_INPUT : own_En Z Z.heap "com/example/vsyncopate/vsyncopate/frame/FramePhase" "INPUT" "Lcom/example/vsyncopate/vsyncopate/frame/FramePhase;" w_INPUT (0 : Int32)) (U_ANIMATION : own_En Z Z.heap "com/example/vsyncopate/vsyncopate/frame/FramePhase" "ANIMATION" "Lcom/example/vsyncopate/vsyncopate/frame/FramePhase;" w_ANIMATION (1 : Int32)) (U_INSETS_ANIMATION : own_En Z Z.heap "com/example/vsyncopate/vsyncopate/frame/FramePhase" "INSETS_ANIMATION" "Lcom/example/vsyncopate/vsyncopate/frame/FramePhase;" w_INSETS_ANIMATION (2 : Int32)) (U_TRAVERSAL : own_En Z Z.heap "com/example/vsyncopate/vsyncopate/frame/FramePhase" "TRAVERSAL" "Lcom/example/vsyncopate/vsyncopate/frame/FramePhase;" w_TRAVERSAL (3 : Int32)) (U_COMMIT : own_En Z Z.heap "com/example/vsyncopate/vsyncopate/frame/FramePhase" "COMMIT" "Lcom/example/vsyncopate/vsyncopate/frame/FramePhase;" w_COMMIT (4 : Int32)) (S_PC : Sta Z Z.heap "com/example/vsyncopate/vsyncopate/frame/FrameTiming" "PHASE_COUNT" "I" (.int 5)) (F_a : Fld Z h0 a "com/example/vsyncopate/vsyncopate/frame/FrameTiming" "beganNanos" "J" (.long u)) :
    MetFree l (⟨"com/example/vsyncopate/vsyncopate/frame/FrameTiming", "beganNanos", "()J"⟩ : MethodName) (head1 (Jvm.Cond.code (⟨"com/example/vsyncopate/vsyncopate/frame/FrameTiming", "beganNanos", "()J"⟩ : MethodName) prog_20_method_6_code 1 (some .long) :: ws) ({ frames := 0, cells := 0, slots := 0, locals := 0 } : Room)) (fun ar U => ar = #[(.ref a)] ∧ Z.Warmed39 U.vm ∧ U.heap = h0) (fun _ _ _ _ _ => True) (fun _ U oc U' => ∃ v L, oc = .returned v ∧ own_g_beganNanos_Q Z w_INPUT w_ANIMATION w_INSETS_ANIMATION w_TRAVERSAL w_COMMIT a u h0 n0 v U'.heap L ∧ FrameEnd U oc U' L ({ frames := 0, cells := 0, slots := 0, locals := 0 } : Room).cells ({ frames := 0, cells := 0, slots := 0, locals := 0 } : Room).slots) := by
  refine MetFree.of_bodySF (plainFor_of_name own_pn2) hisR ?_
  intro p e s m args below meth c s₁ Bd hml0 hP hK
  obtain ⟨rfl, hZ, hh⟩ := hP
  have hx := Bd.exec
  have hby := Bd.bytes
  have hml : c.maxLocals = 1 := hml0
  have hown : s.vm.findClass "com/example/vsyncopate/vsyncopate/frame/FrameTiming" = some m.cls := findClass_of_methodNamed Bd.named
  have hnm := (name_of_methodNamed Bd.named Bd.method).1
  have X0 : Stand p l e ({ frames := 0, cells := 0, slots := 0, locals := 0 } : Room) s m #[(.ref a)] below meth c s₁ [] 0 0 := Stand.of_body Bd
  have e0 : s₁.heap = h0 := by rw [← hh, Bd.state]; rfl
  have N0 := Fr.nil n0
  have pre0 : ∀ t, Steps p.tables e below (s₁.setTop (mkF m 0 #[rv a] [])) t → Steps p.tables e below (s₁.setTop (entryFrame m #[(.ref a)] 1)) t := fun t k => castTop (own_g_beganNanos_ef m a) k
  obtain ⟨T1, X1, e1, st1⟩ := getF X0 hx hZ hown (host := "") (Or.inl (hw _ (own_m 38 rfl))) Via.refl e0 F_a (g := (mkF m 1 #[rv a] [(.ref a)])) rfl rfl (hb hby own_d11_1)
  obtain ⟨fs, hr, hrun, hended, hW, hsame⟩ := X1.leave (v := some (.long u)) (fun h => by rw [Bd.returns] at h; cases h)
  refine ⟨_, _, pre0 _ ?_, hrun, hended, _, _, rfl, ?_, ⟨_, rfl⟩, hW, hsame.mono (by decide) (by decide)⟩
  · show Steps p.tables e below (s₁.setTop (mkF m 0 #[rv a] [])) _
    refine XS.aloadN X0.here hx rfl (hb hby own_d11_0) rfl rfl ?_
    show Steps p.tables e below (s₁.setTop (mkF m 1 #[rv a] [(.ref a)])) _
    refine st1 _ ?_
    show Steps p.tables e below (T1.setTop (mkF m 4 #[rv a] [(.long u)])) _
    jvm_step X1.here [X1.here.top, hx, (hb hby own_d11_4), X1.method', Bd.returns, narrow]
    first | (intro acts; rw [hr _ acts rfl rfl rfl]) | rw [hr _ _ rfl rfl rfl]
    exact Steps.refl _
  · show own_g_beganNanos_Q Z w_INPUT w_ANIMATION w_INSETS_ANIMATION w_TRAVERSAL w_COMMIT a u h0 n0 _ T1.heap _
    rw [e1]
    exact ⟨rfl, N0, rfl⟩
theorem own_h_INPUT_ef (m : MethodId) (w_INPUT : Addr) (a : Addr) : entryFrame m #[(.ref a), (.ref w_INPUT)] 2 = mkF m 0 #[rv a, rv w_INPUT] [] := by first | (simp [entryFrame, mkF, argsToLocals, Value.category]; done) | rfl
def own_h_INPUT_Q (Z : State) (w_INPUT : Addr) (w_ANIMATION : Addr) (w_INSETS_ANIMATION : Addr) (w_TRAVERSAL : Addr) (w_COMMIT : Addr) (a : Addr) (h0 : Heap) (n0 : Nat) (v : Option Value) (h : Heap) (L : List Loc) : Prop := v = some (.int 0) ∧ Fr n0 L ∧ h = h0
set_option maxRecDepth 65536 in
set_option maxHeartbeats 40000000 in
theorem own_h_INPUT (l : Launch) (Z : State) (a0 : Array Value) (hw : ∀ d ∈ tables_1, d.before a0 Z = true) (ws : List Jvm.Cond) (w_INPUT : Addr) (w_ANIMATION : Addr) (w_INSETS_ANIMATION : Addr) (w_TRAVERSAL : Addr) (w_COMMIT : Addr) (a : Addr) (h0 : Heap) (n0 : Nat) (O0 : Old Z n0 h0) (U_INPUT : own_En Z Z.heap "com/example/vsyncopate/vsyncopate/frame/FramePhase" "INPUT" "Lcom/example/vsyncopate/vsyncopate/frame/FramePhase;" w_INPUT (0 : Int32)) (U_ANIMATION : own_En Z Z.heap "com/example/vsyncopate/vsyncopate/frame/FramePhase" "ANIMATION" "Lcom/example/vsyncopate/vsyncopate/frame/FramePhase;" w_ANIMATION (1 : Int32)) (U_INSETS_ANIMATION : own_En Z Z.heap "com/example/vsyncopate/vsyncopate/frame/FramePhase" "INSETS_ANIMATION" "Lcom/example/vsyncopate/vsyncopate/frame/FramePhase;" w_INSETS_ANIMATION (2 : Int32)) (U_TRAVERSAL : own_En Z Z.heap "com/example/vsyncopate/vsyncopate/frame/FramePhase" "TRAVERSAL" "Lcom/example/vsyncopate/vsyncopate/frame/FramePhase;" w_TRAVERSAL (3 : Int32)) (U_COMMIT : own_En Z Z.heap "com/example/vsyncopate/vsyncopate/frame/FramePhase" "COMMIT" "Lcom/example/vsyncopate/vsyncopate/frame/FramePhase;" w_COMMIT (4 : Int32)) (S_PC : Sta Z Z.heap "com/example/vsyncopate/vsyncopate/frame/FrameTiming" "PHASE_COUNT" "I" (.int 5)) (F_a : Fld Z h0 a "com/example/vsyncopate/vsyncopate/frame/FrameTiming" "phasesBegun" "I" (.int 0)) :
    MetFree l (⟨"com/example/vsyncopate/vsyncopate/frame/FrameTiming", "phaseBegan", "(Lcom/example/vsyncopate/vsyncopate/frame/FramePhase;)Z"⟩ : MethodName) (head1 (Jvm.Cond.code (⟨"com/example/vsyncopate/vsyncopate/frame/FrameTiming", "phaseBegan", "(Lcom/example/vsyncopate/vsyncopate/frame/FramePhase;)Z"⟩ : MethodName) prog_20_method_7_code 2 (some .boolean) :: ws) ({ frames := 1, cells := 0, slots := 0, locals := 12 } : Room)) (fun ar U => ar = #[(.ref a), (.ref w_INPUT)] ∧ Z.Warmed39 U.vm ∧ U.heap = h0) (fun _ _ _ _ _ => True) (fun _ U oc U' => ∃ v L, oc = .returned v ∧ own_h_INPUT_Q Z w_INPUT w_ANIMATION w_INSETS_ANIMATION w_TRAVERSAL w_COMMIT a h0 n0 v U'.heap L ∧ FrameEnd U oc U' L ({ frames := 1, cells := 0, slots := 0, locals := 12 } : Room).cells ({ frames := 1, cells := 0, slots := 0, locals := 12 } : Room).slots) := by
  refine MetFree.of_bodySF (plainFor_of_name own_pn2) hisR ?_
  intro p e s m args below meth c s₁ Bd hml0 hP hK
  obtain ⟨rfl, hZ, hh⟩ := hP
  have hx := Bd.exec
  have hby := Bd.bytes
  have hml : c.maxLocals = 2 := hml0
  have hown : s.vm.findClass "com/example/vsyncopate/vsyncopate/frame/FrameTiming" = some m.cls := findClass_of_methodNamed Bd.named
  have hnm := (name_of_methodNamed Bd.named Bd.method).1
  have X0 : Stand p l e ({ frames := 1, cells := 0, slots := 0, locals := 12 } : Room) s m #[(.ref a), (.ref w_INPUT)] below meth c s₁ [] 0 0 := Stand.of_body Bd
  have e0 : s₁.heap = h0 := by rw [← hh, Bd.state]; rfl
  have N0 := Fr.nil n0
  have pre0 : ∀ t, Steps p.tables e below (s₁.setTop (mkF m 0 #[rv a, rv w_INPUT] [])) t → Steps p.tables e below (s₁.setTop (entryFrame m #[(.ref a), (.ref w_INPUT)] 2)) t := fun t k => castTop (own_h_INPUT_ef m w_INPUT a) k
  obtain ⟨cq1, kq1, q1a, q1b, q1c⟩ := isOf hZ e0 (U_INPUT.2.1.ext O0.2)
  obtain ⟨_, _, ⟨T1, L1, k1, n1⟩, -, X1, ⟨Lc1, hQ1, l1, y1, z1⟩, st1⟩ := X0.virtualBackUp hx (x := (⟨"com/example/vsyncopate/vsyncopate/frame/FramePhase", "ordinal", "()I"⟩ : MethodName)) (y := (⟨"java/lang/Enum", "ordinal", "()I"⟩ : MethodName)) (owner := "java/lang/Enum") hown (mvT hZ (hw _ (own_m 47 rfl))) (mvT hZ (hw _ (own_m 48 rfl))) (mvT hZ (hw _ (own_m 49 rfl))) (by decide) (mvT hZ (hw _ (own_m 51 rfl))) (mvT hZ (hw _ (own_m 50 rfl))) (backOf (W := 0) (own_o_INPUT l Z a0 hw [] w_INPUT w_ANIMATION w_INSETS_ANIMATION w_TRAVERSAL w_COMMIT  h0 n0 O0 U_INPUT U_ANIMATION U_INSETS_ANIMATION U_TRAVERSAL U_COMMIT S_PC ) hZ (hw _ (own_m 53 rfl)) (hw _ (own_m 52 rfl)) (by decide) (by decide)) q1a q1c (g := (mkF m 1 #[rv a, rv w_INPUT] [(.ref w_INPUT)])) rfl (by rw [hml]; rfl) (Steps.refl _) (argsL := []) (rest := []) (lenOf own_pd0 rfl) rfl (by show 2 * 0 + _ ≤ _; exact Nat.le_of_eq rfl) (hb hby own_d12_1) (fun _ _ => ⟨rfl, e0, (by decide : 0 + 0 ≤ _), (by decide : 0 + 0 ≤ _)⟩)
  dsimp only [Pt.U, Pt.locs, Pt.cells, Pt.slots] at X1 l1 y1 z1 st1 hQ1
  subst l1 y1 z1
  obtain ⟨rfl, N1q, e1⟩ := hQ1
  have N1 := Fr.app N0 N1q
  obtain ⟨T2, X2, e2, st2⟩ := getF X1 hx hZ hown (host := "") (Or.inl (hw _ (own_m 40 rfl))) Via.refl e1 F_a (g := (mkF m 5 #[rv a, rv w_INPUT] [(.ref a), (.int 0)])) rfl rfl (hb hby own_d12_5)
  obtain ⟨fs, hr, hrun, hended, hW, hsame⟩ := X2.leave (v := some (.int 0)) (fun h => by rw [Bd.returns] at h; cases h)
  refine ⟨_, _, pre0 _ ?_, hrun, hended, _, _, rfl, ?_, ⟨_, rfl⟩, hW, hsame.mono (by decide) (by decide)⟩
  · show Steps p.tables e below (s₁.setTop (mkF m 0 #[rv a, rv w_INPUT] [])) _
    refine XS.aloadN X0.here hx rfl (hb hby own_d12_0) rfl rfl ?_
    show Steps p.tables e below (s₁.setTop (mkF m 1 #[rv a, rv w_INPUT] [(.ref w_INPUT)])) _
    refine st1.trans ?_
    show Steps p.tables e below (T1.setTop (mkF m 4 #[rv a, rv w_INPUT] [(.int 0)])) _
    refine XS.aloadN X1.here hx rfl (hb hby own_d12_4) rfl rfl ?_
    show Steps p.tables e below (T1.setTop (mkF m 5 #[rv a, rv w_INPUT] [(.ref a), (.int 0)])) _
    refine st2 _ ?_
    show Steps p.tables e below (T2.setTop (mkF m 8 #[rv a, rv w_INPUT] [(.int 0), (.int 0)])) _
    refine XS.icmpYes X2.here hx rfl (pc0 := 8) (pc' := 15) rfl (hb hby own_d12_8) rfl (flt (by decide)).2.1 (by decide) (by decide) ?_
    show Steps p.tables e below (T2.setTop (mkF m 15 #[rv a, rv w_INPUT] [])) _
    refine XS.iconst X2.here hx rfl (hb hby own_d12_15) ?_
    show Steps p.tables e below (T2.setTop (mkF m 16 #[rv a, rv w_INPUT] [(.int 0)])) _
    exact retN X2 hx (t := .boolean) Bd.returns (by simp) (hb hby own_d12_16) hr
  · show own_h_INPUT_Q Z w_INPUT w_ANIMATION w_INSETS_ANIMATION w_TRAVERSAL w_COMMIT a h0 n0 _ T2.heap _
    rw [e2]
    exact ⟨rfl, N1, rfl⟩
theorem own_h_ANIMATION_ef (m : MethodId) (w_ANIMATION : Addr) (a : Addr) : entryFrame m #[(.ref a), (.ref w_ANIMATION)] 2 = mkF m 0 #[rv a, rv w_ANIMATION] [] := by first | (simp [entryFrame, mkF, argsToLocals, Value.category]; done) | rfl
def own_h_ANIMATION_Q (Z : State) (w_INPUT : Addr) (w_ANIMATION : Addr) (w_INSETS_ANIMATION : Addr) (w_TRAVERSAL : Addr) (w_COMMIT : Addr) (a : Addr) (h0 : Heap) (n0 : Nat) (v : Option Value) (h : Heap) (L : List Loc) : Prop := v = some (.int 0) ∧ Fr n0 L ∧ h = h0
set_option maxRecDepth 65536 in
set_option maxHeartbeats 40000000 in
theorem own_h_ANIMATION (l : Launch) (Z : State) (a0 : Array Value) (hw : ∀ d ∈ tables_1, d.before a0 Z = true) (ws : List Jvm.Cond) (w_INPUT : Addr) (w_ANIMATION : Addr) (w_INSETS_ANIMATION : Addr) (w_TRAVERSAL : Addr) (w_COMMIT : Addr) (a : Addr) (h0 : Heap) (n0 : Nat) (O0 : Old Z n0 h0) (U_INPUT : own_En Z Z.heap "com/example/vsyncopate/vsyncopate/frame/FramePhase" "INPUT" "Lcom/example/vsyncopate/vsyncopate/frame/FramePhase;" w_INPUT (0 : Int32)) (U_ANIMATION : own_En Z Z.heap "com/example/vsyncopate/vsyncopate/frame/FramePhase" "ANIMATION" "Lcom/example/vsyncopate/vsyncopate/frame/FramePhase;" w_ANIMATION (1 : Int32)) (U_INSETS_ANIMATION : own_En Z Z.heap "com/example/vsyncopate/vsyncopate/frame/FramePhase" "INSETS_ANIMATION" "Lcom/example/vsyncopate/vsyncopate/frame/FramePhase;" w_INSETS_ANIMATION (2 : Int32)) (U_TRAVERSAL : own_En Z Z.heap "com/example/vsyncopate/vsyncopate/frame/FramePhase" "TRAVERSAL" "Lcom/example/vsyncopate/vsyncopate/frame/FramePhase;" w_TRAVERSAL (3 : Int32)) (U_COMMIT : own_En Z Z.heap "com/example/vsyncopate/vsyncopate/frame/FramePhase" "COMMIT" "Lcom/example/vsyncopate/vsyncopate/frame/FramePhase;" w_COMMIT (4 : Int32)) (S_PC : Sta Z Z.heap "com/example/vsyncopate/vsyncopate/frame/FrameTiming" "PHASE_COUNT" "I" (.int 5)) (F_a : Fld Z h0 a "com/example/vsyncopate/vsyncopate/frame/FrameTiming" "phasesBegun" "I" (.int 0)) :
    MetFree l (⟨"com/example/vsyncopate/vsyncopate/frame/FrameTiming", "phaseBegan", "(Lcom/example/vsyncopate/vsyncopate/frame/FramePhase;)Z"⟩ : MethodName) (head1 (Jvm.Cond.code (⟨"com/example/vsyncopate/vsyncopate/frame/FrameTiming", "phaseBegan", "(Lcom/example/vsyncopate/vsyncopate/frame/FramePhase;)Z"⟩ : MethodName) prog_20_method_7_code 2 (some .boolean) :: ws) ({ frames := 1, cells := 0, slots := 0, locals := 12 } : Room)) (fun ar U => ar = #[(.ref a), (.ref w_ANIMATION)] ∧ Z.Warmed39 U.vm ∧ U.heap = h0) (fun _ _ _ _ _ => True) (fun _ U oc U' => ∃ v L, oc = .returned v ∧ own_h_ANIMATION_Q Z w_INPUT w_ANIMATION w_INSETS_ANIMATION w_TRAVERSAL w_COMMIT a h0 n0 v U'.heap L ∧ FrameEnd U oc U' L ({ frames := 1, cells := 0, slots := 0, locals := 12 } : Room).cells ({ frames := 1, cells := 0, slots := 0, locals := 12 } : Room).slots) := by
  refine MetFree.of_bodySF (plainFor_of_name own_pn2) hisR ?_
  intro p e s m args below meth c s₁ Bd hml0 hP hK
  obtain ⟨rfl, hZ, hh⟩ := hP
  have hx := Bd.exec
  have hby := Bd.bytes
  have hml : c.maxLocals = 2 := hml0
  have hown : s.vm.findClass "com/example/vsyncopate/vsyncopate/frame/FrameTiming" = some m.cls := findClass_of_methodNamed Bd.named
  have hnm := (name_of_methodNamed Bd.named Bd.method).1
  have X0 : Stand p l e ({ frames := 1, cells := 0, slots := 0, locals := 12 } : Room) s m #[(.ref a), (.ref w_ANIMATION)] below meth c s₁ [] 0 0 := Stand.of_body Bd
  have e0 : s₁.heap = h0 := by rw [← hh, Bd.state]; rfl
  have N0 := Fr.nil n0
  have pre0 : ∀ t, Steps p.tables e below (s₁.setTop (mkF m 0 #[rv a, rv w_ANIMATION] [])) t → Steps p.tables e below (s₁.setTop (entryFrame m #[(.ref a), (.ref w_ANIMATION)] 2)) t := fun t k => castTop (own_h_ANIMATION_ef m w_ANIMATION a) k
  obtain ⟨cq1, kq1, q1a, q1b, q1c⟩ := isOf hZ e0 (U_ANIMATION.2.1.ext O0.2)
  obtain ⟨_, _, ⟨T1, L1, k1, n1⟩, -, X1, ⟨Lc1, hQ1, l1, y1, z1⟩, st1⟩ := X0.virtualBackUp hx (x := (⟨"com/example/vsyncopate/vsyncopate/frame/FramePhase", "ordinal", "()I"⟩ : MethodName)) (y := (⟨"java/lang/Enum", "ordinal", "()I"⟩ : MethodName)) (owner := "java/lang/Enum") hown (mvT hZ (hw _ (own_m 47 rfl))) (mvT hZ (hw _ (own_m 48 rfl))) (mvT hZ (hw _ (own_m 49 rfl))) (by decide) (mvT hZ (hw _ (own_m 51 rfl))) (mvT hZ (hw _ (own_m 50 rfl))) (backOf (W := 0) (own_o_ANIMATION l Z a0 hw [] w_INPUT w_ANIMATION w_INSETS_ANIMATION w_TRAVERSAL w_COMMIT  h0 n0 O0 U_INPUT U_ANIMATION U_INSETS_ANIMATION U_TRAVERSAL U_COMMIT S_PC ) hZ (hw _ (own_m 53 rfl)) (hw _ (own_m 52 rfl)) (by decide) (by decide)) q1a q1c (g := (mkF m 1 #[rv a, rv w_ANIMATION] [(.ref w_ANIMATION)])) rfl (by rw [hml]; rfl) (Steps.refl _) (argsL := []) (rest := []) (lenOf own_pd0 rfl) rfl (by show 2 * 0 + _ ≤ _; exact Nat.le_of_eq rfl) (hb hby own_d12_1) (fun _ _ => ⟨rfl, e0, (by decide : 0 + 0 ≤ _), (by decide : 0 + 0 ≤ _)⟩)
  dsimp only [Pt.U, Pt.locs, Pt.cells, Pt.slots] at X1 l1 y1 z1 st1 hQ1
  subst l1 y1 z1
  obtain ⟨rfl, N1q, e1⟩ := hQ1
  have N1 := Fr.app N0 N1q
  obtain ⟨T2, X2, e2, st2⟩ := getF X1 hx hZ hown (host := "") (Or.inl (hw _ (own_m 40 rfl))) Via.refl e1 F_a (g := (mkF m 5 #[rv a, rv w_ANIMATION] [(.ref a), (.int 1)])) rfl rfl (hb hby own_d12_5)
  obtain ⟨fs, hr, hrun, hended, hW, hsame⟩ := X2.leave (v := some (.int 0)) (fun h => by rw [Bd.returns] at h; cases h)
  refine ⟨_, _, pre0 _ ?_, hrun, hended, _, _, rfl, ?_, ⟨_, rfl⟩, hW, hsame.mono (by decide) (by decide)⟩
  · show Steps p.tables e below (s₁.setTop (mkF m 0 #[rv a, rv w_ANIMATION] [])) _
    refine XS.aloadN X0.here hx rfl (hb hby own_d12_0) rfl rfl ?_
    show Steps p.tables e below (s₁.setTop (mkF m 1 #[rv a, rv w_ANIMATION] [(.ref w_ANIMATION)])) _
    refine st1.trans ?_
    show Steps p.tables e below (T1.setTop (mkF m 4 #[rv a, rv w_ANIMATION] [(.int 1)])) _
    refine XS.aloadN X1.here hx rfl (hb hby own_d12_4) rfl rfl ?_
    show Steps p.tables e below (T1.setTop (mkF m 5 #[rv a, rv w_ANIMATION] [(.ref a), (.int 1)])) _
    refine st2 _ ?_
    show Steps p.tables e below (T2.setTop (mkF m 8 #[rv a, rv w_ANIMATION] [(.int 0), (.int 1)])) _
    refine XS.icmpYes X2.here hx rfl (pc0 := 8) (pc' := 15) rfl (hb hby own_d12_8) rfl (flt (by decide)).2.1 (by decide) (by decide) ?_
    show Steps p.tables e below (T2.setTop (mkF m 15 #[rv a, rv w_ANIMATION] [])) _
    refine XS.iconst X2.here hx rfl (hb hby own_d12_15) ?_
    show Steps p.tables e below (T2.setTop (mkF m 16 #[rv a, rv w_ANIMATION] [(.int 0)])) _
    exact retN X2 hx (t := .boolean) Bd.returns (by simp) (hb hby own_d12_16) hr
  · show own_h_ANIMATION_Q Z w_INPUT w_ANIMATION w_INSETS_ANIMATION w_TRAVERSAL w_COMMIT a h0 n0 _ T2.heap _
    rw [e2]
    exact ⟨rfl, N1, rfl⟩
theorem own_h_INSETS_ANIMATION_ef (m : MethodId) (w_INSETS_ANIMATION : Addr) (a : Addr) : entryFrame m #[(.ref a), (.ref w_INSETS_ANIMATION)] 2 = mkF m 0 #[rv a, rv w_INSETS_ANIMATION] [] := by first | (simp [entryFrame, mkF, argsToLocals, Value.category]; done) | rfl
def own_h_INSETS_ANIMATION_Q (Z : State) (w_INPUT : Addr) (w_ANIMATION : Addr) (w_INSETS_ANIMATION : Addr) (w_TRAVERSAL : Addr) (w_COMMIT : Addr) (a : Addr) (h0 : Heap) (n0 : Nat) (v : Option Value) (h : Heap) (L : List Loc) : Prop := v = some (.int 0) ∧ Fr n0 L ∧ h = h0
set_option maxRecDepth 65536 in
set_option maxHeartbeats 40000000 in
theorem own_h_INSETS_ANIMATION (l : Launch) (Z : State) (a0 : Array Value) (hw : ∀ d ∈ tables_1, d.before a0 Z = true) (ws : List Jvm.Cond) (w_INPUT : Addr) (w_ANIMATION : Addr) (w_INSETS_ANIMATION : Addr) (w_TRAVERSAL : Addr) (w_COMMIT : Addr) (a : Addr) (h0 : Heap) (n0 : Nat) (O0 : Old Z n0 h0) (U_INPUT : own_En Z Z.heap "com/example/vsyncopate/vsyncopate/frame/FramePhase" "INPUT" "Lcom/example/vsyncopate/vsyncopate/frame/FramePhase;" w_INPUT (0 : Int32)) (U_ANIMATION : own_En Z Z.heap "com/example/vsyncopate/vsyncopate/frame/FramePhase" "ANIMATION" "Lcom/example/vsyncopate/vsyncopate/frame/FramePhase;" w_ANIMATION (1 : Int32)) (U_INSETS_ANIMATION : own_En Z Z.heap "com/example/vsyncopate/vsyncopate/frame/FramePhase" "INSETS_ANIMATION" "Lcom/example/vsyncopate/vsyncopate/frame/FramePhase;" w_INSETS_ANIMATION (2 : Int32)) (U_TRAVERSAL : own_En Z Z.heap "com/example/vsyncopate/vsyncopate/frame/FramePhase" "TRAVERSAL" "Lcom/example/vsyncopate/vsyncopate/frame/FramePhase;" w_TRAVERSAL (3 : Int32)) (U_COMMIT : own_En Z Z.heap "com/example/vsyncopate/vsyncopate/frame/FramePhase" "COMMIT" "Lcom/example/vsyncopate/vsyncopate/frame/FramePhase;" w_COMMIT (4 : Int32)) (S_PC : Sta Z Z.heap "com/example/vsyncopate/vsyncopate/frame/FrameTiming" "PHASE_COUNT" "I" (.int 5)) (F_a : Fld Z h0 a "com/example/vsyncopate/vsyncopate/frame/FrameTiming" "phasesBegun" "I" (.int 0)) :
    MetFree l (⟨"com/example/vsyncopate/vsyncopate/frame/FrameTiming", "phaseBegan", "(Lcom/example/vsyncopate/vsyncopate/frame/FramePhase;)Z"⟩ : MethodName) (head1 (Jvm.Cond.code (⟨"com/example/vsyncopate/vsyncopate/frame/FrameTiming", "phaseBegan", "(Lcom/example/vsyncopate/vsyncopate/frame/FramePhase;)Z"⟩ : MethodName) prog_20_method_7_code 2 (some .boolean) :: ws) ({ frames := 1, cells := 0, slots := 0, locals := 12 } : Room)) (fun ar U => ar = #[(.ref a), (.ref w_INSETS_ANIMATION)] ∧ Z.Warmed39 U.vm ∧ U.heap = h0) (fun _ _ _ _ _ => True) (fun _ U oc U' => ∃ v L, oc = .returned v ∧ own_h_INSETS_ANIMATION_Q Z w_INPUT w_ANIMATION w_INSETS_ANIMATION w_TRAVERSAL w_COMMIT a h0 n0 v U'.heap L ∧ FrameEnd U oc U' L ({ frames := 1, cells := 0, slots := 0, locals := 12 } : Room).cells ({ frames := 1, cells := 0, slots := 0, locals := 12 } : Room).slots) := by
  refine MetFree.of_bodySF (plainFor_of_name own_pn2) hisR ?_
  intro p e s m args below meth c s₁ Bd hml0 hP hK
  obtain ⟨rfl, hZ, hh⟩ := hP
  have hx := Bd.exec
  have hby := Bd.bytes
  have hml : c.maxLocals = 2 := hml0
  have hown : s.vm.findClass "com/example/vsyncopate/vsyncopate/frame/FrameTiming" = some m.cls := findClass_of_methodNamed Bd.named
  have hnm := (name_of_methodNamed Bd.named Bd.method).1
  have X0 : Stand p l e ({ frames := 1, cells := 0, slots := 0, locals := 12 } : Room) s m #[(.ref a), (.ref w_INSETS_ANIMATION)] below meth c s₁ [] 0 0 := Stand.of_body Bd
  have e0 : s₁.heap = h0 := by rw [← hh, Bd.state]; rfl
  have N0 := Fr.nil n0
  have pre0 : ∀ t, Steps p.tables e below (s₁.setTop (mkF m 0 #[rv a, rv w_INSETS_ANIMATION] [])) t → Steps p.tables e below (s₁.setTop (entryFrame m #[(.ref a), (.ref w_INSETS_ANIMATION)] 2)) t := fun t k => castTop (own_h_INSETS_ANIMATION_ef m w_INSETS_ANIMATION a) k
  obtain ⟨cq1, kq1, q1a, q1b, q1c⟩ := isOf hZ e0 (U_INSETS_ANIMATION.2.1.ext O0.2)
  obtain ⟨_, _, ⟨T1, L1, k1, n1⟩, -, X1, ⟨Lc1, hQ1, l1, y1, z1⟩, st1⟩ := X0.virtualBackUp hx (x := (⟨"com/example/vsyncopate/vsyncopate/frame/FramePhase", "ordinal", "()I"⟩ : MethodName)) (y := (⟨"java/lang/Enum", "ordinal", "()I"⟩ : MethodName)) (owner := "java/lang/Enum") hown (mvT hZ (hw _ (own_m 47 rfl))) (mvT hZ (hw _ (own_m 48 rfl))) (mvT hZ (hw _ (own_m 49 rfl))) (by decide) (mvT hZ (hw _ (own_m 51 rfl))) (mvT hZ (hw _ (own_m 50 rfl))) (backOf (W := 0) (own_o_INSETS_ANIMATION l Z a0 hw [] w_INPUT w_ANIMATION w_INSETS_ANIMATION w_TRAVERSAL w_COMMIT  h0 n0 O0 U_INPUT U_ANIMATION U_INSETS_ANIMATION U_TRAVERSAL U_COMMIT S_PC ) hZ (hw _ (own_m 53 rfl)) (hw _ (own_m 52 rfl)) (by decide) (by decide)) q1a q1c (g := (mkF m 1 #[rv a, rv w_INSETS_ANIMATION] [(.ref w_INSETS_ANIMATION)])) rfl (by rw [hml]; rfl) (Steps.refl _) (argsL := []) (rest := []) (lenOf own_pd0 rfl) rfl (by show 2 * 0 + _ ≤ _; exact Nat.le_of_eq rfl) (hb hby own_d12_1) (fun _ _ => ⟨rfl, e0, (by decide : 0 + 0 ≤ _), (by decide : 0 + 0 ≤ _)⟩)
  dsimp only [Pt.U, Pt.locs, Pt.cells, Pt.slots] at X1 l1 y1 z1 st1 hQ1
  subst l1 y1 z1
  obtain ⟨rfl, N1q, e1⟩ := hQ1
  have N1 := Fr.app N0 N1q
  obtain ⟨T2, X2, e2, st2⟩ := getF X1 hx hZ hown (host := "") (Or.inl (hw _ (own_m 40 rfl))) Via.refl e1 F_a (g := (mkF m 5 #[rv a, rv w_INSETS_ANIMATION] [(.ref a), (.int 2)])) rfl rfl (hb hby own_d12_5)
  obtain ⟨fs, hr, hrun, hended, hW, hsame⟩ := X2.leave (v := some (.int 0)) (fun h => by rw [Bd.returns] at h; cases h)
  refine ⟨_, _, pre0 _ ?_, hrun, hended, _, _, rfl, ?_, ⟨_, rfl⟩, hW, hsame.mono (by decide) (by decide)⟩
  · show Steps p.tables e below (s₁.setTop (mkF m 0 #[rv a, rv w_INSETS_ANIMATION] [])) _
    refine XS.aloadN X0.here hx rfl (hb hby own_d12_0) rfl rfl ?_
    show Steps p.tables e below (s₁.setTop (mkF m 1 #[rv a, rv w_INSETS_ANIMATION] [(.ref w_INSETS_ANIMATION)])) _
    refine st1.trans ?_
    show Steps p.tables e below (T1.setTop (mkF m 4 #[rv a, rv w_INSETS_ANIMATION] [(.int 2)])) _
    refine XS.aloadN X1.here hx rfl (hb hby own_d12_4) rfl rfl ?_
    show Steps p.tables e below (T1.setTop (mkF m 5 #[rv a, rv w_INSETS_ANIMATION] [(.ref a), (.int 2)])) _
    refine st2 _ ?_
    show Steps p.tables e below (T2.setTop (mkF m 8 #[rv a, rv w_INSETS_ANIMATION] [(.int 0), (.int 2)])) _
    refine XS.icmpYes X2.here hx rfl (pc0 := 8) (pc' := 15) rfl (hb hby own_d12_8) rfl (flt (by decide)).2.1 (by decide) (by decide) ?_
    show Steps p.tables e below (T2.setTop (mkF m 15 #[rv a, rv w_INSETS_ANIMATION] [])) _
    refine XS.iconst X2.here hx rfl (hb hby own_d12_15) ?_
    show Steps p.tables e below (T2.setTop (mkF m 16 #[rv a, rv w_INSETS_ANIMATION] [(.int 0)])) _
    exact retN X2 hx (t := .boolean) Bd.returns (by simp) (hb hby own_d12_16) hr
  · show own_h_INSETS_ANIMATION_Q Z w_INPUT w_ANIMATION w_INSETS_ANIMATION w_TRAVERSAL w_COMMIT a h0 n0 _ T2.heap _
    rw [e2]
    exact ⟨rfl, N1, rfl⟩
theorem own_h_TRAVERSAL_ef (m : MethodId) (w_TRAVERSAL : Addr) (a : Addr) : entryFrame m #[(.ref a), (.ref w_TRAVERSAL)] 2 = mkF m 0 #[rv a, rv w_TRAVERSAL] [] := by first | (simp [entryFrame, mkF, argsToLocals, Value.category]; done) | rfl
def own_h_TRAVERSAL_Q (Z : State) (w_INPUT : Addr) (w_ANIMATION : Addr) (w_INSETS_ANIMATION : Addr) (w_TRAVERSAL : Addr) (w_COMMIT : Addr) (a : Addr) (h0 : Heap) (n0 : Nat) (v : Option Value) (h : Heap) (L : List Loc) : Prop := v = some (.int 0) ∧ Fr n0 L ∧ h = h0
set_option maxRecDepth 65536 in
set_option maxHeartbeats 40000000 in
theorem own_h_TRAVERSAL (l : Launch) (Z : State) (a0 : Array Value) (hw : ∀ d ∈ tables_1, d.before a0 Z = true) (ws : List Jvm.Cond) (w_INPUT : Addr) (w_ANIMATION : Addr) (w_INSETS_ANIMATION : Addr) (w_TRAVERSAL : Addr) (w_COMMIT : Addr) (a : Addr) (h0 : Heap) (n0 : Nat) (O0 : Old Z n0 h0) (U_INPUT : own_En Z Z.heap "com/example/vsyncopate/vsyncopate/frame/FramePhase" "INPUT" "Lcom/example/vsyncopate/vsyncopate/frame/FramePhase;" w_INPUT (0 : Int32)) (U_ANIMATION : own_En Z Z.heap "com/example/vsyncopate/vsyncopate/frame/FramePhase" "ANIMATION" "Lcom/example/vsyncopate/vsyncopate/frame/FramePhase;" w_ANIMATION (1 : Int32)) (U_INSETS_ANIMATION : own_En Z Z.heap "com/example/vsyncopate/vsyncopate/frame/FramePhase" "INSETS_ANIMATION" "Lcom/example/vsyncopate/vsyncopate/frame/FramePhase;" w_INSETS_ANIMATION (2 : Int32)) (U_TRAVERSAL : own_En Z Z.heap "com/example/vsyncopate/vsyncopate/frame/FramePhase" "TRAVERSAL" "Lcom/example/vsyncopate/vsyncopate/frame/FramePhase;" w_TRAVERSAL (3 : Int32)) (U_COMMIT : own_En Z Z.heap "com/example/vsyncopate/vsyncopate/frame/FramePhase" "COMMIT" "Lcom/example/vsyncopate/vsyncopate/frame/FramePhase;" w_COMMIT (4 : Int32)) (S_PC : Sta Z Z.heap "com/example/vsyncopate/vsyncopate/frame/FrameTiming" "PHASE_COUNT" "I" (.int 5)) (F_a : Fld Z h0 a "com/example/vsyncopate/vsyncopate/frame/FrameTiming" "phasesBegun" "I" (.int 0)) :
    MetFree l (⟨"com/example/vsyncopate/vsyncopate/frame/FrameTiming", "phaseBegan", "(Lcom/example/vsyncopate/vsyncopate/frame/FramePhase;)Z"⟩ : MethodName) (head1 (Jvm.Cond.code (⟨"com/example/vsyncopate/vsyncopate/frame/FrameTiming", "phaseBegan", "(Lcom/example/vsyncopate/vsyncopate/frame/FramePhase;)Z"⟩ : MethodName) prog_20_method_7_code 2 (some .boolean) :: ws) ({ frames := 1, cells := 0, slots := 0, locals := 12 } : Room)) (fun ar U => ar = #[(.ref a), (.ref w_TRAVERSAL)] ∧ Z.Warmed39 U.vm ∧ U.heap = h0) (fun _ _ _ _ _ => True) (fun _ U oc U' => ∃ v L, oc = .returned v ∧ own_h_TRAVERSAL_Q Z w_INPUT w_ANIMATION w_INSETS_ANIMATION w_TRAVERSAL w_COMMIT a h0 n0 v U'.heap L ∧ FrameEnd U oc U' L ({ frames := 1, cells := 0, slots := 0, locals := 12 } : Room).cells ({ frames := 1, cells := 0, slots := 0, locals := 12 } : Room).slots) := by
  refine MetFree.of_bodySF (plainFor_of_name own_pn2) hisR ?_
  intro p e s m args below meth c s₁ Bd hml0 hP hK
  obtain ⟨rfl, hZ, hh⟩ := hP
  have hx := Bd.exec
  have hby := Bd.bytes
  have hml : c.maxLocals = 2 := hml0
  have hown : s.vm.findClass "com/example/vsyncopate/vsyncopate/frame/FrameTiming" = some m.cls := findClass_of_methodNamed Bd.named
  have hnm := (name_of_methodNamed Bd.named Bd.method).1
  have X0 : Stand p l e ({ frames := 1, cells := 0, slots := 0, locals := 12 } : Room) s m #[(.ref a), (.ref w_TRAVERSAL)] below meth c s₁ [] 0 0 := Stand.of_body Bd
  have e0 : s₁.heap = h0 := by rw [← hh, Bd.state]; rfl
  have N0 := Fr.nil n0
  have pre0 : ∀ t, Steps p.tables e below (s₁.setTop (mkF m 0 #[rv a, rv w_TRAVERSAL] [])) t → Steps p.tables e below (s₁.setTop (entryFrame m #[(.ref a), (.ref w_TRAVERSAL)] 2)) t := fun t k => castTop (own_h_TRAVERSAL_ef m w_TRAVERSAL a) k
  obtain ⟨cq1, kq1, q1a, q1b, q1c⟩ := isOf hZ e0 (U_TRAVERSAL.2.1.ext O0.2)
  obtain ⟨_, _, ⟨T1, L1, k1, n1⟩, -, X1, ⟨Lc1, hQ1, l1, y1, z1⟩, st1⟩ := X0.virtualBackUp hx (x := (⟨"com/example/vsyncopate/vsyncopate/frame/FramePhase", "ordinal", "()I"⟩ : MethodName)) (y := (⟨"java/lang/Enum", "ordinal", "()I"⟩ : MethodName)) (owner := "java/lang/Enum") hown (mvT hZ (hw _ (own_m 47 rfl))) (mvT hZ (hw _ (own_m 48 rfl))) (mvT hZ (hw _ (own_m 49 rfl))) (by decide) (mvT hZ (hw _ (own_m 51 rfl))) (mvT hZ (hw _ (own_m 50 rfl))) (backOf (W := 0) (own_o_TRAVERSAL l Z a0 hw [] w_INPUT w_ANIMATION w_INSETS_ANIMATION w_TRAVERSAL w_COMMIT  h0 n0 O0 U_INPUT U_ANIMATION U_INSETS_ANIMATION U_TRAVERSAL U_COMMIT S_PC ) hZ (hw _ (own_m 53 rfl)) (hw _ (own_m 52 rfl)) (by decide) (by decide)) q1a q1c (g := (mkF m 1 #[rv a, rv w_TRAVERSAL] [(.ref w_TRAVERSAL)])) rfl (by rw [hml]; rfl) (Steps.refl _) (argsL := []) (rest := []) (lenOf own_pd0 rfl) rfl (by show 2 * 0 + _ ≤ _; exact Nat.le_of_eq rfl) (hb hby own_d12_1) (fun _ _ => ⟨rfl, e0, (by decide : 0 + 0 ≤ _), (by decide : 0 + 0 ≤ _)⟩)
  dsimp only [Pt.U, Pt.locs, Pt.cells, Pt.slots] at X1 l1 y1 z1 st1 hQ1
  subst l1 y1 z1
  obtain ⟨rfl, N1q, e1⟩ := hQ1
  have N1 := Fr.app N0 N1q
  obtain ⟨T2, X2, e2, st2⟩ := getF X1 hx hZ hown (host := "") (Or.inl (hw _ (own_m 40 rfl))) Via.refl e1 F_a (g := (mkF m 5 #[rv a, rv w_TRAVERSAL] [(.ref a), (.int 3)])) rfl rfl (hb hby own_d12_5)
  obtain ⟨fs, hr, hrun, hended, hW, hsame⟩ := X2.leave (v := some (.int 0)) (fun h => by rw [Bd.returns] at h; cases h)
  refine ⟨_, _, pre0 _ ?_, hrun, hended, _, _, rfl, ?_, ⟨_, rfl⟩, hW, hsame.mono (by decide) (by decide)⟩
  · show Steps p.tables e below (s₁.setTop (mkF m 0 #[rv a, rv w_TRAVERSAL] [])) _
    refine XS.aloadN X0.here hx rfl (hb hby own_d12_0) rfl rfl ?_
    show Steps p.tables e below (s₁.setTop (mkF m 1 #[rv a, rv w_TRAVERSAL] [(.ref w_TRAVERSAL)])) _
    refine st1.trans ?_
    show Steps p.tables e below (T1.setTop (mkF m 4 #[rv a, rv w_TRAVERSAL] [(.int 3)])) _
    refine XS.aloadN X1.here hx rfl (hb hby own_d12_4) rfl rfl ?_
    show Steps p.tables e below (T1.setTop (mkF m 5 #[rv a, rv w_TRAVERSAL] [(.ref a), (.int 3)])) _
    refine st2 _ ?_
    show Steps p.tables e below (T2.setTop (mkF m 8 #[rv a, rv w_TRAVERSAL] [(.int 0), (.int 3)])) _
    refine XS.icmpYes X2.here hx rfl (pc0 := 8) (pc' := 15) rfl (hb hby own_d12_8) rfl (flt (by decide)).2.1 (by decide) (by decide) ?_
    show Steps p.tables e below (T2.setTop (mkF m 15 #[rv a, rv w_TRAVERSAL] [])) _
    refine XS.iconst X2.here hx rfl (hb hby own_d12_15) ?_
    show Steps p.tables e below (T2.setTop (mkF m 16 #[rv a, rv w_TRAVERSAL] [(.int 0)])) _
    exact retN X2 hx (t := .boolean) Bd.returns (by simp) (hb hby own_d12_16) hr
  · show own_h_TRAVERSAL_Q Z w_INPUT w_ANIMATION w_INSETS_ANIMATION w_TRAVERSAL w_COMMIT a h0 n0 _ T2.heap _
    rw [e2]
    exact ⟨rfl, N1, rfl⟩
theorem own_h_COMMIT_ef (m : MethodId) (w_COMMIT : Addr) (a : Addr) : entryFrame m #[(.ref a), (.ref w_COMMIT)] 2 = mkF m 0 #[rv a, rv w_COMMIT] [] := by first | (simp [entryFrame, mkF, argsToLocals, Value.category]; done) | rfl
def own_h_COMMIT_Q (Z : State) (w_INPUT : Addr) (w_ANIMATION : Addr) (w_INSETS_ANIMATION : Addr) (w_TRAVERSAL : Addr) (w_COMMIT : Addr) (a : Addr) (h0 : Heap) (n0 : Nat) (v : Option Value) (h : Heap) (L : List Loc) : Prop := v = some (.int 0) ∧ Fr n0 L ∧ h = h0
set_option maxRecDepth 65536 in
set_option maxHeartbeats 40000000 in
theorem own_h_COMMIT (l : Launch) (Z : State) (a0 : Array Value) (hw : ∀ d ∈ tables_1, d.before a0 Z = true) (ws : List Jvm.Cond) (w_INPUT : Addr) (w_ANIMATION : Addr) (w_INSETS_ANIMATION : Addr) (w_TRAVERSAL : Addr) (w_COMMIT : Addr) (a : Addr) (h0 : Heap) (n0 : Nat) (O0 : Old Z n0 h0) (U_INPUT : own_En Z Z.heap "com/example/vsyncopate/vsyncopate/frame/FramePhase" "INPUT" "Lcom/example/vsyncopate/vsyncopate/frame/FramePhase;" w_INPUT (0 : Int32)) (U_ANIMATION : own_En Z Z.heap "com/example/vsyncopate/vsyncopate/frame/FramePhase" "ANIMATION" "Lcom/example/vsyncopate/vsyncopate/frame/FramePhase;" w_ANIMATION (1 : Int32)) (U_INSETS_ANIMATION : own_En Z Z.heap "com/example/vsyncopate/vsyncopate/frame/FramePhase" "INSETS_ANIMATION" "Lcom/example/vsyncopate/vsyncopate/frame/FramePhase;" w_INSETS_ANIMATION (2 : Int32)) (U_TRAVERSAL : own_En Z Z.heap "com/example/vsyncopate/vsyncopate/frame/FramePhase" "TRAVERSAL" "Lcom/example/vsyncopate/vsyncopate/frame/FramePhase;" w_TRAVERSAL (3 : Int32)) (U_COMMIT : own_En Z Z.heap "com/example/vsyncopate/vsyncopate/frame/FramePhase" "COMMIT" "Lcom/example/vsyncopate/vsyncopate/frame/FramePhase;" w_COMMIT (4 : Int32)) (S_PC : Sta Z Z.heap "com/example/vsyncopate/vsyncopate/frame/FrameTiming" "PHASE_COUNT" "I" (.int 5)) (F_a : Fld Z h0 a "com/example/vsyncopate/vsyncopate/frame/FrameTiming" "phasesBegun" "I" (.int 0)) :
    MetFree l (⟨"com/example/vsyncopate/vsyncopate/frame/FrameTiming", "phaseBegan", "(Lcom/example/vsyncopate/vsyncopate/frame/FramePhase;)Z"⟩ : MethodName) (head1 (Jvm.Cond.code (⟨"com/example/vsyncopate/vsyncopate/frame/FrameTiming", "phaseBegan", "(Lcom/example/vsyncopate/vsyncopate/frame/FramePhase;)Z"⟩ : MethodName) prog_20_method_7_code 2 (some .boolean) :: ws) ({ frames := 1, cells := 0, slots := 0, locals := 12 } : Room)) (fun ar U => ar = #[(.ref a), (.ref w_COMMIT)] ∧ Z.Warmed39 U.vm ∧ U.heap = h0) (fun _ _ _ _ _ => True) (fun _ U oc U' => ∃ v L, oc = .returned v ∧ own_h_COMMIT_Q Z w_INPUT w_ANIMATION w_INSETS_ANIMATION w_TRAVERSAL w_COMMIT a h0 n0 v U'.heap L ∧ FrameEnd U oc U' L ({ frames := 1, cells := 0, slots := 0, locals := 12 } : Room).cells ({ frames := 1, cells := 0, slots := 0, locals := 12 } : Room).slots) := by
  refine MetFree.of_bodySF (plainFor_of_name own_pn2) hisR ?_
  intro p e s m args below meth c s₁ Bd hml0 hP hK
  obtain ⟨rfl, hZ, hh⟩ := hP
  have hx := Bd.exec
  have hby := Bd.bytes
  have hml : c.maxLocals = 2 := hml0
  have hown : s.vm.findClass "com/example/vsyncopate/vsyncopate/frame/FrameTiming" = some m.cls := findClass_of_methodNamed Bd.named
  have hnm := (name_of_methodNamed Bd.named Bd.method).1
  have X0 : Stand p l e ({ frames := 1, cells := 0, slots := 0, locals := 12 } : Room) s m #[(.ref a), (.ref w_COMMIT)] below meth c s₁ [] 0 0 := Stand.of_body Bd
  have e0 : s₁.heap = h0 := by rw [← hh, Bd.state]; rfl
  have N0 := Fr.nil n0
  have pre0 : ∀ t, Steps p.tables e below (s₁.setTop (mkF m 0 #[rv a, rv w_COMMIT] [])) t → Steps p.tables e below (s₁.setTop (entryFrame m #[(.ref a), (.ref w_COMMIT)] 2)) t := fun t k => castTop (own_h_COMMIT_ef m w_COMMIT a) k
  obtain ⟨cq1, kq1, q1a, q1b, q1c⟩ := isOf hZ e0 (U_COMMIT.2.1.ext O0.2)
  obtain ⟨_, _, ⟨T1, L1, k1, n1⟩, -, X1, ⟨Lc1, hQ1, l1, y1, z1⟩, st1⟩ := X0.virtualBackUp hx (x := (⟨"com/example/vsyncopate/vsyncopate/frame/FramePhase", "ordinal", "()I"⟩ : MethodName)) (y := (⟨"java/lang/Enum", "ordinal", "()I"⟩ : MethodName)) (owner := "java/lang/Enum") hown (mvT hZ (hw _ (own_m 47 rfl))) (mvT hZ (hw _ (own_m 48 rfl))) (mvT hZ (hw _ (own_m 49 rfl))) (by decide) (mvT hZ (hw _ (own_m 51 rfl))) (mvT hZ (hw _ (own_m 50 rfl))) (backOf (W := 0) (own_o_COMMIT l Z a0 hw [] w_INPUT w_ANIMATION w_INSETS_ANIMATION w_TRAVERSAL w_COMMIT  h0 n0 O0 U_INPUT U_ANIMATION U_INSETS_ANIMATION U_TRAVERSAL U_COMMIT S_PC ) hZ (hw _ (own_m 53 rfl)) (hw _ (own_m 52 rfl)) (by decide) (by decide)) q1a q1c (g := (mkF m 1 #[rv a, rv w_COMMIT] [(.ref w_COMMIT)])) rfl (by rw [hml]; rfl) (Steps.refl _) (argsL := []) (rest := []) (lenOf own_pd0 rfl) rfl (by show 2 * 0 + _ ≤ _; exact Nat.le_of_eq rfl) (hb hby own_d12_1) (fun _ _ => ⟨rfl, e0, (by decide : 0 + 0 ≤ _), (by decide : 0 + 0 ≤ _)⟩)
  dsimp only [Pt.U, Pt.locs, Pt.cells, Pt.slots] at X1 l1 y1 z1 st1 hQ1
  subst l1 y1 z1
  obtain ⟨rfl, N1q, e1⟩ := hQ1
  have N1 := Fr.app N0 N1q
  obtain ⟨T2, X2, e2, st2⟩ := getF X1 hx hZ hown (host := "") (Or.inl (hw _ (own_m 40 rfl))) Via.refl e1 F_a (g := (mkF m 5 #[rv a, rv w_COMMIT] [(.ref a), (.int 4)])) rfl rfl (hb hby own_d12_5)
  obtain ⟨fs, hr, hrun, hended, hW, hsame⟩ := X2.leave (v := some (.int 0)) (fun h => by rw [Bd.returns] at h; cases h)
  refine ⟨_, _, pre0 _ ?_, hrun, hended, _, _, rfl, ?_, ⟨_, rfl⟩, hW, hsame.mono (by decide) (by decide)⟩
  · show Steps p.tables e below (s₁.setTop (mkF m 0 #[rv a, rv w_COMMIT] [])) _
    refine XS.aloadN X0.here hx rfl (hb hby own_d12_0) rfl rfl ?_
    show Steps p.tables e below (s₁.setTop (mkF m 1 #[rv a, rv w_COMMIT] [(.ref w_COMMIT)])) _
    refine st1.trans ?_
    show Steps p.tables e below (T1.setTop (mkF m 4 #[rv a, rv w_COMMIT] [(.int 4)])) _
    refine XS.aloadN X1.here hx rfl (hb hby own_d12_4) rfl rfl ?_
    show Steps p.tables e below (T1.setTop (mkF m 5 #[rv a, rv w_COMMIT] [(.ref a), (.int 4)])) _
    refine st2 _ ?_
    show Steps p.tables e below (T2.setTop (mkF m 8 #[rv a, rv w_COMMIT] [(.int 0), (.int 4)])) _
    refine XS.icmpYes X2.here hx rfl (pc0 := 8) (pc' := 15) rfl (hb hby own_d12_8) rfl (flt (by decide)).2.1 (by decide) (by decide) ?_
    show Steps p.tables e below (T2.setTop (mkF m 15 #[rv a, rv w_COMMIT] [])) _
    refine XS.iconst X2.here hx rfl (hb hby own_d12_15) ?_
    show Steps p.tables e below (T2.setTop (mkF m 16 #[rv a, rv w_COMMIT] [(.int 0)])) _
    exact retN X2 hx (t := .boolean) Bd.returns (by simp) (hb hby own_d12_16) hr
  · show own_h_COMMIT_Q Z w_INPUT w_ANIMATION w_INSETS_ANIMATION w_TRAVERSAL w_COMMIT a h0 n0 _ T2.heap _
    rw [e2]
    exact ⟨rfl, N1, rfl⟩
theorem own_law0_ef (m : MethodId) (q0 : Int64) (q1 : Int64) (q2 : Int64) (q3 : Int64) (q4 : Int64) (p0 : Int32) : entryFrame m #[(.long q0), (.long q1), (.long q2), (.long q3), (.long q4), (.int p0)] maxLocals = mkF m 0 #[.val (.long q0), .second, .val (.long q1), .second, .val (.long q2), .second, .val (.long q3), .second, .val (.long q4), .second, iv p0, .unset, .unset, .unset, .unset] [] := by first | (simp [entryFrame, mkF, argsToLocals, Value.category, maxLocals]; done) | rfl
def own_law0_Q (Z : State) (w_INPUT : Addr) (w_ANIMATION : Addr) (w_INSETS_ANIMATION : Addr) (w_TRAVERSAL : Addr) (w_COMMIT : Addr) (q0 : Int64) (q1 : Int64) (q2 : Int64) (q3 : Int64) (q4 : Int64) (p0 : Int32) (h0 : Heap) (n0 : Nat) (v : Option Value) (h : Heap) (L : List Loc) : Prop := v = some (.int 1) ∧ Fr n0 L ∧ True
set_option maxRecDepth 65536 in
set_option maxHeartbeats 40000000 in
theorem own_law0 (l : Launch) (Z : State) (a0 : Array Value) (hw : ∀ d ∈ tables_1, d.before a0 Z = true) (ws : List Jvm.Cond) (w_INPUT : Addr) (w_ANIMATION : Addr) (w_INSETS_ANIMATION : Addr) (w_TRAVERSAL : Addr) (w_COMMIT : Addr) (q0 : Int64) (q1 : Int64) (q2 : Int64) (q3 : Int64) (q4 : Int64) (p0 : Int32) (h0 : Heap) (n0 : Nat) (O0 : Old Z n0 h0) (U_INPUT : own_En Z Z.heap "com/example/vsyncopate/vsyncopate/frame/FramePhase" "INPUT" "Lcom/example/vsyncopate/vsyncopate/frame/FramePhase;" w_INPUT (0 : Int32)) (U_ANIMATION : own_En Z Z.heap "com/example/vsyncopate/vsyncopate/frame/FramePhase" "ANIMATION" "Lcom/example/vsyncopate/vsyncopate/frame/FramePhase;" w_ANIMATION (1 : Int32)) (U_INSETS_ANIMATION : own_En Z Z.heap "com/example/vsyncopate/vsyncopate/frame/FramePhase" "INSETS_ANIMATION" "Lcom/example/vsyncopate/vsyncopate/frame/FramePhase;" w_INSETS_ANIMATION (2 : Int32)) (U_TRAVERSAL : own_En Z Z.heap "com/example/vsyncopate/vsyncopate/frame/FramePhase" "TRAVERSAL" "Lcom/example/vsyncopate/vsyncopate/frame/FramePhase;" w_TRAVERSAL (3 : Int32)) (U_COMMIT : own_En Z Z.heap "com/example/vsyncopate/vsyncopate/frame/FramePhase" "COMMIT" "Lcom/example/vsyncopate/vsyncopate/frame/FramePhase;" w_COMMIT (4 : Int32)) (S_PC : Sta Z Z.heap "com/example/vsyncopate/vsyncopate/frame/FrameTiming" "PHASE_COUNT" "I" (.int 5)) (hk : (p0 &&& (2147483647 : Int32)) % (5 : Int32) = (0 : Int32)) :
    MetFree l x (head1 (Jvm.Cond.code x code maxLocals ret :: ws) room_1) (fun ar U => ar = #[(.long q0), (.long q1), (.long q2), (.long q3), (.long q4), (.int p0)] ∧ Z.Warmed39 U.vm ∧ U.heap = h0) (fun _ _ _ _ _ => True) (fun _ U oc U' => ∃ v L, oc = .returned v ∧ own_law0_Q Z w_INPUT w_ANIMATION w_INSETS_ANIMATION w_TRAVERSAL w_COMMIT q0 q1 q2 q3 q4 p0 h0 n0 v U'.heap L ∧ FrameEnd U oc U' L 16 128) := by
  refine MetFree.of_bodySF (plainFor_of_name own_pn0) hisR ?_
  intro p e s m args below meth c s₁ Bd hml0 hP hK
  obtain ⟨rfl, hZ, hh⟩ := hP
  have hx := Bd.exec
  have hby := Bd.bytes
  have hml : c.maxLocals = 15 := hml0
  have hown : s.vm.findClass "com/example/vsyncopate/vsyncopate/frame/FrameTimingFrameBeginsPinLaw" = some m.cls := findClass_of_methodNamed Bd.named
  have hnm := (name_of_methodNamed Bd.named Bd.method).1
  have X0 : Stand p l e room_1 s m #[(.long q0), (.long q1), (.long q2), (.long q3), (.long q4), (.int p0)] below meth c s₁ [] 0 0 := Stand.of_body Bd
  have e0 : s₁.heap = h0 := by rw [← hh, Bd.state]; rfl
  have N0 := Fr.nil n0
  have pre0 : ∀ t, Steps p.tables e below (s₁.setTop (mkF m 0 #[.val (.long q0), .second, .val (.long q1), .second, .val (.long q2), .second, .val (.long q3), .second, .val (.long q4), .second, iv p0, .unset, .unset, .unset, .unset] [])) t → Steps p.tables e below (s₁.setTop (entryFrame m #[(.long q0), (.long q1), (.long q2), (.long q3), (.long q4), (.int p0)] maxLocals)) t := fun t k => castTop (own_law0_ef m q0 q1 q2 q3 q4 p0) k
  obtain ⟨_, _, ⟨T1, L1, k1, n1⟩, -, X1, ⟨Lc1, hQ1, l1, y1, z1⟩, st1⟩ := Jvm.LawKit.callS X0 hx (y := (⟨"com/example/vsyncopate/vsyncopate/frame/FrameTimingFrameBeginsPinLaw", "pick", "(I)Lcom/example/vsyncopate/vsyncopate/frame/FramePhase;"⟩ : MethodName)) hown (mvT hZ (hw _ (own_m 1 rfl))) (mvT hZ (hw _ (own_m 2 rfl))) (mvT hZ (hw _ (own_m 3 rfl))) (mvT hZ (hw _ (own_m 4 rfl))) (by decide) (backOf (W := 0) (own_p_0 l Z a0 hw [] w_INPUT w_ANIMATION w_INSETS_ANIMATION w_TRAVERSAL w_COMMIT  h0 n0 O0 U_INPUT U_ANIMATION U_INSETS_ANIMATION U_TRAVERSAL U_COMMIT S_PC ) hZ (hw _ (own_m 4 rfl)) (hw _ (own_m 3 rfl)) (by decide) (by decide)) (g := (mkF m 7 #[.val (.long q0), .second, .val (.long q1), .second, .val (.long q2), .second, .val (.long q3), .second, .val (.long q4), .second, iv p0, .unset, .unset, .unset, .unset] [(.int 0)])) rfl (by rw [hml]; rfl) (argsL := [(.int 0)]) (rest := []) (lenOf own_pd1 rfl) rfl (by show 2 * 0 + _ ≤ _; exact Nat.le_of_eq rfl) (hb hby at_7) (fun _ _ => ⟨rfl, e0, (by decide : 0 + 0 ≤ _), (by decide : 0 + 0 ≤ _)⟩)
  dsimp only [Pt.U, Pt.locs, Pt.cells, Pt.slots] at X1 l1 y1 z1 st1 hQ1
  subst l1 y1 z1
  obtain ⟨rfl, N1q, e1⟩ := hQ1
  have N1 := Fr.app N0 N1q
  obtain ⟨T2, h2, X2, e2, E2, A2, D2, -, st2⟩ := newO X1 hx hZ hown (hw _ (own_m 8 rfl)) (hw _ (own_m 9 rfl)) (hw _ (own_m 10 rfl)) e1 (g := (mkF m 12 #[.val (.long q0), .second, .val (.long q1), .second, .val (.long q2), .second, .val (.long q3), .second, .val (.long q4), .second, iv p0, rv w_INPUT, .unset, .unset, .unset] [])) rfl (hb hby at_12) (by decide) (by decide)
  obtain ⟨b2, g2⟩ : ∃ z, z = h0.size := ⟨_, rfl⟩
  rw [← g2] at A2 D2 st2
  have gg_b2 : n0 ≤ b2 := g2 ▸ own_le O0
  have O3 := O0.ext E2
  have F_phaseBeganNanos_b2 : Fld Z h2 b2 "com/example/vsyncopate/vsyncopate/frame/FrameTiming" "phaseBeganNanos" "[J" .null := D2 (Or.inr (hw _ (own_m 21 rfl))) (ty := (.array .long)) (by decide)
  have F_phaseCallbacks_b2 : Fld Z h2 b2 "com/example/vsyncopate/vsyncopate/frame/FrameTiming" "phaseCallbacks" "[I" .null := D2 (Or.inr (hw _ (own_m 24 rfl))) (ty := (.array .int)) (by decide)
  have F_frameNumber_b2 : Fld Z h2 b2 "com/example/vsyncopate/vsyncopate/frame/FrameTiming" "frameNumber" "J" (.long 0) := D2 (Or.inl (hw _ (own_m 31 rfl))) (ty := .long) (by decide)
  have F_pulseTimeNanos_b2 : Fld Z h2 b2 "com/example/vsyncopate/vsyncopate/frame/FrameTiming" "pulseTimeNanos" "J" (.long 0) := D2 (Or.inl (hw _ (own_m 33 rfl))) (ty := .long) (by decide)
  have F_frameTimeNanos_b2 : Fld Z h2 b2 "com/example/vsyncopate/vsyncopate/frame/FrameTiming" "frameTimeNanos" "J" (.long 0) := D2 (Or.inl (hw _ (own_m 35 rfl))) (ty := .long) (by decide)
  have F_skippedFrames_b2 : Fld Z h2 b2 "com/example/vsyncopate/vsyncopate/frame/FrameTiming" "skippedFrames" "J" (.long 0) := D2 (Or.inl (hw _ (own_m 37 rfl))) (ty := .long) (by decide)
  have F_beganNanos_b2 : Fld Z h2 b2 "com/example/vsyncopate/vsyncopate/frame/FrameTiming" "beganNanos" "J" (.long 0) := D2 (Or.inl (hw _ (own_m 39 rfl))) (ty := .long) (by decide)
  have F_phasesBegun_b2 : Fld Z h2 b2 "com/example/vsyncopate/vsyncopate/frame/FrameTiming" "phasesBegun" "I" (.int 0) := D2 (Or.inl (hw _ (own_m 41 rfl))) (ty := .int) (by decide)
  obtain ⟨_, _, ⟨T4, L4, k4, n4⟩, -, X4, ⟨Lc4, hQ4, l4, y4, z4⟩, st4⟩ := X2.specialBack hx (y := (⟨"com/example/vsyncopate/vsyncopate/frame/FrameTiming", "<init>", "()V"⟩ : MethodName)) rfl hown (mvT hZ (hw _ (own_m 11 rfl))) (mvT hZ (hw _ (own_m 12 rfl))) (mvT hZ (hw _ (own_m 13 rfl))) (by decide) (backOf (W := 1) (own_mk l Z a0 hw [] w_INPUT w_ANIMATION w_INSETS_ANIMATION w_TRAVERSAL w_COMMIT b2 h2 n0 O3 U_INPUT U_ANIMATION U_INSETS_ANIMATION U_TRAVERSAL U_COMMIT S_PC gg_b2 A2 F_phaseBeganNanos_b2 F_phaseCallbacks_b2 F_frameNumber_b2 F_pulseTimeNanos_b2 F_frameTimeNanos_b2 F_skippedFrames_b2 F_beganNanos_b2 F_phasesBegun_b2) hZ (hw _ (own_m 13 rfl)) (hw _ (own_m 10 rfl)) (by decide) (by decide)) (g := (mkF m 16 #[.val (.long q0), .second, .val (.long q1), .second, .val (.long q2), .second, .val (.long q3), .second, .val (.long q4), .second, iv p0, rv w_INPUT, .unset, .unset, .unset] [(.ref b2), (.ref b2)])) rfl (by rw [hml]; rfl) (Steps.refl _) (a := b2) (argsL := []) (rest := [(.ref b2)]) (lenOf own_pd2 rfl) rfl (by show 2 * 0 + _ ≤ _; exact Nat.le_of_eq rfl) (hb hby at_16) (fun _ _ => ⟨rfl, e2, (by decide : 1 + 2 ≤ _), (by decide : 9 + 10 ≤ _)⟩)
  dsimp only [Pt.U, Pt.locs, Pt.cells, Pt.slots] at X4 l4 y4 z4 st4 hQ4
  subst l4 y4 z4
  obtain ⟨rfl, N4q, K4, bb, cc, kb, kc, g_bb, g_cc, nba, nca, nbc, V_bb, V_cc, q5, q6, q7, q8, q9, q10, q11, q12, q13⟩ := hQ4
  have N4 := Fr.app N1 N4q
  have O14 := O3.keep K4 (allS gg_b2 all0)
  obtain ⟨cq15, kq15, q15a, q15b, q15c⟩ := isOf hZ rfl q5
  obtain ⟨_, _, ⟨T15, L15, k15, n15⟩, -, X15, ⟨Lc15, hQ15, l15, y15, z15⟩, st15⟩ := X4.virtualBack hx (y := (⟨"com/example/vsyncopate/vsyncopate/frame/FrameTiming", "frameBegins", "(JJJJJ)V"⟩ : MethodName)) (z := (⟨"com/example/vsyncopate/vsyncopate/frame/FrameTiming", "frameBegins", "(JJJJJ)V"⟩ : MethodName)) hown (mvT hZ (hw _ (own_m 25 rfl))) (mvT hZ (hw _ (own_m 26 rfl))) (notFace_of_selects (args := #[]) (mvT hZ (hw _ (own_m 28 rfl)))) (mvT hZ (hw _ (own_m 28 rfl))) (mvT hZ (hw _ (own_m 27 rfl))) (by decide) (backOf (W := 0) (own_fb l Z a0 hw [] w_INPUT w_ANIMATION w_INSETS_ANIMATION w_TRAVERSAL w_COMMIT b2 bb cc q1 q2 q3 q4 q0 (0 : Int64) (0 : Int64) (0 : Int64) (0 : Int64) (0 : Int64) (0 : Int32) T4.heap n0 O14 U_INPUT U_ANIMATION U_INSETS_ANIMATION U_TRAVERSAL U_COMMIT S_PC gg_b2 q5 q6 q7 q8 q9 q10 q11 q12 q13) hZ (hw _ (own_m 29 rfl)) (hw _ (own_m 10 rfl)) (by decide) (by decide)) q15a q15c (g := (mkF m 31 #[.val (.long q0), .second, .val (.long q1), .second, .val (.long q2), .second, .val (.long q3), .second, .val (.long q4), .second, iv p0, rv w_INPUT, rv b2, .unset, .unset] [(.long q0), (.long q4), (.long q3), (.long q2), (.long q1), (.ref b2)])) rfl (by rw [hml]; rfl) (Steps.refl _) (argsL := [(.long q1), (.long q2), (.long q3), (.long q4), (.long q0)]) (rest := []) (lenOf own_pd3 rfl) rfl (by show 2 * 0 + _ ≤ _; exact Nat.le_of_eq rfl) (hb hby at_31) (fun _ _ => ⟨rfl, rfl, (by decide : 3 + 0 ≤ _), (by decide : 19 + 0 ≤ _)⟩)
  dsimp only [Pt.U, Pt.locs, Pt.cells, Pt.slots] at X15 l15 y15 z15 st15 hQ15
  subst l15 y15 z15
  obtain ⟨rfl, N15q, K15, q16, q17, q18, q19, q20, q21, q22, q23, q24⟩ := hQ15
  have N15 := Fr.app N4 N15q
  have O25 := O14.keep K15 (allS gg_b2 all0)
  have f26 := (V_bb.keep K15 (ninS nba nin0))
  have f27 := (V_cc.keep K15 (ninS nca nin0))
  obtain ⟨cq28, kq28, q28a, q28b, q28c⟩ := isOf hZ rfl q16
  obtain ⟨_, _, ⟨T28, L28, k28, n28⟩, -, X28, ⟨Lc28, hQ28, l28, y28, z28⟩, st28⟩ := X15.virtualBack hx (y := (⟨"com/example/vsyncopate/vsyncopate/frame/FrameTiming", "phaseBegins", "(Lcom/example/vsyncopate/vsyncopate/frame/FramePhase;J)V"⟩ : MethodName)) (z := (⟨"com/example/vsyncopate/vsyncopate/frame/FrameTiming", "phaseBegins", "(Lcom/example/vsyncopate/vsyncopate/frame/FramePhase;J)V"⟩ : MethodName)) hown (mvT hZ (hw _ (own_m 42 rfl))) (mvT hZ (hw _ (own_m 43 rfl))) (notFace_of_selects (args := #[]) (mvT hZ (hw _ (own_m 45 rfl)))) (mvT hZ (hw _ (own_m 45 rfl))) (mvT hZ (hw _ (own_m 44 rfl))) (by decide) (backOf (W := 0) (own_pb_INPUT l Z a0 hw [] w_INPUT w_ANIMATION w_INSETS_ANIMATION w_TRAVERSAL w_COMMIT b2 bb cc kb kc q4 q1 q2 q3 q4 q0 (0 : Int32) T15.heap n0 O25 U_INPUT U_ANIMATION U_INSETS_ANIMATION U_TRAVERSAL U_COMMIT S_PC gg_b2 q16 q17 q18 q19 q20 q21 q22 q23 q24 g_bb g_cc nba nca nbc f26 f27) hZ (hw _ (own_m 46 rfl)) (hw _ (own_m 10 rfl)) (by decide) (by decide)) q28a q28c (g := (mkF m 40 #[.val (.long q0), .second, .val (.long q1), .second, .val (.long q2), .second, .val (.long q3), .second, .val (.long q4), .second, iv p0, rv w_INPUT, rv b2, .unset, .unset] [(.long q4), (.ref w_INPUT), (.ref b2)])) rfl (by rw [hml]; rfl) (Steps.refl _) (argsL := [(.ref w_INPUT), (.long q4)]) (rest := []) (lenOf own_pd4 rfl) rfl (by show 2 * 0 + _ ≤ _; exact Nat.le_of_eq rfl) (hb hby at_40) (fun _ _ => ⟨rfl, rfl, (by decide : 3 + 0 ≤ _), (by decide : 19 + 0 ≤ _)⟩)
  dsimp only [Pt.U, Pt.locs, Pt.cells, Pt.slots] at X28 l28 y28 z28 st28 hQ28
  subst l28 y28 z28
  obtain ⟨rfl, N28q, K28, q29, q30, q31, q32, q33, q34, q35, q36, q37⟩ := hQ28
  have N28 := Fr.app N15 N28q
  have O38 := O25.keep K28 (allS gg_b2 (allS g_bb (allS g_cc all0)))
  obtain ⟨cq39, kq39, q39a, q39b, q39c⟩ := isOf hZ rfl q29
  obtain ⟨_, _, ⟨T39, L39, k39, n39⟩, -, X39, ⟨Lc39, hQ39, l39, y39, z39⟩, st39⟩ := X28.virtualBack hx (y := (⟨"com/example/vsyncopate/vsyncopate/frame/FrameTiming", "frameBegins", "(JJJJJ)V"⟩ : MethodName)) (z := (⟨"com/example/vsyncopate/vsyncopate/frame/FrameTiming", "frameBegins", "(JJJJJ)V"⟩ : MethodName)) hown (mvT hZ (hw _ (own_m 25 rfl))) (mvT hZ (hw _ (own_m 26 rfl))) (notFace_of_selects (args := #[]) (mvT hZ (hw _ (own_m 28 rfl)))) (mvT hZ (hw _ (own_m 28 rfl))) (mvT hZ (hw _ (own_m 27 rfl))) (by decide) (backOf (W := 0) (own_fb l Z a0 hw [] w_INPUT w_ANIMATION w_INSETS_ANIMATION w_TRAVERSAL w_COMMIT b2 bb cc q0 q1 q2 q3 q4 q1 q2 q3 q4 q0 (1 : Int32) T28.heap n0 O38 U_INPUT U_ANIMATION U_INSETS_ANIMATION U_TRAVERSAL U_COMMIT S_PC gg_b2 q29 q30 q31 q32 q33 q34 q35 q36 q37) hZ (hw _ (own_m 29 rfl)) (hw _ (own_m 10 rfl)) (by decide) (by decide)) q39a q39c (g := (mkF m 53 #[.val (.long q0), .second, .val (.long q1), .second, .val (.long q2), .second, .val (.long q3), .second, .val (.long q4), .second, iv p0, rv w_INPUT, rv b2, .unset, .unset] [(.long q4), (.long q3), (.long q2), (.long q1), (.long q0), (.ref b2)])) rfl (by rw [hml]; rfl) (Steps.refl _) (argsL := [(.long q0), (.long q1), (.long q2), (.long q3), (.long q4)]) (rest := []) (lenOf own_pd3 rfl) rfl (by show 2 * 0 + _ ≤ _; exact Nat.le_of_eq rfl) (hb hby at_53) (fun _ _ => ⟨rfl, rfl, (by decide : 3 + 0 ≤ _), (by decide : 19 + 0 ≤ _)⟩)
  dsimp only [Pt.U, Pt.locs, Pt.cells, Pt.slots] at X39 l39 y39 z39 st39 hQ39
  subst l39 y39 z39
  obtain ⟨rfl, N39q, K39, q40, q41, q42, q43, q44, q45, q46, q47, q48⟩ := hQ39
  have N39 := Fr.app N28 N39q
  have O49 := O38.keep K39 (allS gg_b2 all0)
  obtain ⟨cq50, kq50, q50a, q50b, q50c⟩ := isOf hZ rfl q40
  obtain ⟨_, _, ⟨T50, L50, k50, n50⟩, -, X50, ⟨Lc50, hQ50, l50, y50, z50⟩, st50⟩ := X39.virtualBack hx (y := (⟨"com/example/vsyncopate/vsyncopate/frame/FrameTiming", "frameNumber", "()J"⟩ : MethodName)) (z := (⟨"com/example/vsyncopate/vsyncopate/frame/FrameTiming", "frameNumber", "()J"⟩ : MethodName)) hown (mvT hZ (hw _ (own_m 56 rfl))) (mvT hZ (hw _ (own_m 57 rfl))) (notFace_of_selects (args := #[]) (mvT hZ (hw _ (own_m 59 rfl)))) (mvT hZ (hw _ (own_m 59 rfl))) (mvT hZ (hw _ (own_m 58 rfl))) (by decide) (backOf (W := 0) (own_g_frameNumber l Z a0 hw [] w_INPUT w_ANIMATION w_INSETS_ANIMATION w_TRAVERSAL w_COMMIT b2 q0 T39.heap n0 O49 U_INPUT U_ANIMATION U_INSETS_ANIMATION U_TRAVERSAL U_COMMIT S_PC q43) hZ (hw _ (own_m 60 rfl)) (hw _ (own_m 10 rfl)) (by decide) (by decide)) q50a q50c (g := (mkF m 58 #[.val (.long q0), .second, .val (.long q1), .second, .val (.long q2), .second, .val (.long q3), .second, .val (.long q4), .second, iv p0, rv w_INPUT, rv b2, .unset, .unset] [(.ref b2)])) rfl (by rw [hml]; rfl) (Steps.refl _) (argsL := []) (rest := []) (lenOf own_pd5 rfl) rfl (by show 2 * 0 + _ ≤ _; exact Nat.le_of_eq rfl) (hb hby at_58) (fun _ _ => ⟨rfl, rfl, (by decide : 3 + 0 ≤ _), (by decide : 19 + 0 ≤ _)⟩)
  dsimp only [Pt.U, Pt.locs, Pt.cells, Pt.slots] at X50 l50 y50 z50 st50 hQ50
  subst l50 y50 z50
  obtain ⟨rfl, N50q, e50⟩ := hQ50
  have N50 := Fr.app N39 N50q
  obtain ⟨cq51, kq51, q51a, q51b, q51c⟩ := isOf hZ e50 q40
  obtain ⟨_, _, ⟨T51, L51, k51, n51⟩, -, X51, ⟨Lc51, hQ51, l51, y51, z51⟩, st51⟩ := X50.virtualBack hx (y := (⟨"com/example/vsyncopate/vsyncopate/frame/FrameTiming", "pulseTimeNanos", "()J"⟩ : MethodName)) (z := (⟨"com/example/vsyncopate/vsyncopate/frame/FrameTiming", "pulseTimeNanos", "()J"⟩ : MethodName)) hown (mvT hZ (hw _ (own_m 61 rfl))) (mvT hZ (hw _ (own_m 62 rfl))) (notFace_of_selects (args := #[]) (mvT hZ (hw _ (own_m 64 rfl)))) (mvT hZ (hw _ (own_m 64 rfl))) (mvT hZ (hw _ (own_m 63 rfl))) (by decide) (backOf (W := 0) (own_g_pulseTimeNanos l Z a0 hw [] w_INPUT w_ANIMATION w_INSETS_ANIMATION w_TRAVERSAL w_COMMIT b2 q1 T39.heap n0 O49 U_INPUT U_ANIMATION U_INSETS_ANIMATION U_TRAVERSAL U_COMMIT S_PC q44) hZ (hw _ (own_m 65 rfl)) (hw _ (own_m 10 rfl)) (by decide) (by decide)) q51a q51c (g := (mkF m 68 #[.val (.long q0), .second, .val (.long q1), .second, .val (.long q2), .second, .val (.long q3), .second, .val (.long q4), .second, iv p0, rv w_INPUT, rv b2, .unset, .unset] [(.ref b2)])) rfl (by rw [hml]; rfl) (Steps.refl _) (argsL := []) (rest := []) (lenOf own_pd5 rfl) rfl (by show 2 * 0 + _ ≤ _; exact Nat.le_of_eq rfl) (hb hby at_68) (fun _ _ => ⟨rfl, e50, (by decide : 3 + 0 ≤ _), (by decide : 19 + 0 ≤ _)⟩)
  dsimp only [Pt.U, Pt.locs, Pt.cells, Pt.slots] at X51 l51 y51 z51 st51 hQ51
  subst l51 y51 z51
  obtain ⟨rfl, N51q, e51⟩ := hQ51
  have N51 := Fr.app N50 N51q
  obtain ⟨cq52, kq52, q52a, q52b, q52c⟩ := isOf hZ e51 q40
  obtain ⟨_, _, ⟨T52, L52, k52, n52⟩, -, X52, ⟨Lc52, hQ52, l52, y52, z52⟩, st52⟩ := X51.virtualBack hx (y := (⟨"com/example/vsyncopate/vsyncopate/frame/FrameTiming", "frameTimeNanos", "()J"⟩ : MethodName)) (z := (⟨"com/example/vsyncopate/vsyncopate/frame/FrameTiming", "frameTimeNanos", "()J"⟩ : MethodName)) hown (mvT hZ (hw _ (own_m 66 rfl))) (mvT hZ (hw _ (own_m 67 rfl))) (notFace_of_selects (args := #[]) (mvT hZ (hw _ (own_m 69 rfl)))) (mvT hZ (hw _ (own_m 69 rfl))) (mvT hZ (hw _ (own_m 68 rfl))) (by decide) (backOf (W := 0) (own_g_frameTimeNanos l Z a0 hw [] w_INPUT w_ANIMATION w_INSETS_ANIMATION w_TRAVERSAL w_COMMIT b2 q2 T39.heap n0 O49 U_INPUT U_ANIMATION U_INSETS_ANIMATION U_TRAVERSAL U_COMMIT S_PC q45) hZ (hw _ (own_m 70 rfl)) (hw _ (own_m 10 rfl)) (by decide) (by decide)) q52a q52c (g := (mkF m 78 #[.val (.long q0), .second, .val (.long q1), .second, .val (.long q2), .second, .val (.long q3), .second, .val (.long q4), .second, iv p0, rv w_INPUT, rv b2, .unset, .unset] [(.ref b2)])) rfl (by rw [hml]; rfl) (Steps.refl _) (argsL := []) (rest := []) (lenOf own_pd5 rfl) rfl (by show 2 * 0 + _ ≤ _; exact Nat.le_of_eq rfl) (hb hby at_78) (fun _ _ => ⟨rfl, e51, (by decide : 3 + 0 ≤ _), (by decide : 19 + 0 ≤ _)⟩)
  dsimp only [Pt.U, Pt.locs, Pt.cells, Pt.slots] at X52 l52 y52 z52 st52 hQ52
  subst l52 y52 z52
  obtain ⟨rfl, N52q, e52⟩ := hQ52
  have N52 := Fr.app N51 N52q
  obtain ⟨cq53, kq53, q53a, q53b, q53c⟩ := isOf hZ e52 q40
  obtain ⟨_, _, ⟨T53, L53, k53, n53⟩, -, X53, ⟨Lc53, hQ53, l53, y53, z53⟩, st53⟩ := X52.virtualBack hx (y := (⟨"com/example/vsyncopate/vsyncopate/frame/FrameTiming", "skippedFrames", "()J"⟩ : MethodName)) (z := (⟨"com/example/vsyncopate/vsyncopate/frame/FrameTiming", "skippedFrames", "()J"⟩ : MethodName)) hown (mvT hZ (hw _ (own_m 71 rfl))) (mvT hZ (hw _ (own_m 72 rfl))) (notFace_of_selects (args := #[]) (mvT hZ (hw _ (own_m 74 rfl)))) (mvT hZ (hw _ (own_m 74 rfl))) (mvT hZ (hw _ (own_m 73 rfl))) (by decide) (backOf (W := 0) (own_g_skippedFrames l Z a0 hw [] w_INPUT w_ANIMATION w_INSETS_ANIMATION w_TRAVERSAL w_COMMIT b2 q3 T39.heap n0 O49 U_INPUT U_ANIMATION U_INSETS_ANIMATION U_TRAVERSAL U_COMMIT S_PC q46) hZ (hw _ (own_m 75 rfl)) (hw _ (own_m 10 rfl)) (by decide) (by decide)) q53a q53c (g := (mkF m 89 #[.val (.long q0), .second, .val (.long q1), .second, .val (.long q2), .second, .val (.long q3), .second, .val (.long q4), .second, iv p0, rv w_INPUT, rv b2, .unset, .unset] [(.ref b2)])) rfl (by rw [hml]; rfl) (Steps.refl _) (argsL := []) (rest := []) (lenOf own_pd5 rfl) rfl (by show 2 * 0 + _ ≤ _; exact Nat.le_of_eq rfl) (hb hby at_89) (fun _ _ => ⟨rfl, e52, (by decide : 3 + 0 ≤ _), (by decide : 19 + 0 ≤ _)⟩)
  dsimp only [Pt.U, Pt.locs, Pt.cells, Pt.slots] at X53 l53 y53 z53 st53 hQ53
  subst l53 y53 z53
  obtain ⟨rfl, N53q, e53⟩ := hQ53
  have N53 := Fr.app N52 N53q
  obtain ⟨cq54, kq54, q54a, q54b, q54c⟩ := isOf hZ e53 q40
  obtain ⟨_, _, ⟨T54, L54, k54, n54⟩, -, X54, ⟨Lc54, hQ54, l54, y54, z54⟩, st54⟩ := X53.virtualBack hx (y := (⟨"com/example/vsyncopate/vsyncopate/frame/FrameTiming", "beganNanos", "()J"⟩ : MethodName)) (z := (⟨"com/example/vsyncopate/vsyncopate/frame/FrameTiming", "beganNanos", "()J"⟩ : MethodName)) hown (mvT hZ (hw _ (own_m 76 rfl))) (mvT hZ (hw _ (own_m 77 rfl))) (notFace_of_selects (args := #[]) (mvT hZ (hw _ (own_m 79 rfl)))) (mvT hZ (hw _ (own_m 79 rfl))) (mvT hZ (hw _ (own_m 78 rfl))) (by decide) (backOf (W := 0) (own_g_beganNanos l Z a0 hw [] w_INPUT w_ANIMATION w_INSETS_ANIMATION w_TRAVERSAL w_COMMIT b2 q4 T39.heap n0 O49 U_INPUT U_ANIMATION U_INSETS_ANIMATION U_TRAVERSAL U_COMMIT S_PC q47) hZ (hw _ (own_m 80 rfl)) (hw _ (own_m 10 rfl)) (by decide) (by decide)) q54a q54c (g := (mkF m 100 #[.val (.long q0), .second, .val (.long q1), .second, .val (.long q2), .second, .val (.long q3), .second, .val (.long q4), .second, iv p0, rv w_INPUT, rv b2, .unset, .unset] [(.ref b2)])) rfl (by rw [hml]; rfl) (Steps.refl _) (argsL := []) (rest := []) (lenOf own_pd5 rfl) rfl (by show 2 * 0 + _ ≤ _; exact Nat.le_of_eq rfl) (hb hby at_100) (fun _ _ => ⟨rfl, e53, (by decide : 3 + 0 ≤ _), (by decide : 19 + 0 ≤ _)⟩)
  dsimp only [Pt.U, Pt.locs, Pt.cells, Pt.slots] at X54 l54 y54 z54 st54 hQ54
  subst l54 y54 z54
  obtain ⟨rfl, N54q, e54⟩ := hQ54
  have N54 := Fr.app N53 N54q
  obtain ⟨T55, X55, e55, st55⟩ := getS2 X54 hx hZ hown (host := "") (Or.inl (hw _ (own_m 81 rfl))) Via.refl e54 (U_INPUT.1.ext O49.2) (g := (mkF m 118 #[.val (.long q0), .second, .val (.long q1), .second, .val (.long q2), .second, .val (.long q3), .second, .val (.long q4), .second, iv p0, rv w_INPUT, rv b2, iv 1, .unset] [(.ref b2)])) rfl (hb hby at_118)
  obtain ⟨cq56, kq56, q56a, q56b, q56c⟩ := isOf hZ e55 q40
  obtain ⟨_, _, ⟨T56, L56, k56, n56⟩, -, X56, ⟨Lc56, hQ56, l56, y56, z56⟩, st56⟩ := X55.virtualBack hx (y := (⟨"com/example/vsyncopate/vsyncopate/frame/FrameTiming", "phaseBegan", "(Lcom/example/vsyncopate/vsyncopate/frame/FramePhase;)Z"⟩ : MethodName)) (z := (⟨"com/example/vsyncopate/vsyncopate/frame/FrameTiming", "phaseBegan", "(Lcom/example/vsyncopate/vsyncopate/frame/FramePhase;)Z"⟩ : MethodName)) hown (mvT hZ (hw _ (own_m 83 rfl))) (mvT hZ (hw _ (own_m 84 rfl))) (notFace_of_selects (args := #[]) (mvT hZ (hw _ (own_m 86 rfl)))) (mvT hZ (hw _ (own_m 86 rfl))) (mvT hZ (hw _ (own_m 85 rfl))) (by decide) (backOf (W := 0) (own_h_INPUT l Z a0 hw [] w_INPUT w_ANIMATION w_INSETS_ANIMATION w_TRAVERSAL w_COMMIT b2 T39.heap n0 O49 U_INPUT U_ANIMATION U_INSETS_ANIMATION U_TRAVERSAL U_COMMIT S_PC q48) hZ (hw _ (own_m 87 rfl)) (hw _ (own_m 10 rfl)) (by decide) (by decide)) q56a q56c (g := (mkF m 121 #[.val (.long q0), .second, .val (.long q1), .second, .val (.long q2), .second, .val (.long q3), .second, .val (.long q4), .second, iv p0, rv w_INPUT, rv b2, iv 1, .unset] [(.ref w_INPUT), (.ref b2)])) rfl (by rw [hml]; rfl) (Steps.refl _) (argsL := [(.ref w_INPUT)]) (rest := []) (lenOf own_pd6 rfl) rfl (by show 2 * 0 + _ ≤ _; exact Nat.le_of_eq rfl) (hb hby at_121) (fun _ _ => ⟨rfl, e55, (by decide : 3 + 0 ≤ _), (by decide : 19 + 0 ≤ _)⟩)
  dsimp only [Pt.U, Pt.locs, Pt.cells, Pt.slots] at X56 l56 y56 z56 st56 hQ56
  subst l56 y56 z56
  obtain ⟨rfl, N56q, e56⟩ := hQ56
  have N56 := Fr.app N54 N56q
  obtain ⟨cq57, kq57, q57a, q57b, q57c⟩ := isOf hZ e56 q40
  obtain ⟨_, _, ⟨T57, L57, k57, n57⟩, -, X57, ⟨Lc57, hQ57, l57, y57, z57⟩, st57⟩ := X56.virtualBack hx (y := (⟨"com/example/vsyncopate/vsyncopate/frame/FrameTiming", "phaseBegan", "(Lcom/example/vsyncopate/vsyncopate/frame/FramePhase;)Z"⟩ : MethodName)) (z := (⟨"com/example/vsyncopate/vsyncopate/frame/FrameTiming", "phaseBegan", "(Lcom/example/vsyncopate/vsyncopate/frame/FramePhase;)Z"⟩ : MethodName)) hown (mvT hZ (hw _ (own_m 83 rfl))) (mvT hZ (hw _ (own_m 84 rfl))) (notFace_of_selects (args := #[]) (mvT hZ (hw _ (own_m 86 rfl)))) (mvT hZ (hw _ (own_m 86 rfl))) (mvT hZ (hw _ (own_m 85 rfl))) (by decide) (backOf (W := 0) (own_h_INPUT l Z a0 hw [] w_INPUT w_ANIMATION w_INSETS_ANIMATION w_TRAVERSAL w_COMMIT b2 T39.heap n0 O49 U_INPUT U_ANIMATION U_INSETS_ANIMATION U_TRAVERSAL U_COMMIT S_PC q48) hZ (hw _ (own_m 87 rfl)) (hw _ (own_m 10 rfl)) (by decide) (by decide)) q57a q57c (g := (mkF m 131 #[.val (.long q0), .second, .val (.long q1), .second, .val (.long q2), .second, .val (.long q3), .second, .val (.long q4), .second, iv p0, rv w_INPUT, rv b2, iv 1, .unset] [(.ref w_INPUT), (.ref b2)])) rfl (by rw [hml]; rfl) (Steps.refl _) (argsL := [(.ref w_INPUT)]) (rest := []) (lenOf own_pd6 rfl) rfl (by show 2 * 0 + _ ≤ _; exact Nat.le_of_eq rfl) (hb hby at_131) (fun _ _ => ⟨rfl, e56, (by decide : 3 + 0 ≤ _), (by decide : 19 + 0 ≤ _)⟩)
  dsimp only [Pt.U, Pt.locs, Pt.cells, Pt.slots] at X57 l57 y57 z57 st57 hQ57
  subst l57 y57 z57
  obtain ⟨rfl, N57q, e57⟩ := hQ57
  have N57 := Fr.app N56 N57q
  obtain ⟨fs, hr, hrun, hended, hW, hsame⟩ := X57.leave (v := some (.int 1)) (fun h => by rw [Bd.returns] at h; cases h)
  refine ⟨_, _, pre0 _ ?_, hrun, hended, _, _, rfl, ?_, ⟨_, rfl⟩, hW, hsame.mono (by decide) (by decide)⟩
  · show Steps p.tables e below (s₁.setTop (mkF m 0 #[.val (.long q0), .second, .val (.long q1), .second, .val (.long q2), .second, .val (.long q3), .second, .val (.long q4), .second, iv p0, .unset, .unset, .unset, .unset] [])) _
    refine XS.iload X0.here hx rfl (hb hby at_0) rfl ?_
    show Steps p.tables e below (s₁.setTop (mkF m 2 #[.val (.long q0), .second, .val (.long q1), .second, .val (.long q2), .second, .val (.long q3), .second, .val (.long q4), .second, iv p0, .unset, .unset, .unset, .unset] [(.int p0)])) _
    refine X0.ldcInt hx hown (mvT hZ (hw _ (own_m 0 rfl))) (g := (mkF m 2 #[.val (.long q0), .second, .val (.long q1), .second, .val (.long q2), .second, .val (.long q3), .second, .val (.long q4), .second, iv p0, .unset, .unset, .unset, .unset] [(.int p0)])) rfl (hb hby at_2) _ ?_
    show Steps p.tables e below (s₁.setTop (mkF m 4 #[.val (.long q0), .second, .val (.long q1), .second, .val (.long q2), .second, .val (.long q3), .second, .val (.long q4), .second, iv p0, .unset, .unset, .unset, .unset] [(.int 2147483647), (.int p0)])) _
    refine XS.iand X0.here hx rfl (hb hby at_4) rfl ?_
    show Steps p.tables e below (s₁.setTop (mkF m 5 #[.val (.long q0), .second, .val (.long q1), .second, .val (.long q2), .second, .val (.long q3), .second, .val (.long q4), .second, iv p0, .unset, .unset, .unset, .unset] [(.int (p0 &&& (2147483647 : Int32)))])) _
    refine XS.iconst X0.here hx rfl (hb hby at_5) ?_
    show Steps p.tables e below (s₁.setTop (mkF m 6 #[.val (.long q0), .second, .val (.long q1), .second, .val (.long q2), .second, .val (.long q3), .second, .val (.long q4), .second, iv p0, .unset, .unset, .unset, .unset] [(.int 5), (.int (p0 &&& (2147483647 : Int32)))])) _
    refine iremM X0 hx rfl (hb hby at_6) rfl (by decide) ?_
    show Steps p.tables e below (s₁.setTop (mkF m 7 #[.val (.long q0), .second, .val (.long q1), .second, .val (.long q2), .second, .val (.long q3), .second, .val (.long q4), .second, iv p0, .unset, .unset, .unset, .unset] [(.int ((p0 &&& (2147483647 : Int32)) % (5 : Int32)))])) _
    refine own_top (v' := (.int 0)) (congrArg Value.int hk) ?_
    show Steps p.tables e below (s₁.setTop (mkF m 7 #[.val (.long q0), .second, .val (.long q1), .second, .val (.long q2), .second, .val (.long q3), .second, .val (.long q4), .second, iv p0, .unset, .unset, .unset, .unset] [(.int 0)])) _
    refine st1 _ ?_
    show Steps p.tables e below (T1.setTop (mkF m 10 #[.val (.long q0), .second, .val (.long q1), .second, .val (.long q2), .second, .val (.long q3), .second, .val (.long q4), .second, iv p0, .unset, .unset, .unset, .unset] [(.ref w_INPUT)])) _
    refine XS.astore X1.here hx rfl (hb hby at_10) rfl rfl (l' := #[.val (.long q0), .second, .val (.long q1), .second, .val (.long q2), .second, .val (.long q3), .second, .val (.long q4), .second, iv p0, rv w_INPUT, .unset, .unset, .unset]) rfl ?_
    show Steps p.tables e below (T1.setTop (mkF m 12 #[.val (.long q0), .second, .val (.long q1), .second, .val (.long q2), .second, .val (.long q3), .second, .val (.long q4), .second, iv p0, rv w_INPUT, .unset, .unset, .unset] [])) _
    refine st2 _ ?_
    show Steps p.tables e below (T2.setTop (mkF m 15 #[.val (.long q0), .second, .val (.long q1), .second, .val (.long q2), .second, .val (.long q3), .second, .val (.long q4), .second, iv p0, rv w_INPUT, .unset, .unset, .unset] [(.ref b2)])) _
    refine XS.dup X2.here hx rfl (hb hby at_15) rfl rfl ?_
    show Steps p.tables e below (T2.setTop (mkF m 16 #[.val (.long q0), .second, .val (.long q1), .second, .val (.long q2), .second, .val (.long q3), .second, .val (.long q4), .second, iv p0, rv w_INPUT, .unset, .unset, .unset] [(.ref b2), (.ref b2)])) _
    refine st4.trans ?_
    show Steps p.tables e below (T4.setTop (mkF m 19 #[.val (.long q0), .second, .val (.long q1), .second, .val (.long q2), .second, .val (.long q3), .second, .val (.long q4), .second, iv p0, rv w_INPUT, .unset, .unset, .unset] [(.ref b2)])) _
    refine XS.astore X4.here hx rfl (hb hby at_19) rfl rfl (l' := #[.val (.long q0), .second, .val (.long q1), .second, .val (.long q2), .second, .val (.long q3), .second, .val (.long q4), .second, iv p0, rv w_INPUT, rv b2, .unset, .unset]) rfl ?_
    show Steps p.tables e below (T4.setTop (mkF m 21 #[.val (.long q0), .second, .val (.long q1), .second, .val (.long q2), .second, .val (.long q3), .second, .val (.long q4), .second, iv p0, rv w_INPUT, rv b2, .unset, .unset] [])) _
    refine XS.aload X4.here hx rfl (hb hby at_21) rfl rfl ?_
    show Steps p.tables e below (T4.setTop (mkF m 23 #[.val (.long q0), .second, .val (.long q1), .second, .val (.long q2), .second, .val (.long q3), .second, .val (.long q4), .second, iv p0, rv w_INPUT, rv b2, .unset, .unset] [(.ref b2)])) _
    refine XS.lloadN X4.here hx rfl (hb hby at_23) rfl ?_
    show Steps p.tables e below (T4.setTop (mkF m 24 #[.val (.long q0), .second, .val (.long q1), .second, .val (.long q2), .second, .val (.long q3), .second, .val (.long q4), .second, iv p0, rv w_INPUT, rv b2, .unset, .unset] [(.long q1), (.ref b2)])) _
    refine XS.lload X4.here hx rfl (hb hby at_24) rfl ?_
    show Steps p.tables e below (T4.setTop (mkF m 26 #[.val (.long q0), .second, .val (.long q1), .second, .val (.long q2), .second, .val (.long q3), .second, .val (.long q4), .second, iv p0, rv w_INPUT, rv b2, .unset, .unset] [(.long q2), (.long q1), (.ref b2)])) _
    refine XS.lload X4.here hx rfl (hb hby at_26) rfl ?_
    show Steps p.tables e below (T4.setTop (mkF m 28 #[.val (.long q0), .second, .val (.long q1), .second, .val (.long q2), .second, .val (.long q3), .second, .val (.long q4), .second, iv p0, rv w_INPUT, rv b2, .unset, .unset] [(.long q3), (.long q2), (.long q1), (.ref b2)])) _
    refine XS.lload X4.here hx rfl (hb hby at_28) rfl ?_
    show Steps p.tables e below (T4.setTop (mkF m 30 #[.val (.long q0), .second, .val (.long q1), .second, .val (.long q2), .second, .val (.long q3), .second, .val (.long q4), .second, iv p0, rv w_INPUT, rv b2, .unset, .unset] [(.long q4), (.long q3), (.long q2), (.long q1), (.ref b2)])) _
    refine XS.lloadN X4.here hx rfl (hb hby at_30) rfl ?_
    show Steps p.tables e below (T4.setTop (mkF m 31 #[.val (.long q0), .second, .val (.long q1), .second, .val (.long q2), .second, .val (.long q3), .second, .val (.long q4), .second, iv p0, rv w_INPUT, rv b2, .unset, .unset] [(.long q0), (.long q4), (.long q3), (.long q2), (.long q1), (.ref b2)])) _
    refine st15.trans ?_
    show Steps p.tables e below (T15.setTop (mkF m 34 #[.val (.long q0), .second, .val (.long q1), .second, .val (.long q2), .second, .val (.long q3), .second, .val (.long q4), .second, iv p0, rv w_INPUT, rv b2, .unset, .unset] [])) _
    refine XS.aload X15.here hx rfl (hb hby at_34) rfl rfl ?_
    show Steps p.tables e below (T15.setTop (mkF m 36 #[.val (.long q0), .second, .val (.long q1), .second, .val (.long q2), .second, .val (.long q3), .second, .val (.long q4), .second, iv p0, rv w_INPUT, rv b2, .unset, .unset] [(.ref b2)])) _
    refine XS.aload X15.here hx rfl (hb hby at_36) rfl rfl ?_
    show Steps p.tables e below (T15.setTop (mkF m 38 #[.val (.long q0), .second, .val (.long q1), .second, .val (.long q2), .second, .val (.long q3), .second, .val (.long q4), .second, iv p0, rv w_INPUT, rv b2, .unset, .unset] [(.ref w_INPUT), (.ref b2)])) _
    refine XS.lload X15.here hx rfl (hb hby at_38) rfl ?_
    show Steps p.tables e below (T15.setTop (mkF m 40 #[.val (.long q0), .second, .val (.long q1), .second, .val (.long q2), .second, .val (.long q3), .second, .val (.long q4), .second, iv p0, rv w_INPUT, rv b2, .unset, .unset] [(.long q4), (.ref w_INPUT), (.ref b2)])) _
    refine st28.trans ?_
    show Steps p.tables e below (T28.setTop (mkF m 43 #[.val (.long q0), .second, .val (.long q1), .second, .val (.long q2), .second, .val (.long q3), .second, .val (.long q4), .second, iv p0, rv w_INPUT, rv b2, .unset, .unset] [])) _
    refine XS.aload X28.here hx rfl (hb hby at_43) rfl rfl ?_
    show Steps p.tables e below (T28.setTop (mkF m 45 #[.val (.long q0), .second, .val (.long q1), .second, .val (.long q2), .second, .val (.long q3), .second, .val (.long q4), .second, iv p0, rv w_INPUT, rv b2, .unset, .unset] [(.ref b2)])) _
    refine XS.lloadN X28.here hx rfl (hb hby at_45) rfl ?_
    show Steps p.tables e below (T28.setTop (mkF m 46 #[.val (.long q0), .second, .val (.long q1), .second, .val (.long q2), .second, .val (.long q3), .second, .val (.long q4), .second, iv p0, rv w_INPUT, rv b2, .unset, .unset] [(.long q0), (.ref b2)])) _
    refine XS.lloadN X28.here hx rfl (hb hby at_46) rfl ?_
    show Steps p.tables e below (T28.setTop (mkF m 47 #[.val (.long q0), .second, .val (.long q1), .second, .val (.long q2), .second, .val (.long q3), .second, .val (.long q4), .second, iv p0, rv w_INPUT, rv b2, .unset, .unset] [(.long q1), (.long q0), (.ref b2)])) _
    refine XS.lload X28.here hx rfl (hb hby at_47) rfl ?_
    show Steps p.tables e below (T28.setTop (mkF m 49 #[.val (.long q0), .second, .val (.long q1), .second, .val (.long q2), .second, .val (.long q3), .second, .val (.long q4), .second, iv p0, rv w_INPUT, rv b2, .unset, .unset] [(.long q2), (.long q1), (.long q0), (.ref b2)])) _
    refine XS.lload X28.here hx rfl (hb hby at_49) rfl ?_
    show Steps p.tables e below (T28.setTop (mkF m 51 #[.val (.long q0), .second, .val (.long q1), .second, .val (.long q2), .second, .val (.long q3), .second, .val (.long q4), .second, iv p0, rv w_INPUT, rv b2, .unset, .unset] [(.long q3), (.long q2), (.long q1), (.long q0), (.ref b2)])) _
    refine XS.lload X28.here hx rfl (hb hby at_51) rfl ?_
    show Steps p.tables e below (T28.setTop (mkF m 53 #[.val (.long q0), .second, .val (.long q1), .second, .val (.long q2), .second, .val (.long q3), .second, .val (.long q4), .second, iv p0, rv w_INPUT, rv b2, .unset, .unset] [(.long q4), (.long q3), (.long q2), (.long q1), (.long q0), (.ref b2)])) _
    refine st39.trans ?_
    show Steps p.tables e below (T39.setTop (mkF m 56 #[.val (.long q0), .second, .val (.long q1), .second, .val (.long q2), .second, .val (.long q3), .second, .val (.long q4), .second, iv p0, rv w_INPUT, rv b2, .unset, .unset] [])) _
    refine XS.aload X39.here hx rfl (hb hby at_56) rfl rfl ?_
    show Steps p.tables e below (T39.setTop (mkF m 58 #[.val (.long q0), .second, .val (.long q1), .second, .val (.long q2), .second, .val (.long q3), .second, .val (.long q4), .second, iv p0, rv w_INPUT, rv b2, .unset, .unset] [(.ref b2)])) _
    refine st50.trans ?_
    show Steps p.tables e below (T50.setTop (mkF m 61 #[.val (.long q0), .second, .val (.long q1), .second, .val (.long q2), .second, .val (.long q3), .second, .val (.long q4), .second, iv p0, rv w_INPUT, rv b2, .unset, .unset] [(.long q0)])) _
    refine XS.lloadN X50.here hx rfl (hb hby at_61) rfl ?_
    show Steps p.tables e below (T50.setTop (mkF m 62 #[.val (.long q0), .second, .val (.long q1), .second, .val (.long q2), .second, .val (.long q3), .second, .val (.long q4), .second, iv p0, rv w_INPUT, rv b2, .unset, .unset] [(.long q0), (.long q0)])) _
    refine XS.lcmp X50.here hx rfl (hb hby at_62) rfl ?_
    show Steps p.tables e below (T50.setTop (mkF m 63 #[.val (.long q0), .second, .val (.long q1), .second, .val (.long q2), .second, .val (.long q3), .second, .val (.long q4), .second, iv p0, rv w_INPUT, rv b2, .unset, .unset] [(.int (lcmpW q0 q0))])) _
    refine XS.ifNo X50.here hx rfl (hb hby at_63) rfl ((if0 _ _).trans (teq ((lw_eq _ _).mpr rfl)).2) ?_
    show Steps p.tables e below (T50.setTop (mkF m 66 #[.val (.long q0), .second, .val (.long q1), .second, .val (.long q2), .second, .val (.long q3), .second, .val (.long q4), .second, iv p0, rv w_INPUT, rv b2, .unset, .unset] [])) _
    refine XS.aload X50.here hx rfl (hb hby at_66) rfl rfl ?_
    show Steps p.tables e below (T50.setTop (mkF m 68 #[.val (.long q0), .second, .val (.long q1), .second, .val (.long q2), .second, .val (.long q3), .second, .val (.long q4), .second, iv p0, rv w_INPUT, rv b2, .unset, .unset] [(.ref b2)])) _
    refine st51.trans ?_
    show Steps p.tables e below (T51.setTop (mkF m 71 #[.val (.long q0), .second, .val (.long q1), .second, .val (.long q2), .second, .val (.long q3), .second, .val (.long q4), .second, iv p0, rv w_INPUT, rv b2, .unset, .unset] [(.long q1)])) _
    refine XS.lloadN X51.here hx rfl (hb hby at_71) rfl ?_
    show Steps p.tables e below (T51.setTop (mkF m 72 #[.val (.long q0), .second, .val (.long q1), .second, .val (.long q2), .second, .val (.long q3), .second, .val (.long q4), .second, iv p0, rv w_INPUT, rv b2, .unset, .unset] [(.long q1), (.long q1)])) _
    refine XS.lcmp X51.here hx rfl (hb hby at_72) rfl ?_
    show Steps p.tables e below (T51.setTop (mkF m 73 #[.val (.long q0), .second, .val (.long q1), .second, .val (.long q2), .second, .val (.long q3), .second, .val (.long q4), .second, iv p0, rv w_INPUT, rv b2, .unset, .unset] [(.int (lcmpW q1 q1))])) _
    refine XS.ifNo X51.here hx rfl (hb hby at_73) rfl ((if0 _ _).trans (teq ((lw_eq _ _).mpr rfl)).2) ?_
    show Steps p.tables e below (T51.setTop (mkF m 76 #[.val (.long q0), .second, .val (.long q1), .second, .val (.long q2), .second, .val (.long q3), .second, .val (.long q4), .second, iv p0, rv w_INPUT, rv b2, .unset, .unset] [])) _
    refine XS.aload X51.here hx rfl (hb hby at_76) rfl rfl ?_
    show Steps p.tables e below (T51.setTop (mkF m 78 #[.val (.long q0), .second, .val (.long q1), .second, .val (.long q2), .second, .val (.long q3), .second, .val (.long q4), .second, iv p0, rv w_INPUT, rv b2, .unset, .unset] [(.ref b2)])) _
    refine st52.trans ?_
    show Steps p.tables e below (T52.setTop (mkF m 81 #[.val (.long q0), .second, .val (.long q1), .second, .val (.long q2), .second, .val (.long q3), .second, .val (.long q4), .second, iv p0, rv w_INPUT, rv b2, .unset, .unset] [(.long q2)])) _
    refine XS.lload X52.here hx rfl (hb hby at_81) rfl ?_
    show Steps p.tables e below (T52.setTop (mkF m 83 #[.val (.long q0), .second, .val (.long q1), .second, .val (.long q2), .second, .val (.long q3), .second, .val (.long q4), .second, iv p0, rv w_INPUT, rv b2, .unset, .unset] [(.long q2), (.long q2)])) _
    refine XS.lcmp X52.here hx rfl (hb hby at_83) rfl ?_
    show Steps p.tables e below (T52.setTop (mkF m 84 #[.val (.long q0), .second, .val (.long q1), .second, .val (.long q2), .second, .val (.long q3), .second, .val (.long q4), .second, iv p0, rv w_INPUT, rv b2, .unset, .unset] [(.int (lcmpW q2 q2))])) _
    refine XS.ifNo X52.here hx rfl (hb hby at_84) rfl ((if0 _ _).trans (teq ((lw_eq _ _).mpr rfl)).2) ?_
    show Steps p.tables e below (T52.setTop (mkF m 87 #[.val (.long q0), .second, .val (.long q1), .second, .val (.long q2), .second, .val (.long q3), .second, .val (.long q4), .second, iv p0, rv w_INPUT, rv b2, .unset, .unset] [])) _
    refine XS.aload X52.here hx rfl (hb hby at_87) rfl rfl ?_
    show Steps p.tables e below (T52.setTop (mkF m 89 #[.val (.long q0), .second, .val (.long q1), .second, .val (.long q2), .second, .val (.long q3), .second, .val (.long q4), .second, iv p0, rv w_INPUT, rv b2, .unset, .unset] [(.ref b2)])) _
    refine st53.trans ?_
    show Steps p.tables e below (T53.setTop (mkF m 92 #[.val (.long q0), .second, .val (.long q1), .second, .val (.long q2), .second, .val (.long q3), .second, .val (.long q4), .second, iv p0, rv w_INPUT, rv b2, .unset, .unset] [(.long q3)])) _
    refine XS.lload X53.here hx rfl (hb hby at_92) rfl ?_
    show Steps p.tables e below (T53.setTop (mkF m 94 #[.val (.long q0), .second, .val (.long q1), .second, .val (.long q2), .second, .val (.long q3), .second, .val (.long q4), .second, iv p0, rv w_INPUT, rv b2, .unset, .unset] [(.long q3), (.long q3)])) _
    refine XS.lcmp X53.here hx rfl (hb hby at_94) rfl ?_
    show Steps p.tables e below (T53.setTop (mkF m 95 #[.val (.long q0), .second, .val (.long q1), .second, .val (.long q2), .second, .val (.long q3), .second, .val (.long q4), .second, iv p0, rv w_INPUT, rv b2, .unset, .unset] [(.int (lcmpW q3 q3))])) _
    refine XS.ifNo X53.here hx rfl (hb hby at_95) rfl ((if0 _ _).trans (teq ((lw_eq _ _).mpr rfl)).2) ?_
    show Steps p.tables e below (T53.setTop (mkF m 98 #[.val (.long q0), .second, .val (.long q1), .second, .val (.long q2), .second, .val (.long q3), .second, .val (.long q4), .second, iv p0, rv w_INPUT, rv b2, .unset, .unset] [])) _
    refine XS.aload X53.here hx rfl (hb hby at_98) rfl rfl ?_
    show Steps p.tables e below (T53.setTop (mkF m 100 #[.val (.long q0), .second, .val (.long q1), .second, .val (.long q2), .second, .val (.long q3), .second, .val (.long q4), .second, iv p0, rv w_INPUT, rv b2, .unset, .unset] [(.ref b2)])) _
    refine st54.trans ?_
    show Steps p.tables e below (T54.setTop (mkF m 103 #[.val (.long q0), .second, .val (.long q1), .second, .val (.long q2), .second, .val (.long q3), .second, .val (.long q4), .second, iv p0, rv w_INPUT, rv b2, .unset, .unset] [(.long q4)])) _
    refine XS.lload X54.here hx rfl (hb hby at_103) rfl ?_
    show Steps p.tables e below (T54.setTop (mkF m 105 #[.val (.long q0), .second, .val (.long q1), .second, .val (.long q2), .second, .val (.long q3), .second, .val (.long q4), .second, iv p0, rv w_INPUT, rv b2, .unset, .unset] [(.long q4), (.long q4)])) _
    refine XS.lcmp X54.here hx rfl (hb hby at_105) rfl ?_
    show Steps p.tables e below (T54.setTop (mkF m 106 #[.val (.long q0), .second, .val (.long q1), .second, .val (.long q2), .second, .val (.long q3), .second, .val (.long q4), .second, iv p0, rv w_INPUT, rv b2, .unset, .unset] [(.int (lcmpW q4 q4))])) _
    refine XS.ifNo X54.here hx rfl (hb hby at_106) rfl ((if0 _ _).trans (teq ((lw_eq _ _).mpr rfl)).2) ?_
    show Steps p.tables e below (T54.setTop (mkF m 109 #[.val (.long q0), .second, .val (.long q1), .second, .val (.long q2), .second, .val (.long q3), .second, .val (.long q4), .second, iv p0, rv w_INPUT, rv b2, .unset, .unset] [])) _
    refine XS.iconst X54.here hx rfl (hb hby at_109) ?_
    show Steps p.tables e below (T54.setTop (mkF m 110 #[.val (.long q0), .second, .val (.long q1), .second, .val (.long q2), .second, .val (.long q3), .second, .val (.long q4), .second, iv p0, rv w_INPUT, rv b2, .unset, .unset] [(.int 1)])) _
    refine XS.goto X54.here hx rfl (pc0 := 110) (pc' := 114) rfl (hb hby at_110) (by decide) (by decide) ?_
    show Steps p.tables e below (T54.setTop (mkF m 114 #[.val (.long q0), .second, .val (.long q1), .second, .val (.long q2), .second, .val (.long q3), .second, .val (.long q4), .second, iv p0, rv w_INPUT, rv b2, .unset, .unset] [(.int 1)])) _
    refine XS.istore X54.here hx rfl (hb hby at_114) rfl (l' := #[.val (.long q0), .second, .val (.long q1), .second, .val (.long q2), .second, .val (.long q3), .second, .val (.long q4), .second, iv p0, rv w_INPUT, rv b2, iv 1, .unset]) rfl ?_
    show Steps p.tables e below (T54.setTop (mkF m 116 #[.val (.long q0), .second, .val (.long q1), .second, .val (.long q2), .second, .val (.long q3), .second, .val (.long q4), .second, iv p0, rv w_INPUT, rv b2, iv 1, .unset] [])) _
    refine XS.aload X54.here hx rfl (hb hby at_116) rfl rfl ?_
    show Steps p.tables e below (T54.setTop (mkF m 118 #[.val (.long q0), .second, .val (.long q1), .second, .val (.long q2), .second, .val (.long q3), .second, .val (.long q4), .second, iv p0, rv w_INPUT, rv b2, iv 1, .unset] [(.ref b2)])) _
    refine st55 _ ?_
    show Steps p.tables e below (T55.setTop (mkF m 121 #[.val (.long q0), .second, .val (.long q1), .second, .val (.long q2), .second, .val (.long q3), .second, .val (.long q4), .second, iv p0, rv w_INPUT, rv b2, iv 1, .unset] [(.ref w_INPUT), (.ref b2)])) _
    refine st56.trans ?_
    show Steps p.tables e below (T56.setTop (mkF m 124 #[.val (.long q0), .second, .val (.long q1), .second, .val (.long q2), .second, .val (.long q3), .second, .val (.long q4), .second, iv p0, rv w_INPUT, rv b2, iv 1, .unset] [(.int 0)])) _
    refine XS.ifNo X56.here hx rfl (hb hby at_124) rfl ((if0 _ _).trans (teq (by decide)).2) ?_
    show Steps p.tables e below (T56.setTop (mkF m 127 #[.val (.long q0), .second, .val (.long q1), .second, .val (.long q2), .second, .val (.long q3), .second, .val (.long q4), .second, iv p0, rv w_INPUT, rv b2, iv 1, .unset] [])) _
    refine XS.aload X56.here hx rfl (hb hby at_127) rfl rfl ?_
    show Steps p.tables e below (T56.setTop (mkF m 129 #[.val (.long q0), .second, .val (.long q1), .second, .val (.long q2), .second, .val (.long q3), .second, .val (.long q4), .second, iv p0, rv w_INPUT, rv b2, iv 1, .unset] [(.ref b2)])) _
    refine XS.aload X56.here hx rfl (hb hby at_129) rfl rfl ?_
    show Steps p.tables e below (T56.setTop (mkF m 131 #[.val (.long q0), .second, .val (.long q1), .second, .val (.long q2), .second, .val (.long q3), .second, .val (.long q4), .second, iv p0, rv w_INPUT, rv b2, iv 1, .unset] [(.ref w_INPUT), (.ref b2)])) _
    refine st57.trans ?_
    show Steps p.tables e below (T57.setTop (mkF m 134 #[.val (.long q0), .second, .val (.long q1), .second, .val (.long q2), .second, .val (.long q3), .second, .val (.long q4), .second, iv p0, rv w_INPUT, rv b2, iv 1, .unset] [(.int 0)])) _
    refine XS.ifNo X57.here hx rfl (hb hby at_134) rfl ((if0 _ _).trans (teq (by decide)).2) ?_
    show Steps p.tables e below (T57.setTop (mkF m 137 #[.val (.long q0), .second, .val (.long q1), .second, .val (.long q2), .second, .val (.long q3), .second, .val (.long q4), .second, iv p0, rv w_INPUT, rv b2, iv 1, .unset] [])) _
    refine XS.iconst X57.here hx rfl (hb hby at_137) ?_
    show Steps p.tables e below (T57.setTop (mkF m 138 #[.val (.long q0), .second, .val (.long q1), .second, .val (.long q2), .second, .val (.long q3), .second, .val (.long q4), .second, iv p0, rv w_INPUT, rv b2, iv 1, .unset] [(.int 1)])) _
    refine XS.goto X57.here hx rfl (pc0 := 138) (pc' := 142) rfl (hb hby at_138) (by decide) (by decide) ?_
    show Steps p.tables e below (T57.setTop (mkF m 142 #[.val (.long q0), .second, .val (.long q1), .second, .val (.long q2), .second, .val (.long q3), .second, .val (.long q4), .second, iv p0, rv w_INPUT, rv b2, iv 1, .unset] [(.int 1)])) _
    refine XS.istore X57.here hx rfl (hb hby at_142) rfl (l' := #[.val (.long q0), .second, .val (.long q1), .second, .val (.long q2), .second, .val (.long q3), .second, .val (.long q4), .second, iv p0, rv w_INPUT, rv b2, iv 1, iv 1]) rfl ?_
    show Steps p.tables e below (T57.setTop (mkF m 144 #[.val (.long q0), .second, .val (.long q1), .second, .val (.long q2), .second, .val (.long q3), .second, .val (.long q4), .second, iv p0, rv w_INPUT, rv b2, iv 1, iv 1] [])) _
    refine XS.iload X57.here hx rfl (hb hby at_144) rfl ?_
    show Steps p.tables e below (T57.setTop (mkF m 146 #[.val (.long q0), .second, .val (.long q1), .second, .val (.long q2), .second, .val (.long q3), .second, .val (.long q4), .second, iv p0, rv w_INPUT, rv b2, iv 1, iv 1] [(.int 1)])) _
    refine XS.ifNo X57.here hx rfl (hb hby at_146) rfl ((if0 _ _).trans (feq (by decide)).1) ?_
    show Steps p.tables e below (T57.setTop (mkF m 149 #[.val (.long q0), .second, .val (.long q1), .second, .val (.long q2), .second, .val (.long q3), .second, .val (.long q4), .second, iv p0, rv w_INPUT, rv b2, iv 1, iv 1] [])) _
    refine XS.iload X57.here hx rfl (hb hby at_149) rfl ?_
    show Steps p.tables e below (T57.setTop (mkF m 151 #[.val (.long q0), .second, .val (.long q1), .second, .val (.long q2), .second, .val (.long q3), .second, .val (.long q4), .second, iv p0, rv w_INPUT, rv b2, iv 1, iv 1] [(.int 1)])) _
    refine XS.ifNo X57.here hx rfl (hb hby at_151) rfl ((if0 _ _).trans (feq (by decide)).1) ?_
    show Steps p.tables e below (T57.setTop (mkF m 154 #[.val (.long q0), .second, .val (.long q1), .second, .val (.long q2), .second, .val (.long q3), .second, .val (.long q4), .second, iv p0, rv w_INPUT, rv b2, iv 1, iv 1] [])) _
    refine XS.iconst X57.here hx rfl (hb hby at_154) ?_
    show Steps p.tables e below (T57.setTop (mkF m 155 #[.val (.long q0), .second, .val (.long q1), .second, .val (.long q2), .second, .val (.long q3), .second, .val (.long q4), .second, iv p0, rv w_INPUT, rv b2, iv 1, iv 1] [(.int 1)])) _
    refine XS.goto X57.here hx rfl (pc0 := 155) (pc' := 159) rfl (hb hby at_155) (by decide) (by decide) ?_
    show Steps p.tables e below (T57.setTop (mkF m 159 #[.val (.long q0), .second, .val (.long q1), .second, .val (.long q2), .second, .val (.long q3), .second, .val (.long q4), .second, iv p0, rv w_INPUT, rv b2, iv 1, iv 1] [(.int 1)])) _
    exact retN X57 hx (t := .boolean) Bd.returns (by simp) (hb hby at_159) hr
  · show own_law0_Q Z w_INPUT w_ANIMATION w_INSETS_ANIMATION w_TRAVERSAL w_COMMIT q0 q1 q2 q3 q4 p0 h0 n0 _ T57.heap _
    rw [e57]
    exact ⟨rfl, N57, trivial⟩
theorem own_law1_ef (m : MethodId) (q0 : Int64) (q1 : Int64) (q2 : Int64) (q3 : Int64) (q4 : Int64) (p0 : Int32) : entryFrame m #[(.long q0), (.long q1), (.long q2), (.long q3), (.long q4), (.int p0)] maxLocals = mkF m 0 #[.val (.long q0), .second, .val (.long q1), .second, .val (.long q2), .second, .val (.long q3), .second, .val (.long q4), .second, iv p0, .unset, .unset, .unset, .unset] [] := by first | (simp [entryFrame, mkF, argsToLocals, Value.category, maxLocals]; done) | rfl
def own_law1_Q (Z : State) (w_INPUT : Addr) (w_ANIMATION : Addr) (w_INSETS_ANIMATION : Addr) (w_TRAVERSAL : Addr) (w_COMMIT : Addr) (q0 : Int64) (q1 : Int64) (q2 : Int64) (q3 : Int64) (q4 : Int64) (p0 : Int32) (h0 : Heap) (n0 : Nat) (v : Option Value) (h : Heap) (L : List Loc) : Prop := v = some (.int 1) ∧ Fr n0 L ∧ True
set_option maxRecDepth 65536 in
set_option maxHeartbeats 40000000 in
theorem own_law1 (l : Launch) (Z : State) (a0 : Array Value) (hw : ∀ d ∈ tables_1, d.before a0 Z = true) (ws : List Jvm.Cond) (w_INPUT : Addr) (w_ANIMATION : Addr) (w_INSETS_ANIMATION : Addr) (w_TRAVERSAL : Addr) (w_COMMIT : Addr) (q0 : Int64) (q1 : Int64) (q2 : Int64) (q3 : Int64) (q4 : Int64) (p0 : Int32) (h0 : Heap) (n0 : Nat) (O0 : Old Z n0 h0) (U_INPUT : own_En Z Z.heap "com/example/vsyncopate/vsyncopate/frame/FramePhase" "INPUT" "Lcom/example/vsyncopate/vsyncopate/frame/FramePhase;" w_INPUT (0 : Int32)) (U_ANIMATION : own_En Z Z.heap "com/example/vsyncopate/vsyncopate/frame/FramePhase" "ANIMATION" "Lcom/example/vsyncopate/vsyncopate/frame/FramePhase;" w_ANIMATION (1 : Int32)) (U_INSETS_ANIMATION : own_En Z Z.heap "com/example/vsyncopate/vsyncopate/frame/FramePhase" "INSETS_ANIMATION" "Lcom/example/vsyncopate/vsyncopate/frame/FramePhase;" w_INSETS_ANIMATION (2 : Int32)) (U_TRAVERSAL : own_En Z Z.heap "com/example/vsyncopate/vsyncopate/frame/FramePhase" "TRAVERSAL" "Lcom/example/vsyncopate/vsyncopate/frame/FramePhase;" w_TRAVERSAL (3 : Int32)) (U_COMMIT : own_En Z Z.heap "com/example/vsyncopate/vsyncopate/frame/FramePhase" "COMMIT" "Lcom/example/vsyncopate/vsyncopate/frame/FramePhase;" w_COMMIT (4 : Int32)) (S_PC : Sta Z Z.heap "com/example/vsyncopate/vsyncopate/frame/FrameTiming" "PHASE_COUNT" "I" (.int 5)) (hk : (p0 &&& (2147483647 : Int32)) % (5 : Int32) = (1 : Int32)) :
    MetFree l x (head1 (Jvm.Cond.code x code maxLocals ret :: ws) room_1) (fun ar U => ar = #[(.long q0), (.long q1), (.long q2), (.long q3), (.long q4), (.int p0)] ∧ Z.Warmed39 U.vm ∧ U.heap = h0) (fun _ _ _ _ _ => True) (fun _ U oc U' => ∃ v L, oc = .returned v ∧ own_law1_Q Z w_INPUT w_ANIMATION w_INSETS_ANIMATION w_TRAVERSAL w_COMMIT q0 q1 q2 q3 q4 p0 h0 n0 v U'.heap L ∧ FrameEnd U oc U' L 16 128) := by
  refine MetFree.of_bodySF (plainFor_of_name own_pn0) hisR ?_
  intro p e s m args below meth c s₁ Bd hml0 hP hK
  obtain ⟨rfl, hZ, hh⟩ := hP
  have hx := Bd.exec
  have hby := Bd.bytes
  have hml : c.maxLocals = 15 := hml0
  have hown : s.vm.findClass "com/example/vsyncopate/vsyncopate/frame/FrameTimingFrameBeginsPinLaw" = some m.cls := findClass_of_methodNamed Bd.named
  have hnm := (name_of_methodNamed Bd.named Bd.method).1
  have X0 : Stand p l e room_1 s m #[(.long q0), (.long q1), (.long q2), (.long q3), (.long q4), (.int p0)] below meth c s₁ [] 0 0 := Stand.of_body Bd
  have e0 : s₁.heap = h0 := by rw [← hh, Bd.state]; rfl
  have N0 := Fr.nil n0
  have pre0 : ∀ t, Steps p.tables e below (s₁.setTop (mkF m 0 #[.val (.long q0), .second, .val (.long q1), .second, .val (.long q2), .second, .val (.long q3), .second, .val (.long q4), .second, iv p0, .unset, .unset, .unset, .unset] [])) t → Steps p.tables e below (s₁.setTop (entryFrame m #[(.long q0), (.long q1), (.long q2), (.long q3), (.long q4), (.int p0)] maxLocals)) t := fun t k => castTop (own_law1_ef m q0 q1 q2 q3 q4 p0) k
  obtain ⟨_, _, ⟨T1, L1, k1, n1⟩, -, X1, ⟨Lc1, hQ1, l1, y1, z1⟩, st1⟩ := Jvm.LawKit.callS X0 hx (y := (⟨"com/example/vsyncopate/vsyncopate/frame/FrameTimingFrameBeginsPinLaw", "pick", "(I)Lcom/example/vsyncopate/vsyncopate/frame/FramePhase;"⟩ : MethodName)) hown (mvT hZ (hw _ (own_m 1 rfl))) (mvT hZ (hw _ (own_m 2 rfl))) (mvT hZ (hw _ (own_m 3 rfl))) (mvT hZ (hw _ (own_m 4 rfl))) (by decide) (backOf (W := 0) (own_p_1 l Z a0 hw [] w_INPUT w_ANIMATION w_INSETS_ANIMATION w_TRAVERSAL w_COMMIT  h0 n0 O0 U_INPUT U_ANIMATION U_INSETS_ANIMATION U_TRAVERSAL U_COMMIT S_PC ) hZ (hw _ (own_m 4 rfl)) (hw _ (own_m 3 rfl)) (by decide) (by decide)) (g := (mkF m 7 #[.val (.long q0), .second, .val (.long q1), .second, .val (.long q2), .second, .val (.long q3), .second, .val (.long q4), .second, iv p0, .unset, .unset, .unset, .unset] [(.int 1)])) rfl (by rw [hml]; rfl) (argsL := [(.int 1)]) (rest := []) (lenOf own_pd1 rfl) rfl (by show 2 * 0 + _ ≤ _; exact Nat.le_of_eq rfl) (hb hby at_7) (fun _ _ => ⟨rfl, e0, (by decide : 0 + 0 ≤ _), (by decide : 0 + 0 ≤ _)⟩)
  dsimp only [Pt.U, Pt.locs, Pt.cells, Pt.slots] at X1 l1 y1 z1 st1 hQ1
  subst l1 y1 z1
  obtain ⟨rfl, N1q, e1⟩ := hQ1
  have N1 := Fr.app N0 N1q
  obtain ⟨T2, h2, X2, e2, E2, A2, D2, -, st2⟩ := newO X1 hx hZ hown (hw _ (own_m 8 rfl)) (hw _ (own_m 9 rfl)) (hw _ (own_m 10 rfl)) e1 (g := (mkF m 12 #[.val (.long q0), .second, .val (.long q1), .second, .val (.long q2), .second, .val (.long q3), .second, .val (.long q4), .second, iv p0, rv w_ANIMATION, .unset, .unset, .unset] [])) rfl (hb hby at_12) (by decide) (by decide)
  obtain ⟨b2, g2⟩ : ∃ z, z = h0.size := ⟨_, rfl⟩
  rw [← g2] at A2 D2 st2
  have gg_b2 : n0 ≤ b2 := g2 ▸ own_le O0
  have O3 := O0.ext E2
  have F_phaseBeganNanos_b2 : Fld Z h2 b2 "com/example/vsyncopate/vsyncopate/frame/FrameTiming" "phaseBeganNanos" "[J" .null := D2 (Or.inr (hw _ (own_m 21 rfl))) (ty := (.array .long)) (by decide)
  have F_phaseCallbacks_b2 : Fld Z h2 b2 "com/example/vsyncopate/vsyncopate/frame/FrameTiming" "phaseCallbacks" "[I" .null := D2 (Or.inr (hw _ (own_m 24 rfl))) (ty := (.array .int)) (by decide)
  have F_frameNumber_b2 : Fld Z h2 b2 "com/example/vsyncopate/vsyncopate/frame/FrameTiming" "frameNumber" "J" (.long 0) := D2 (Or.inl (hw _ (own_m 31 rfl))) (ty := .long) (by decide)
  have F_pulseTimeNanos_b2 : Fld Z h2 b2 "com/example/vsyncopate/vsyncopate/frame/FrameTiming" "pulseTimeNanos" "J" (.long 0) := D2 (Or.inl (hw _ (own_m 33 rfl))) (ty := .long) (by decide)
  have F_frameTimeNanos_b2 : Fld Z h2 b2 "com/example/vsyncopate/vsyncopate/frame/FrameTiming" "frameTimeNanos" "J" (.long 0) := D2 (Or.inl (hw _ (own_m 35 rfl))) (ty := .long) (by decide)
  have F_skippedFrames_b2 : Fld Z h2 b2 "com/example/vsyncopate/vsyncopate/frame/FrameTiming" "skippedFrames" "J" (.long 0) := D2 (Or.inl (hw _ (own_m 37 rfl))) (ty := .long) (by decide)
  have F_beganNanos_b2 : Fld Z h2 b2 "com/example/vsyncopate/vsyncopate/frame/FrameTiming" "beganNanos" "J" (.long 0) := D2 (Or.inl (hw _ (own_m 39 rfl))) (ty := .long) (by decide)
  have F_phasesBegun_b2 : Fld Z h2 b2 "com/example/vsyncopate/vsyncopate/frame/FrameTiming" "phasesBegun" "I" (.int 0) := D2 (Or.inl (hw _ (own_m 41 rfl))) (ty := .int) (by decide)
  obtain ⟨_, _, ⟨T4, L4, k4, n4⟩, -, X4, ⟨Lc4, hQ4, l4, y4, z4⟩, st4⟩ := X2.specialBack hx (y := (⟨"com/example/vsyncopate/vsyncopate/frame/FrameTiming", "<init>", "()V"⟩ : MethodName)) rfl hown (mvT hZ (hw _ (own_m 11 rfl))) (mvT hZ (hw _ (own_m 12 rfl))) (mvT hZ (hw _ (own_m 13 rfl))) (by decide) (backOf (W := 1) (own_mk l Z a0 hw [] w_INPUT w_ANIMATION w_INSETS_ANIMATION w_TRAVERSAL w_COMMIT b2 h2 n0 O3 U_INPUT U_ANIMATION U_INSETS_ANIMATION U_TRAVERSAL U_COMMIT S_PC gg_b2 A2 F_phaseBeganNanos_b2 F_phaseCallbacks_b2 F_frameNumber_b2 F_pulseTimeNanos_b2 F_frameTimeNanos_b2 F_skippedFrames_b2 F_beganNanos_b2 F_phasesBegun_b2) hZ (hw _ (own_m 13 rfl)) (hw _ (own_m 10 rfl)) (by decide) (by decide)) (g := (mkF m 16 #[.val (.long q0), .second, .val (.long q1), .second, .val (.long q2), .second, .val (.long q3), .second, .val (.long q4), .second, iv p0, rv w_ANIMATION, .unset, .unset, .unset] [(.ref b2), (.ref b2)])) rfl (by rw [hml]; rfl) (Steps.refl _) (a := b2) (argsL := []) (rest := [(.ref b2)]) (lenOf own_pd2 rfl) rfl (by show 2 * 0 + _ ≤ _; exact Nat.le_of_eq rfl) (hb hby at_16) (fun _ _ => ⟨rfl, e2, (by decide : 1 + 2 ≤ _), (by decide : 9 + 10 ≤ _)⟩)
  dsimp only [Pt.U, Pt.locs, Pt.cells, Pt.slots] at X4 l4 y4 z4 st4 hQ4
  subst l4 y4 z4
  obtain ⟨rfl, N4q, K4, bb, cc, kb, kc, g_bb, g_cc, nba, nca, nbc, V_bb, V_cc, q5, q6, q7, q8, q9, q10, q11, q12, q13⟩ := hQ4
  have N4 := Fr.app N1 N4q
  have O14 := O3.keep K4 (allS gg_b2 all0)
  obtain ⟨cq15, kq15, q15a, q15b, q15c⟩ := isOf hZ rfl q5
  obtain ⟨_, _, ⟨T15, L15, k15, n15⟩, -, X15, ⟨Lc15, hQ15, l15, y15, z15⟩, st15⟩ := X4.virtualBack hx (y := (⟨"com/example/vsyncopate/vsyncopate/frame/FrameTiming", "frameBegins", "(JJJJJ)V"⟩ : MethodName)) (z := (⟨"com/example/vsyncopate/vsyncopate/frame/FrameTiming", "frameBegins", "(JJJJJ)V"⟩ : MethodName)) hown (mvT hZ (hw _ (own_m 25 rfl))) (mvT hZ (hw _ (own_m 26 rfl))) (notFace_of_selects (args := #[]) (mvT hZ (hw _ (own_m 28 rfl)))) (mvT hZ (hw _ (own_m 28 rfl))) (mvT hZ (hw _ (own_m 27 rfl))) (by decide) (backOf (W := 0) (own_fb l Z a0 hw [] w_INPUT w_ANIMATION w_INSETS_ANIMATION w_TRAVERSAL w_COMMIT b2 bb cc q1 q2 q3 q4 q0 (0 : Int64) (0 : Int64) (0 : Int64) (0 : Int64) (0 : Int64) (0 : Int32) T4.heap n0 O14 U_INPUT U_ANIMATION U_INSETS_ANIMATION U_TRAVERSAL U_COMMIT S_PC gg_b2 q5 q6 q7 q8 q9 q10 q11 q12 q13) hZ (hw _ (own_m 29 rfl)) (hw _ (own_m 10 rfl)) (by decide) (by decide)) q15a q15c (g := (mkF m 31 #[.val (.long q0), .second, .val (.long q1), .second, .val (.long q2), .second, .val (.long q3), .second, .val (.long q4), .second, iv p0, rv w_ANIMATION, rv b2, .unset, .unset] [(.long q0), (.long q4), (.long q3), (.long q2), (.long q1), (.ref b2)])) rfl (by rw [hml]; rfl) (Steps.refl _) (argsL := [(.long q1), (.long q2), (.long q3), (.long q4), (.long q0)]) (rest := []) (lenOf own_pd3 rfl) rfl (by show 2 * 0 + _ ≤ _; exact Nat.le_of_eq rfl) (hb hby at_31) (fun _ _ => ⟨rfl, rfl, (by decide : 3 + 0 ≤ _), (by decide : 19 + 0 ≤ _)⟩)
  dsimp only [Pt.U, Pt.locs, Pt.cells, Pt.slots] at X15 l15 y15 z15 st15 hQ15
  subst l15 y15 z15
  obtain ⟨rfl, N15q, K15, q16, q17, q18, q19, q20, q21, q22, q23, q24⟩ := hQ15
  have N15 := Fr.app N4 N15q
  have O25 := O14.keep K15 (allS gg_b2 all0)
  have f26 := (V_bb.keep K15 (ninS nba nin0))
  have f27 := (V_cc.keep K15 (ninS nca nin0))
  obtain ⟨cq28, kq28, q28a, q28b, q28c⟩ := isOf hZ rfl q16
  obtain ⟨_, _, ⟨T28, L28, k28, n28⟩, -, X28, ⟨Lc28, hQ28, l28, y28, z28⟩, st28⟩ := X15.virtualBack hx (y := (⟨"com/example/vsyncopate/vsyncopate/frame/FrameTiming", "phaseBegins", "(Lcom/example/vsyncopate/vsyncopate/frame/FramePhase;J)V"⟩ : MethodName)) (z := (⟨"com/example/vsyncopate/vsyncopate/frame/FrameTiming", "phaseBegins", "(Lcom/example/vsyncopate/vsyncopate/frame/FramePhase;J)V"⟩ : MethodName)) hown (mvT hZ (hw _ (own_m 42 rfl))) (mvT hZ (hw _ (own_m 43 rfl))) (notFace_of_selects (args := #[]) (mvT hZ (hw _ (own_m 45 rfl)))) (mvT hZ (hw _ (own_m 45 rfl))) (mvT hZ (hw _ (own_m 44 rfl))) (by decide) (backOf (W := 0) (own_pb_ANIMATION l Z a0 hw [] w_INPUT w_ANIMATION w_INSETS_ANIMATION w_TRAVERSAL w_COMMIT b2 bb cc kb kc q4 q1 q2 q3 q4 q0 (0 : Int32) T15.heap n0 O25 U_INPUT U_ANIMATION U_INSETS_ANIMATION U_TRAVERSAL U_COMMIT S_PC gg_b2 q16 q17 q18 q19 q20 q21 q22 q23 q24 g_bb g_cc nba nca nbc f26 f27) hZ (hw _ (own_m 46 rfl)) (hw _ (own_m 10 rfl)) (by decide) (by decide)) q28a q28c (g := (mkF m 40 #[.val (.long q0), .second, .val (.long q1), .second, .val (.long q2), .second, .val (.long q3), .second, .val (.long q4), .second, iv p0, rv w_ANIMATION, rv b2, .unset, .unset] [(.long q4), (.ref w_ANIMATION), (.ref b2)])) rfl (by rw [hml]; rfl) (Steps.refl _) (argsL := [(.ref w_ANIMATION), (.long q4)]) (rest := []) (lenOf own_pd4 rfl) rfl (by show 2 * 0 + _ ≤ _; exact Nat.le_of_eq rfl) (hb hby at_40) (fun _ _ => ⟨rfl, rfl, (by decide : 3 + 0 ≤ _), (by decide : 19 + 0 ≤ _)⟩)
  dsimp only [Pt.U, Pt.locs, Pt.cells, Pt.slots] at X28 l28 y28 z28 st28 hQ28
  subst l28 y28 z28
  obtain ⟨rfl, N28q, K28, q29, q30, q31, q32, q33, q34, q35, q36, q37⟩ := hQ28
  have N28 := Fr.app N15 N28q
  have O38 := O25.keep K28 (allS gg_b2 (allS g_bb (allS g_cc all0)))
  obtain ⟨cq39, kq39, q39a, q39b, q39c⟩ := isOf hZ rfl q29
  obtain ⟨_, _, ⟨T39, L39, k39, n39⟩, -, X39, ⟨Lc39, hQ39, l39, y39, z39⟩, st39⟩ := X28.virtualBack hx (y := (⟨"com/example/vsyncopate/vsyncopate/frame/FrameTiming", "frameBegins", "(JJJJJ)V"⟩ : MethodName)) (z := (⟨"com/example/vsyncopate/vsyncopate/frame/FrameTiming", "frameBegins", "(JJJJJ)V"⟩ : MethodName)) hown (mvT hZ (hw _ (own_m 25 rfl))) (mvT hZ (hw _ (own_m 26 rfl))) (notFace_of_selects (args := #[]) (mvT hZ (hw _ (own_m 28 rfl)))) (mvT hZ (hw _ (own_m 28 rfl))) (mvT hZ (hw _ (own_m 27 rfl))) (by decide) (backOf (W := 0) (own_fb l Z a0 hw [] w_INPUT w_ANIMATION w_INSETS_ANIMATION w_TRAVERSAL w_COMMIT b2 bb cc q0 q1 q2 q3 q4 q1 q2 q3 q4 q0 (2 : Int32) T28.heap n0 O38 U_INPUT U_ANIMATION U_INSETS_ANIMATION U_TRAVERSAL U_COMMIT S_PC gg_b2 q29 q30 q31 q32 q33 q34 q35 q36 q37) hZ (hw _ (own_m 29 rfl)) (hw _ (own_m 10 rfl)) (by decide) (by decide)) q39a q39c (g := (mkF m 53 #[.val (.long q0), .second, .val (.long q1), .second, .val (.long q2), .second, .val (.long q3), .second, .val (.long q4), .second, iv p0, rv w_ANIMATION, rv b2, .unset, .unset] [(.long q4), (.long q3), (.long q2), (.long q1), (.long q0), (.ref b2)])) rfl (by rw [hml]; rfl) (Steps.refl _) (argsL := [(.long q0), (.long q1), (.long q2), (.long q3), (.long q4)]) (rest := []) (lenOf own_pd3 rfl) rfl (by show 2 * 0 + _ ≤ _; exact Nat.le_of_eq rfl) (hb hby at_53) (fun _ _ => ⟨rfl, rfl, (by decide : 3 + 0 ≤ _), (by decide : 19 + 0 ≤ _)⟩)
  dsimp only [Pt.U, Pt.locs, Pt.cells, Pt.slots] at X39 l39 y39 z39 st39 hQ39
  subst l39 y39 z39
  obtain ⟨rfl, N39q, K39, q40, q41, q42, q43, q44, q45, q46, q47, q48⟩ := hQ39
  have N39 := Fr.app N28 N39q
  have O49 := O38.keep K39 (allS gg_b2 all0)
  obtain ⟨cq50, kq50, q50a, q50b, q50c⟩ := isOf hZ rfl q40
  obtain ⟨_, _, ⟨T50, L50, k50, n50⟩, -, X50, ⟨Lc50, hQ50, l50, y50, z50⟩, st50⟩ := X39.virtualBack hx (y := (⟨"com/example/vsyncopate/vsyncopate/frame/FrameTiming", "frameNumber", "()J"⟩ : MethodName)) (z := (⟨"com/example/vsyncopate/vsyncopate/frame/FrameTiming", "frameNumber", "()J"⟩ : MethodName)) hown (mvT hZ (hw _ (own_m 56 rfl))) (mvT hZ (hw _ (own_m 57 rfl))) (notFace_of_selects (args := #[]) (mvT hZ (hw _ (own_m 59 rfl)))) (mvT hZ (hw _ (own_m 59 rfl))) (mvT hZ (hw _ (own_m 58 rfl))) (by decide) (backOf (W := 0) (own_g_frameNumber l Z a0 hw [] w_INPUT w_ANIMATION w_INSETS_ANIMATION w_TRAVERSAL w_COMMIT b2 q0 T39.heap n0 O49 U_INPUT U_ANIMATION U_INSETS_ANIMATION U_TRAVERSAL U_COMMIT S_PC q43) hZ (hw _ (own_m 60 rfl)) (hw _ (own_m 10 rfl)) (by decide) (by decide)) q50a q50c (g := (mkF m 58 #[.val (.long q0), .second, .val (.long q1), .second, .val (.long q2), .second, .val (.long q3), .second, .val (.long q4), .second, iv p0, rv w_ANIMATION, rv b2, .unset, .unset] [(.ref b2)])) rfl (by rw [hml]; rfl) (Steps.refl _) (argsL := []) (rest := []) (lenOf own_pd5 rfl) rfl (by show 2 * 0 + _ ≤ _; exact Nat.le_of_eq rfl) (hb hby at_58) (fun _ _ => ⟨rfl, rfl, (by decide : 3 + 0 ≤ _), (by decide : 19 + 0 ≤ _)⟩)
  dsimp only [Pt.U, Pt.locs, Pt.cells, Pt.slots] at X50 l50 y50 z50 st50 hQ50
  subst l50 y50 z50
  obtain ⟨rfl, N50q, e50⟩ := hQ50
  have N50 := Fr.app N39 N50q
  obtain ⟨cq51, kq51, q51a, q51b, q51c⟩ := isOf hZ e50 q40
  obtain ⟨_, _, ⟨T51, L51, k51, n51⟩, -, X51, ⟨Lc51, hQ51, l51, y51, z51⟩, st51⟩ := X50.virtualBack hx (y := (⟨"com/example/vsyncopate/vsyncopate/frame/FrameTiming", "pulseTimeNanos", "()J"⟩ : MethodName)) (z := (⟨"com/example/vsyncopate/vsyncopate/frame/FrameTiming", "pulseTimeNanos", "()J"⟩ : MethodName)) hown (mvT hZ (hw _ (own_m 61 rfl))) (mvT hZ (hw _ (own_m 62 rfl))) (notFace_of_selects (args := #[]) (mvT hZ (hw _ (own_m 64 rfl)))) (mvT hZ (hw _ (own_m 64 rfl))) (mvT hZ (hw _ (own_m 63 rfl))) (by decide) (backOf (W := 0) (own_g_pulseTimeNanos l Z a0 hw [] w_INPUT w_ANIMATION w_INSETS_ANIMATION w_TRAVERSAL w_COMMIT b2 q1 T39.heap n0 O49 U_INPUT U_ANIMATION U_INSETS_ANIMATION U_TRAVERSAL U_COMMIT S_PC q44) hZ (hw _ (own_m 65 rfl)) (hw _ (own_m 10 rfl)) (by decide) (by decide)) q51a q51c (g := (mkF m 68 #[.val (.long q0), .second, .val (.long q1), .second, .val (.long q2), .second, .val (.long q3), .second, .val (.long q4), .second, iv p0, rv w_ANIMATION, rv b2, .unset, .unset] [(.ref b2)])) rfl (by rw [hml]; rfl) (Steps.refl _) (argsL := []) (rest := []) (lenOf own_pd5 rfl) rfl (by show 2 * 0 + _ ≤ _; exact Nat.le_of_eq rfl) (hb hby at_68) (fun _ _ => ⟨rfl, e50, (by decide : 3 + 0 ≤ _), (by decide : 19 + 0 ≤ _)⟩)
  dsimp only [Pt.U, Pt.locs, Pt.cells, Pt.slots] at X51 l51 y51 z51 st51 hQ51
  subst l51 y51 z51
  obtain ⟨rfl, N51q, e51⟩ := hQ51
  have N51 := Fr.app N50 N51q
  obtain ⟨cq52, kq52, q52a, q52b, q52c⟩ := isOf hZ e51 q40
  obtain ⟨_, _, ⟨T52, L52, k52, n52⟩, -, X52, ⟨Lc52, hQ52, l52, y52, z52⟩, st52⟩ := X51.virtualBack hx (y := (⟨"com/example/vsyncopate/vsyncopate/frame/FrameTiming", "frameTimeNanos", "()J"⟩ : MethodName)) (z := (⟨"com/example/vsyncopate/vsyncopate/frame/FrameTiming", "frameTimeNanos", "()J"⟩ : MethodName)) hown (mvT hZ (hw _ (own_m 66 rfl))) (mvT hZ (hw _ (own_m 67 rfl))) (notFace_of_selects (args := #[]) (mvT hZ (hw _ (own_m 69 rfl)))) (mvT hZ (hw _ (own_m 69 rfl))) (mvT hZ (hw _ (own_m 68 rfl))) (by decide) (backOf (W := 0) (own_g_frameTimeNanos l Z a0 hw [] w_INPUT w_ANIMATION w_INSETS_ANIMATION w_TRAVERSAL w_COMMIT b2 q2 T39.heap n0 O49 U_INPUT U_ANIMATION U_INSETS_ANIMATION U_TRAVERSAL U_COMMIT S_PC q45) hZ (hw _ (own_m 70 rfl)) (hw _ (own_m 10 rfl)) (by decide) (by decide)) q52a q52c (g := (mkF m 78 #[.val (.long q0), .second, .val (.long q1), .second, .val (.long q2), .second, .val (.long q3), .second, .val (.long q4), .second, iv p0, rv w_ANIMATION, rv b2, .unset, .unset] [(.ref b2)])) rfl (by rw [hml]; rfl) (Steps.refl _) (argsL := []) (rest := []) (lenOf own_pd5 rfl) rfl (by show 2 * 0 + _ ≤ _; exact Nat.le_of_eq rfl) (hb hby at_78) (fun _ _ => ⟨rfl, e51, (by decide : 3 + 0 ≤ _), (by decide : 19 + 0 ≤ _)⟩)
  dsimp only [Pt.U, Pt.locs, Pt.cells, Pt.slots] at X52 l52 y52 z52 st52 hQ52
  subst l52 y52 z52
  obtain ⟨rfl, N52q, e52⟩ := hQ52
  have N52 := Fr.app N51 N52q
  obtain ⟨cq53, kq53, q53a, q53b, q53c⟩ := isOf hZ e52 q40
  obtain ⟨_, _, ⟨T53, L53, k53, n53⟩, -, X53, ⟨Lc53, hQ53, l53, y53, z53⟩, st53⟩ := X52.virtualBack hx (y := (⟨"com/example/vsyncopate/vsyncopate/frame/FrameTiming", "skippedFrames", "()J"⟩ : MethodName)) (z := (⟨"com/example/vsyncopate/vsyncopate/frame/FrameTiming", "skippedFrames", "()J"⟩ : MethodName)) hown (mvT hZ (hw _ (own_m 71 rfl))) (mvT hZ (hw _ (own_m 72 rfl))) (notFace_of_selects (args := #[]) (mvT hZ (hw _ (own_m 74 rfl)))) (mvT hZ (hw _ (own_m 74 rfl))) (mvT hZ (hw _ (own_m 73 rfl))) (by decide) (backOf (W := 0) (own_g_skippedFrames l Z a0 hw [] w_INPUT w_ANIMATION w_INSETS_ANIMATION w_TRAVERSAL w_COMMIT b2 q3 T39.heap n0 O49 U_INPUT U_ANIMATION U_INSETS_ANIMATION U_TRAVERSAL U_COMMIT S_PC q46) hZ (hw _ (own_m 75 rfl)) (hw _ (own_m 10 rfl)) (by decide) (by decide)) q53a q53c (g := (mkF m 89 #[.val (.long q0), .second, .val (.long q1), .second, .val (.long q2), .second, .val (.long q3), .second, .val (.long q4), .second, iv p0, rv w_ANIMATION, rv b2, .unset, .unset] [(.ref b2)])) rfl (by rw [hml]; rfl) (Steps.refl _) (argsL := []) (rest := []) (lenOf own_pd5 rfl) rfl (by show 2 * 0 + _ ≤ _; exact Nat.le_of_eq rfl) (hb hby at_89) (fun _ _ => ⟨rfl, e52, (by decide : 3 + 0 ≤ _), (by decide : 19 + 0 ≤ _)⟩)
  dsimp only [Pt.U, Pt.locs, Pt.cells, Pt.slots] at X53 l53 y53 z53 st53 hQ53
  subst l53 y53 z53
  obtain ⟨rfl, N53q, e53⟩ := hQ53
  have N53 := Fr.app N52 N53q
  obtain ⟨cq54, kq54, q54a, q54b, q54c⟩ := isOf hZ e53 q40
  obtain ⟨_, _, ⟨T54, L54, k54, n54⟩, -, X54, ⟨Lc54, hQ54, l54, y54, z54⟩, st54⟩ := X53.virtualBack hx (y := (⟨"com/example/vsyncopate/vsyncopate/frame/FrameTiming", "beganNanos", "()J"⟩ : MethodName)) (z := (⟨"com/example/vsyncopate/vsyncopate/frame/FrameTiming", "beganNanos", "()J"⟩ : MethodName)) hown (mvT hZ (hw _ (own_m 76 rfl))) (mvT hZ (hw _ (own_m 77 rfl))) (notFace_of_selects (args := #[]) (mvT hZ (hw _ (own_m 79 rfl)))) (mvT hZ (hw _ (own_m 79 rfl))) (mvT hZ (hw _ (own_m 78 rfl))) (by decide) (backOf (W := 0) (own_g_beganNanos l Z a0 hw [] w_INPUT w_ANIMATION w_INSETS_ANIMATION w_TRAVERSAL w_COMMIT b2 q4 T39.heap n0 O49 U_INPUT U_ANIMATION U_INSETS_ANIMATION U_TRAVERSAL U_COMMIT S_PC q47) hZ (hw _ (own_m 80 rfl)) (hw _ (own_m 10 rfl)) (by decide) (by decide)) q54a q54c (g := (mkF m 100 #[.val (.long q0), .second, .val (.long q1), .second, .val (.long q2), .second, .val (.long q3), .second, .val (.long q4), .second, iv p0, rv w_ANIMATION, rv b2, .unset, .unset] [(.ref b2)])) rfl (by rw [hml]; rfl) (Steps.refl _) (argsL := []) (rest := []) (lenOf own_pd5 rfl) rfl (by show 2 * 0 + _ ≤ _; exact Nat.le_of_eq rfl) (hb hby at_100) (fun _ _ => ⟨rfl, e53, (by decide : 3 + 0 ≤ _), (by decide : 19 + 0 ≤ _)⟩)
  dsimp only [Pt.U, Pt.locs, Pt.cells, Pt.slots] at X54 l54 y54 z54 st54 hQ54
  subst l54 y54 z54
  obtain ⟨rfl, N54q, e54⟩ := hQ54
  have N54 := Fr.app N53 N54q
  obtain ⟨T55, X55, e55, st55⟩ := getS2 X54 hx hZ hown (host := "") (Or.inl (hw _ (own_m 81 rfl))) Via.refl e54 (U_INPUT.1.ext O49.2) (g := (mkF m 118 #[.val (.long q0), .second, .val (.long q1), .second, .val (.long q2), .second, .val (.long q3), .second, .val (.long q4), .second, iv p0, rv w_ANIMATION, rv b2, iv 1, .unset] [(.ref b2)])) rfl (hb hby at_118)
  obtain ⟨cq56, kq56, q56a, q56b, q56c⟩ := isOf hZ e55 q40
  obtain ⟨_, _, ⟨T56, L56, k56, n56⟩, -, X56, ⟨Lc56, hQ56, l56, y56, z56⟩, st56⟩ := X55.virtualBack hx (y := (⟨"com/example/vsyncopate/vsyncopate/frame/FrameTiming", "phaseBegan", "(Lcom/example/vsyncopate/vsyncopate/frame/FramePhase;)Z"⟩ : MethodName)) (z := (⟨"com/example/vsyncopate/vsyncopate/frame/FrameTiming", "phaseBegan", "(Lcom/example/vsyncopate/vsyncopate/frame/FramePhase;)Z"⟩ : MethodName)) hown (mvT hZ (hw _ (own_m 83 rfl))) (mvT hZ (hw _ (own_m 84 rfl))) (notFace_of_selects (args := #[]) (mvT hZ (hw _ (own_m 86 rfl)))) (mvT hZ (hw _ (own_m 86 rfl))) (mvT hZ (hw _ (own_m 85 rfl))) (by decide) (backOf (W := 0) (own_h_INPUT l Z a0 hw [] w_INPUT w_ANIMATION w_INSETS_ANIMATION w_TRAVERSAL w_COMMIT b2 T39.heap n0 O49 U_INPUT U_ANIMATION U_INSETS_ANIMATION U_TRAVERSAL U_COMMIT S_PC q48) hZ (hw _ (own_m 87 rfl)) (hw _ (own_m 10 rfl)) (by decide) (by decide)) q56a q56c (g := (mkF m 121 #[.val (.long q0), .second, .val (.long q1), .second, .val (.long q2), .second, .val (.long q3), .second, .val (.long q4), .second, iv p0, rv w_ANIMATION, rv b2, iv 1, .unset] [(.ref w_INPUT), (.ref b2)])) rfl (by rw [hml]; rfl) (Steps.refl _) (argsL := [(.ref w_INPUT)]) (rest := []) (lenOf own_pd6 rfl) rfl (by show 2 * 0 + _ ≤ _; exact Nat.le_of_eq rfl) (hb hby at_121) (fun _ _ => ⟨rfl, e55, (by decide : 3 + 0 ≤ _), (by decide : 19 + 0 ≤ _)⟩)
  dsimp only [Pt.U, Pt.locs, Pt.cells, Pt.slots] at X56 l56 y56 z56 st56 hQ56
  subst l56 y56 z56
  obtain ⟨rfl, N56q, e56⟩ := hQ56
  have N56 := Fr.app N54 N56q
  obtain ⟨cq57, kq57, q57a, q57b, q57c⟩ := isOf hZ e56 q40
  obtain ⟨_, _, ⟨T57, L57, k57, n57⟩, -, X57, ⟨Lc57, hQ57, l57, y57, z57⟩, st57⟩ := X56.virtualBack hx (y := (⟨"com/example/vsyncopate/vsyncopate/frame/FrameTiming", "phaseBegan", "(Lcom/example/vsyncopate/vsyncopate/frame/FramePhase;)Z"⟩ : MethodName)) (z := (⟨"com/example/vsyncopate/vsyncopate/frame/FrameTiming", "phaseBegan", "(Lcom/example/vsyncopate/vsyncopate/frame/FramePhase;)Z"⟩ : MethodName)) hown (mvT hZ (hw _ (own_m 83 rfl))) (mvT hZ (hw _ (own_m 84 rfl))) (notFace_of_selects (args := #[]) (mvT hZ (hw _ (own_m 86 rfl)))) (mvT hZ (hw _ (own_m 86 rfl))) (mvT hZ (hw _ (own_m 85 rfl))) (by decide) (backOf (W := 0) (own_h_ANIMATION l Z a0 hw [] w_INPUT w_ANIMATION w_INSETS_ANIMATION w_TRAVERSAL w_COMMIT b2 T39.heap n0 O49 U_INPUT U_ANIMATION U_INSETS_ANIMATION U_TRAVERSAL U_COMMIT S_PC q48) hZ (hw _ (own_m 87 rfl)) (hw _ (own_m 10 rfl)) (by decide) (by decide)) q57a q57c (g := (mkF m 131 #[.val (.long q0), .second, .val (.long q1), .second, .val (.long q2), .second, .val (.long q3), .second, .val (.long q4), .second, iv p0, rv w_ANIMATION, rv b2, iv 1, .unset] [(.ref w_ANIMATION), (.ref b2)])) rfl (by rw [hml]; rfl) (Steps.refl _) (argsL := [(.ref w_ANIMATION)]) (rest := []) (lenOf own_pd6 rfl) rfl (by show 2 * 0 + _ ≤ _; exact Nat.le_of_eq rfl) (hb hby at_131) (fun _ _ => ⟨rfl, e56, (by decide : 3 + 0 ≤ _), (by decide : 19 + 0 ≤ _)⟩)
  dsimp only [Pt.U, Pt.locs, Pt.cells, Pt.slots] at X57 l57 y57 z57 st57 hQ57
  subst l57 y57 z57
  obtain ⟨rfl, N57q, e57⟩ := hQ57
  have N57 := Fr.app N56 N57q
  obtain ⟨fs, hr, hrun, hended, hW, hsame⟩ := X57.leave (v := some (.int 1)) (fun h => by rw [Bd.returns] at h; cases h)
  refine ⟨_, _, pre0 _ ?_, hrun, hended, _, _, rfl, ?_, ⟨_, rfl⟩, hW, hsame.mono (by decide) (by decide)⟩
  · show Steps p.tables e below (s₁.setTop (mkF m 0 #[.val (.long q0), .second, .val (.long q1), .second, .val (.long q2), .second, .val (.long q3), .second, .val (.long q4), .second, iv p0, .unset, .unset, .unset, .unset] [])) _
    refine XS.iload X0.here hx rfl (hb hby at_0) rfl ?_
    show Steps p.tables e below (s₁.setTop (mkF m 2 #[.val (.long q0), .second, .val (.long q1), .second, .val (.long q2), .second, .val (.long q3), .second, .val (.long q4), .second, iv p0, .unset, .unset, .unset, .unset] [(.int p0)])) _
    refine X0.ldcInt hx hown (mvT hZ (hw _ (own_m 0 rfl))) (g := (mkF m 2 #[.val (.long q0), .second, .val (.long q1), .second, .val (.long q2), .second, .val (.long q3), .second, .val (.long q4), .second, iv p0, .unset, .unset, .unset, .unset] [(.int p0)])) rfl (hb hby at_2) _ ?_
    show Steps p.tables e below (s₁.setTop (mkF m 4 #[.val (.long q0), .second, .val (.long q1), .second, .val (.long q2), .second, .val (.long q3), .second, .val (.long q4), .second, iv p0, .unset, .unset, .unset, .unset] [(.int 2147483647), (.int p0)])) _
    refine XS.iand X0.here hx rfl (hb hby at_4) rfl ?_
    show Steps p.tables e below (s₁.setTop (mkF m 5 #[.val (.long q0), .second, .val (.long q1), .second, .val (.long q2), .second, .val (.long q3), .second, .val (.long q4), .second, iv p0, .unset, .unset, .unset, .unset] [(.int (p0 &&& (2147483647 : Int32)))])) _
    refine XS.iconst X0.here hx rfl (hb hby at_5) ?_
    show Steps p.tables e below (s₁.setTop (mkF m 6 #[.val (.long q0), .second, .val (.long q1), .second, .val (.long q2), .second, .val (.long q3), .second, .val (.long q4), .second, iv p0, .unset, .unset, .unset, .unset] [(.int 5), (.int (p0 &&& (2147483647 : Int32)))])) _
    refine iremM X0 hx rfl (hb hby at_6) rfl (by decide) ?_
    show Steps p.tables e below (s₁.setTop (mkF m 7 #[.val (.long q0), .second, .val (.long q1), .second, .val (.long q2), .second, .val (.long q3), .second, .val (.long q4), .second, iv p0, .unset, .unset, .unset, .unset] [(.int ((p0 &&& (2147483647 : Int32)) % (5 : Int32)))])) _
    refine own_top (v' := (.int 1)) (congrArg Value.int hk) ?_
    show Steps p.tables e below (s₁.setTop (mkF m 7 #[.val (.long q0), .second, .val (.long q1), .second, .val (.long q2), .second, .val (.long q3), .second, .val (.long q4), .second, iv p0, .unset, .unset, .unset, .unset] [(.int 1)])) _
    refine st1 _ ?_
    show Steps p.tables e below (T1.setTop (mkF m 10 #[.val (.long q0), .second, .val (.long q1), .second, .val (.long q2), .second, .val (.long q3), .second, .val (.long q4), .second, iv p0, .unset, .unset, .unset, .unset] [(.ref w_ANIMATION)])) _
    refine XS.astore X1.here hx rfl (hb hby at_10) rfl rfl (l' := #[.val (.long q0), .second, .val (.long q1), .second, .val (.long q2), .second, .val (.long q3), .second, .val (.long q4), .second, iv p0, rv w_ANIMATION, .unset, .unset, .unset]) rfl ?_
    show Steps p.tables e below (T1.setTop (mkF m 12 #[.val (.long q0), .second, .val (.long q1), .second, .val (.long q2), .second, .val (.long q3), .second, .val (.long q4), .second, iv p0, rv w_ANIMATION, .unset, .unset, .unset] [])) _
    refine st2 _ ?_
    show Steps p.tables e below (T2.setTop (mkF m 15 #[.val (.long q0), .second, .val (.long q1), .second, .val (.long q2), .second, .val (.long q3), .second, .val (.long q4), .second, iv p0, rv w_ANIMATION, .unset, .unset, .unset] [(.ref b2)])) _
    refine XS.dup X2.here hx rfl (hb hby at_15) rfl rfl ?_
    show Steps p.tables e below (T2.setTop (mkF m 16 #[.val (.long q0), .second, .val (.long q1), .second, .val (.long q2), .second, .val (.long q3), .second, .val (.long q4), .second, iv p0, rv w_ANIMATION, .unset, .unset, .unset] [(.ref b2), (.ref b2)])) _
    refine st4.trans ?_
    show Steps p.tables e below (T4.setTop (mkF m 19 #[.val (.long q0), .second, .val (.long q1), .second, .val (.long q2), .second, .val (.long q3), .second, .val (.long q4), .second, iv p0, rv w_ANIMATION, .unset, .unset, .unset] [(.ref b2)])) _
    refine XS.astore X4.here hx rfl (hb hby at_19) rfl rfl (l' := #[.val (.long q0), .second, .val (.long q1), .second, .val (.long q2), .second, .val (.long q3), .second, .val (.long q4), .second, iv p0, rv w_ANIMATION, rv b2, .unset, .unset]) rfl ?_
    show Steps p.tables e below (T4.setTop (mkF m 21 #[.val (.long q0), .second, .val (.long q1), .second, .val (.long q2), .second, .val (.long q3), .second, .val (.long q4), .second, iv p0, rv w_ANIMATION, rv b2, .unset, .unset] [])) _
    refine XS.aload X4.here hx rfl (hb hby at_21) rfl rfl ?_
    show Steps p.tables e below (T4.setTop (mkF m 23 #[.val (.long q0), .second, .val (.long q1), .second, .val (.long q2), .second, .val (.long q3), .second, .val (.long q4), .second, iv p0, rv w_ANIMATION, rv b2, .unset, .unset] [(.ref b2)])) _
    refine XS.lloadN X4.here hx rfl (hb hby at_23) rfl ?_
    show Steps p.tables e below (T4.setTop (mkF m 24 #[.val (.long q0), .second, .val (.long q1), .second, .val (.long q2), .second, .val (.long q3), .second, .val (.long q4), .second, iv p0, rv w_ANIMATION, rv b2, .unset, .unset] [(.long q1), (.ref b2)])) _
    refine XS.lload X4.here hx rfl (hb hby at_24) rfl ?_
    show Steps p.tables e below (T4.setTop (mkF m 26 #[.val (.long q0), .second, .val (.long q1), .second, .val (.long q2), .second, .val (.long q3), .second, .val (.long q4), .second, iv p0, rv w_ANIMATION, rv b2, .unset, .unset] [(.long q2), (.long q1), (.ref b2)])) _
    refine XS.lload X4.here hx rfl (hb hby at_26) rfl ?_
    show Steps p.tables e below (T4.setTop (mkF m 28 #[.val (.long q0), .second, .val (.long q1), .second, .val (.long q2), .second, .val (.long q3), .second, .val (.long q4), .second, iv p0, rv w_ANIMATION, rv b2, .unset, .unset] [(.long q3), (.long q2), (.long q1), (.ref b2)])) _
    refine XS.lload X4.here hx rfl (hb hby at_28) rfl ?_
    show Steps p.tables e below (T4.setTop (mkF m 30 #[.val (.long q0), .second, .val (.long q1), .second, .val (.long q2), .second, .val (.long q3), .second, .val (.long q4), .second, iv p0, rv w_ANIMATION, rv b2, .unset, .unset] [(.long q4), (.long q3), (.long q2), (.long q1), (.ref b2)])) _
    refine XS.lloadN X4.here hx rfl (hb hby at_30) rfl ?_
    show Steps p.tables e below (T4.setTop (mkF m 31 #[.val (.long q0), .second, .val (.long q1), .second, .val (.long q2), .second, .val (.long q3), .second, .val (.long q4), .second, iv p0, rv w_ANIMATION, rv b2, .unset, .unset] [(.long q0), (.long q4), (.long q3), (.long q2), (.long q1), (.ref b2)])) _
    refine st15.trans ?_
    show Steps p.tables e below (T15.setTop (mkF m 34 #[.val (.long q0), .second, .val (.long q1), .second, .val (.long q2), .second, .val (.long q3), .second, .val (.long q4), .second, iv p0, rv w_ANIMATION, rv b2, .unset, .unset] [])) _
    refine XS.aload X15.here hx rfl (hb hby at_34) rfl rfl ?_
    show Steps p.tables e below (T15.setTop (mkF m 36 #[.val (.long q0), .second, .val (.long q1), .second, .val (.long q2), .second, .val (.long q3), .second, .val (.long q4), .second, iv p0, rv w_ANIMATION, rv b2, .unset, .unset] [(.ref b2)])) _
    refine XS.aload X15.here hx rfl (hb hby at_36) rfl rfl ?_
    show Steps p.tables e below (T15.setTop (mkF m 38 #[.val (.long q0), .second, .val (.long q1), .second, .val (.long q2), .second, .val (.long q3), .second, .val (.long q4), .second, iv p0, rv w_ANIMATION, rv b2, .unset, .unset] [(.ref w_ANIMATION), (.ref b2)])) _
    refine XS.lload X15.here hx rfl (hb hby at_38) rfl ?_
    show Steps p.tables e below (T15.setTop (mkF m 40 #[.val (.long q0), .second, .val (.long q1), .second, .val (.long q2), .second, .val (.long q3), .second, .val (.long q4), .second, iv p0, rv w_ANIMATION, rv b2, .unset, .unset] [(.long q4), (.ref w_ANIMATION), (.ref b2)])) _
    refine st28.trans ?_
    show Steps p.tables e below (T28.setTop (mkF m 43 #[.val (.long q0), .second, .val (.long q1), .second, .val (.long q2), .second, .val (.long q3), .second, .val (.long q4), .second, iv p0, rv w_ANIMATION, rv b2, .unset, .unset] [])) _
    refine XS.aload X28.here hx rfl (hb hby at_43) rfl rfl ?_
    show Steps p.tables e below (T28.setTop (mkF m 45 #[.val (.long q0), .second, .val (.long q1), .second, .val (.long q2), .second, .val (.long q3), .second, .val (.long q4), .second, iv p0, rv w_ANIMATION, rv b2, .unset, .unset] [(.ref b2)])) _
    refine XS.lloadN X28.here hx rfl (hb hby at_45) rfl ?_
    show Steps p.tables e below (T28.setTop (mkF m 46 #[.val (.long q0), .second, .val (.long q1), .second, .val (.long q2), .second, .val (.long q3), .second, .val (.long q4), .second, iv p0, rv w_ANIMATION, rv b2, .unset, .unset] [(.long q0), (.ref b2)])) _
    refine XS.lloadN X28.here hx rfl (hb hby at_46) rfl ?_
    show Steps p.tables e below (T28.setTop (mkF m 47 #[.val (.long q0), .second, .val (.long q1), .second, .val (.long q2), .second, .val (.long q3), .second, .val (.long q4), .second, iv p0, rv w_ANIMATION, rv b2, .unset, .unset] [(.long q1), (.long q0), (.ref b2)])) _
    refine XS.lload X28.here hx rfl (hb hby at_47) rfl ?_
    show Steps p.tables e below (T28.setTop (mkF m 49 #[.val (.long q0), .second, .val (.long q1), .second, .val (.long q2), .second, .val (.long q3), .second, .val (.long q4), .second, iv p0, rv w_ANIMATION, rv b2, .unset, .unset] [(.long q2), (.long q1), (.long q0), (.ref b2)])) _
    refine XS.lload X28.here hx rfl (hb hby at_49) rfl ?_
    show Steps p.tables e below (T28.setTop (mkF m 51 #[.val (.long q0), .second, .val (.long q1), .second, .val (.long q2), .second, .val (.long q3), .second, .val (.long q4), .second, iv p0, rv w_ANIMATION, rv b2, .unset, .unset] [(.long q3), (.long q2), (.long q1), (.long q0), (.ref b2)])) _
    refine XS.lload X28.here hx rfl (hb hby at_51) rfl ?_
    show Steps p.tables e below (T28.setTop (mkF m 53 #[.val (.long q0), .second, .val (.long q1), .second, .val (.long q2), .second, .val (.long q3), .second, .val (.long q4), .second, iv p0, rv w_ANIMATION, rv b2, .unset, .unset] [(.long q4), (.long q3), (.long q2), (.long q1), (.long q0), (.ref b2)])) _
    refine st39.trans ?_
    show Steps p.tables e below (T39.setTop (mkF m 56 #[.val (.long q0), .second, .val (.long q1), .second, .val (.long q2), .second, .val (.long q3), .second, .val (.long q4), .second, iv p0, rv w_ANIMATION, rv b2, .unset, .unset] [])) _
    refine XS.aload X39.here hx rfl (hb hby at_56) rfl rfl ?_
    show Steps p.tables e below (T39.setTop (mkF m 58 #[.val (.long q0), .second, .val (.long q1), .second, .val (.long q2), .second, .val (.long q3), .second, .val (.long q4), .second, iv p0, rv w_ANIMATION, rv b2, .unset, .unset] [(.ref b2)])) _
    refine st50.trans ?_
    show Steps p.tables e below (T50.setTop (mkF m 61 #[.val (.long q0), .second, .val (.long q1), .second, .val (.long q2), .second, .val (.long q3), .second, .val (.long q4), .second, iv p0, rv w_ANIMATION, rv b2, .unset, .unset] [(.long q0)])) _
    refine XS.lloadN X50.here hx rfl (hb hby at_61) rfl ?_
    show Steps p.tables e below (T50.setTop (mkF m 62 #[.val (.long q0), .second, .val (.long q1), .second, .val (.long q2), .second, .val (.long q3), .second, .val (.long q4), .second, iv p0, rv w_ANIMATION, rv b2, .unset, .unset] [(.long q0), (.long q0)])) _
    refine XS.lcmp X50.here hx rfl (hb hby at_62) rfl ?_
    show Steps p.tables e below (T50.setTop (mkF m 63 #[.val (.long q0), .second, .val (.long q1), .second, .val (.long q2), .second, .val (.long q3), .second, .val (.long q4), .second, iv p0, rv w_ANIMATION, rv b2, .unset, .unset] [(.int (lcmpW q0 q0))])) _
    refine XS.ifNo X50.here hx rfl (hb hby at_63) rfl ((if0 _ _).trans (teq ((lw_eq _ _).mpr rfl)).2) ?_
    show Steps p.tables e below (T50.setTop (mkF m 66 #[.val (.long q0), .second, .val (.long q1), .second, .val (.long q2), .second, .val (.long q3), .second, .val (.long q4), .second, iv p0, rv w_ANIMATION, rv b2, .unset, .unset] [])) _
    refine XS.aload X50.here hx rfl (hb hby at_66) rfl rfl ?_
    show Steps p.tables e below (T50.setTop (mkF m 68 #[.val (.long q0), .second, .val (.long q1), .second, .val (.long q2), .second, .val (.long q3), .second, .val (.long q4), .second, iv p0, rv w_ANIMATION, rv b2, .unset, .unset] [(.ref b2)])) _
    refine st51.trans ?_
    show Steps p.tables e below (T51.setTop (mkF m 71 #[.val (.long q0), .second, .val (.long q1), .second, .val (.long q2), .second, .val (.long q3), .second, .val (.long q4), .second, iv p0, rv w_ANIMATION, rv b2, .unset, .unset] [(.long q1)])) _
    refine XS.lloadN X51.here hx rfl (hb hby at_71) rfl ?_
    show Steps p.tables e below (T51.setTop (mkF m 72 #[.val (.long q0), .second, .val (.long q1), .second, .val (.long q2), .second, .val (.long q3), .second, .val (.long q4), .second, iv p0, rv w_ANIMATION, rv b2, .unset, .unset] [(.long q1), (.long q1)])) _
    refine XS.lcmp X51.here hx rfl (hb hby at_72) rfl ?_
    show Steps p.tables e below (T51.setTop (mkF m 73 #[.val (.long q0), .second, .val (.long q1), .second, .val (.long q2), .second, .val (.long q3), .second, .val (.long q4), .second, iv p0, rv w_ANIMATION, rv b2, .unset, .unset] [(.int (lcmpW q1 q1))])) _
    refine XS.ifNo X51.here hx rfl (hb hby at_73) rfl ((if0 _ _).trans (teq ((lw_eq _ _).mpr rfl)).2) ?_
    show Steps p.tables e below (T51.setTop (mkF m 76 #[.val (.long q0), .second, .val (.long q1), .second, .val (.long q2), .second, .val (.long q3), .second, .val (.long q4), .second, iv p0, rv w_ANIMATION, rv b2, .unset, .unset] [])) _
    refine XS.aload X51.here hx rfl (hb hby at_76) rfl rfl ?_
    show Steps p.tables e below (T51.setTop (mkF m 78 #[.val (.long q0), .second, .val (.long q1), .second, .val (.long q2), .second, .val (.long q3), .second, .val (.long q4), .second, iv p0, rv w_ANIMATION, rv b2, .unset, .unset] [(.ref b2)])) _
    refine st52.trans ?_
    show Steps p.tables e below (T52.setTop (mkF m 81 #[.val (.long q0), .second, .val (.long q1), .second, .val (.long q2), .second, .val (.long q3), .second, .val (.long q4), .second, iv p0, rv w_ANIMATION, rv b2, .unset, .unset] [(.long q2)])) _
    refine XS.lload X52.here hx rfl (hb hby at_81) rfl ?_
    show Steps p.tables e below (T52.setTop (mkF m 83 #[.val (.long q0), .second, .val (.long q1), .second, .val (.long q2), .second, .val (.long q3), .second, .val (.long q4), .second, iv p0, rv w_ANIMATION, rv b2, .unset, .unset] [(.long q2), (.long q2)])) _
    refine XS.lcmp X52.here hx rfl (hb hby at_83) rfl ?_
    show Steps p.tables e below (T52.setTop (mkF m 84 #[.val (.long q0), .second, .val (.long q1), .second, .val (.long q2), .second, .val (.long q3), .second, .val (.long q4), .second, iv p0, rv w_ANIMATION, rv b2, .unset, .unset] [(.int (lcmpW q2 q2))])) _
    refine XS.ifNo X52.here hx rfl (hb hby at_84) rfl ((if0 _ _).trans (teq ((lw_eq _ _).mpr rfl)).2) ?_
    show Steps p.tables e below (T52.setTop (mkF m 87 #[.val (.long q0), .second, .val (.long q1), .second, .val (.long q2), .second, .val (.long q3), .second, .val (.long q4), .second, iv p0, rv w_ANIMATION, rv b2, .unset, .unset] [])) _
    refine XS.aload X52.here hx rfl (hb hby at_87) rfl rfl ?_
    show Steps p.tables e below (T52.setTop (mkF m 89 #[.val (.long q0), .second, .val (.long q1), .second, .val (.long q2), .second, .val (.long q3), .second, .val (.long q4), .second, iv p0, rv w_ANIMATION, rv b2, .unset, .unset] [(.ref b2)])) _
    refine st53.trans ?_
    show Steps p.tables e below (T53.setTop (mkF m 92 #[.val (.long q0), .second, .val (.long q1), .second, .val (.long q2), .second, .val (.long q3), .second, .val (.long q4), .second, iv p0, rv w_ANIMATION, rv b2, .unset, .unset] [(.long q3)])) _
    refine XS.lload X53.here hx rfl (hb hby at_92) rfl ?_
    show Steps p.tables e below (T53.setTop (mkF m 94 #[.val (.long q0), .second, .val (.long q1), .second, .val (.long q2), .second, .val (.long q3), .second, .val (.long q4), .second, iv p0, rv w_ANIMATION, rv b2, .unset, .unset] [(.long q3), (.long q3)])) _
    refine XS.lcmp X53.here hx rfl (hb hby at_94) rfl ?_
    show Steps p.tables e below (T53.setTop (mkF m 95 #[.val (.long q0), .second, .val (.long q1), .second, .val (.long q2), .second, .val (.long q3), .second, .val (.long q4), .second, iv p0, rv w_ANIMATION, rv b2, .unset, .unset] [(.int (lcmpW q3 q3))])) _
    refine XS.ifNo X53.here hx rfl (hb hby at_95) rfl ((if0 _ _).trans (teq ((lw_eq _ _).mpr rfl)).2) ?_
    show Steps p.tables e below (T53.setTop (mkF m 98 #[.val (.long q0), .second, .val (.long q1), .second, .val (.long q2), .second, .val (.long q3), .second, .val (.long q4), .second, iv p0, rv w_ANIMATION, rv b2, .unset, .unset] [])) _
    refine XS.aload X53.here hx rfl (hb hby at_98) rfl rfl ?_
    show Steps p.tables e below (T53.setTop (mkF m 100 #[.val (.long q0), .second, .val (.long q1), .second, .val (.long q2), .second, .val (.long q3), .second, .val (.long q4), .second, iv p0, rv w_ANIMATION, rv b2, .unset, .unset] [(.ref b2)])) _
    refine st54.trans ?_
    show Steps p.tables e below (T54.setTop (mkF m 103 #[.val (.long q0), .second, .val (.long q1), .second, .val (.long q2), .second, .val (.long q3), .second, .val (.long q4), .second, iv p0, rv w_ANIMATION, rv b2, .unset, .unset] [(.long q4)])) _
    refine XS.lload X54.here hx rfl (hb hby at_103) rfl ?_
    show Steps p.tables e below (T54.setTop (mkF m 105 #[.val (.long q0), .second, .val (.long q1), .second, .val (.long q2), .second, .val (.long q3), .second, .val (.long q4), .second, iv p0, rv w_ANIMATION, rv b2, .unset, .unset] [(.long q4), (.long q4)])) _
    refine XS.lcmp X54.here hx rfl (hb hby at_105) rfl ?_
    show Steps p.tables e below (T54.setTop (mkF m 106 #[.val (.long q0), .second, .val (.long q1), .second, .val (.long q2), .second, .val (.long q3), .second, .val (.long q4), .second, iv p0, rv w_ANIMATION, rv b2, .unset, .unset] [(.int (lcmpW q4 q4))])) _
    refine XS.ifNo X54.here hx rfl (hb hby at_106) rfl ((if0 _ _).trans (teq ((lw_eq _ _).mpr rfl)).2) ?_
    show Steps p.tables e below (T54.setTop (mkF m 109 #[.val (.long q0), .second, .val (.long q1), .second, .val (.long q2), .second, .val (.long q3), .second, .val (.long q4), .second, iv p0, rv w_ANIMATION, rv b2, .unset, .unset] [])) _
    refine XS.iconst X54.here hx rfl (hb hby at_109) ?_
    show Steps p.tables e below (T54.setTop (mkF m 110 #[.val (.long q0), .second, .val (.long q1), .second, .val (.long q2), .second, .val (.long q3), .second, .val (.long q4), .second, iv p0, rv w_ANIMATION, rv b2, .unset, .unset] [(.int 1)])) _
    refine XS.goto X54.here hx rfl (pc0 := 110) (pc' := 114) rfl (hb hby at_110) (by decide) (by decide) ?_
    show Steps p.tables e below (T54.setTop (mkF m 114 #[.val (.long q0), .second, .val (.long q1), .second, .val (.long q2), .second, .val (.long q3), .second, .val (.long q4), .second, iv p0, rv w_ANIMATION, rv b2, .unset, .unset] [(.int 1)])) _
    refine XS.istore X54.here hx rfl (hb hby at_114) rfl (l' := #[.val (.long q0), .second, .val (.long q1), .second, .val (.long q2), .second, .val (.long q3), .second, .val (.long q4), .second, iv p0, rv w_ANIMATION, rv b2, iv 1, .unset]) rfl ?_
    show Steps p.tables e below (T54.setTop (mkF m 116 #[.val (.long q0), .second, .val (.long q1), .second, .val (.long q2), .second, .val (.long q3), .second, .val (.long q4), .second, iv p0, rv w_ANIMATION, rv b2, iv 1, .unset] [])) _
    refine XS.aload X54.here hx rfl (hb hby at_116) rfl rfl ?_
    show Steps p.tables e below (T54.setTop (mkF m 118 #[.val (.long q0), .second, .val (.long q1), .second, .val (.long q2), .second, .val (.long q3), .second, .val (.long q4), .second, iv p0, rv w_ANIMATION, rv b2, iv 1, .unset] [(.ref b2)])) _
    refine st55 _ ?_
    show Steps p.tables e below (T55.setTop (mkF m 121 #[.val (.long q0), .second, .val (.long q1), .second, .val (.long q2), .second, .val (.long q3), .second, .val (.long q4), .second, iv p0, rv w_ANIMATION, rv b2, iv 1, .unset] [(.ref w_INPUT), (.ref b2)])) _
    refine st56.trans ?_
    show Steps p.tables e below (T56.setTop (mkF m 124 #[.val (.long q0), .second, .val (.long q1), .second, .val (.long q2), .second, .val (.long q3), .second, .val (.long q4), .second, iv p0, rv w_ANIMATION, rv b2, iv 1, .unset] [(.int 0)])) _
    refine XS.ifNo X56.here hx rfl (hb hby at_124) rfl ((if0 _ _).trans (teq (by decide)).2) ?_
    show Steps p.tables e below (T56.setTop (mkF m 127 #[.val (.long q0), .second, .val (.long q1), .second, .val (.long q2), .second, .val (.long q3), .second, .val (.long q4), .second, iv p0, rv w_ANIMATION, rv b2, iv 1, .unset] [])) _
    refine XS.aload X56.here hx rfl (hb hby at_127) rfl rfl ?_
    show Steps p.tables e below (T56.setTop (mkF m 129 #[.val (.long q0), .second, .val (.long q1), .second, .val (.long q2), .second, .val (.long q3), .second, .val (.long q4), .second, iv p0, rv w_ANIMATION, rv b2, iv 1, .unset] [(.ref b2)])) _
    refine XS.aload X56.here hx rfl (hb hby at_129) rfl rfl ?_
    show Steps p.tables e below (T56.setTop (mkF m 131 #[.val (.long q0), .second, .val (.long q1), .second, .val (.long q2), .second, .val (.long q3), .second, .val (.long q4), .second, iv p0, rv w_ANIMATION, rv b2, iv 1, .unset] [(.ref w_ANIMATION), (.ref b2)])) _
    refine st57.trans ?_
    show Steps p.tables e below (T57.setTop (mkF m 134 #[.val (.long q0), .second, .val (.long q1), .second, .val (.long q2), .second, .val (.long q3), .second, .val (.long q4), .second, iv p0, rv w_ANIMATION, rv b2, iv 1, .unset] [(.int 0)])) _
    refine XS.ifNo X57.here hx rfl (hb hby at_134) rfl ((if0 _ _).trans (teq (by decide)).2) ?_
    show Steps p.tables e below (T57.setTop (mkF m 137 #[.val (.long q0), .second, .val (.long q1), .second, .val (.long q2), .second, .val (.long q3), .second, .val (.long q4), .second, iv p0, rv w_ANIMATION, rv b2, iv 1, .unset] [])) _
    refine XS.iconst X57.here hx rfl (hb hby at_137) ?_
    show Steps p.tables e below (T57.setTop (mkF m 138 #[.val (.long q0), .second, .val (.long q1), .second, .val (.long q2), .second, .val (.long q3), .second, .val (.long q4), .second, iv p0, rv w_ANIMATION, rv b2, iv 1, .unset] [(.int 1)])) _
    refine XS.goto X57.here hx rfl (pc0 := 138) (pc' := 142) rfl (hb hby at_138) (by decide) (by decide) ?_
    show Steps p.tables e below (T57.setTop (mkF m 142 #[.val (.long q0), .second, .val (.long q1), .second, .val (.long q2), .second, .val (.long q3), .second, .val (.long q4), .second, iv p0, rv w_ANIMATION, rv b2, iv 1, .unset] [(.int 1)])) _
    refine XS.istore X57.here hx rfl (hb hby at_142) rfl (l' := #[.val (.long q0), .second, .val (.long q1), .second, .val (.long q2), .second, .val (.long q3), .second, .val (.long q4), .second, iv p0, rv w_ANIMATION, rv b2, iv 1, iv 1]) rfl ?_
    show Steps p.tables e below (T57.setTop (mkF m 144 #[.val (.long q0), .second, .val (.long q1), .second, .val (.long q2), .second, .val (.long q3), .second, .val (.long q4), .second, iv p0, rv w_ANIMATION, rv b2, iv 1, iv 1] [])) _
    refine XS.iload X57.here hx rfl (hb hby at_144) rfl ?_
    show Steps p.tables e below (T57.setTop (mkF m 146 #[.val (.long q0), .second, .val (.long q1), .second, .val (.long q2), .second, .val (.long q3), .second, .val (.long q4), .second, iv p0, rv w_ANIMATION, rv b2, iv 1, iv 1] [(.int 1)])) _
    refine XS.ifNo X57.here hx rfl (hb hby at_146) rfl ((if0 _ _).trans (feq (by decide)).1) ?_
    show Steps p.tables e below (T57.setTop (mkF m 149 #[.val (.long q0), .second, .val (.long q1), .second, .val (.long q2), .second, .val (.long q3), .second, .val (.long q4), .second, iv p0, rv w_ANIMATION, rv b2, iv 1, iv 1] [])) _
    refine XS.iload X57.here hx rfl (hb hby at_149) rfl ?_
    show Steps p.tables e below (T57.setTop (mkF m 151 #[.val (.long q0), .second, .val (.long q1), .second, .val (.long q2), .second, .val (.long q3), .second, .val (.long q4), .second, iv p0, rv w_ANIMATION, rv b2, iv 1, iv 1] [(.int 1)])) _
    refine XS.ifNo X57.here hx rfl (hb hby at_151) rfl ((if0 _ _).trans (feq (by decide)).1) ?_
    show Steps p.tables e below (T57.setTop (mkF m 154 #[.val (.long q0), .second, .val (.long q1), .second, .val (.long q2), .second, .val (.long q3), .second, .val (.long q4), .second, iv p0, rv w_ANIMATION, rv b2, iv 1, iv 1] [])) _
    refine XS.iconst X57.here hx rfl (hb hby at_154) ?_
    show Steps p.tables e below (T57.setTop (mkF m 155 #[.val (.long q0), .second, .val (.long q1), .second, .val (.long q2), .second, .val (.long q3), .second, .val (.long q4), .second, iv p0, rv w_ANIMATION, rv b2, iv 1, iv 1] [(.int 1)])) _
    refine XS.goto X57.here hx rfl (pc0 := 155) (pc' := 159) rfl (hb hby at_155) (by decide) (by decide) ?_
    show Steps p.tables e below (T57.setTop (mkF m 159 #[.val (.long q0), .second, .val (.long q1), .second, .val (.long q2), .second, .val (.long q3), .second, .val (.long q4), .second, iv p0, rv w_ANIMATION, rv b2, iv 1, iv 1] [(.int 1)])) _
    exact retN X57 hx (t := .boolean) Bd.returns (by simp) (hb hby at_159) hr
  · show own_law1_Q Z w_INPUT w_ANIMATION w_INSETS_ANIMATION w_TRAVERSAL w_COMMIT q0 q1 q2 q3 q4 p0 h0 n0 _ T57.heap _
    rw [e57]
    exact ⟨rfl, N57, trivial⟩
theorem own_law2_ef (m : MethodId) (q0 : Int64) (q1 : Int64) (q2 : Int64) (q3 : Int64) (q4 : Int64) (p0 : Int32) : entryFrame m #[(.long q0), (.long q1), (.long q2), (.long q3), (.long q4), (.int p0)] maxLocals = mkF m 0 #[.val (.long q0), .second, .val (.long q1), .second, .val (.long q2), .second, .val (.long q3), .second, .val (.long q4), .second, iv p0, .unset, .unset, .unset, .unset] [] := by first | (simp [entryFrame, mkF, argsToLocals, Value.category, maxLocals]; done) | rfl
def own_law2_Q (Z : State) (w_INPUT : Addr) (w_ANIMATION : Addr) (w_INSETS_ANIMATION : Addr) (w_TRAVERSAL : Addr) (w_COMMIT : Addr) (q0 : Int64) (q1 : Int64) (q2 : Int64) (q3 : Int64) (q4 : Int64) (p0 : Int32) (h0 : Heap) (n0 : Nat) (v : Option Value) (h : Heap) (L : List Loc) : Prop := v = some (.int 1) ∧ Fr n0 L ∧ True
set_option maxRecDepth 65536 in
set_option maxHeartbeats 40000000 in
theorem own_law2 (l : Launch) (Z : State) (a0 : Array Value) (hw : ∀ d ∈ tables_1, d.before a0 Z = true) (ws : List Jvm.Cond) (w_INPUT : Addr) (w_ANIMATION : Addr) (w_INSETS_ANIMATION : Addr) (w_TRAVERSAL : Addr) (w_COMMIT : Addr) (q0 : Int64) (q1 : Int64) (q2 : Int64) (q3 : Int64) (q4 : Int64) (p0 : Int32) (h0 : Heap) (n0 : Nat) (O0 : Old Z n0 h0) (U_INPUT : own_En Z Z.heap "com/example/vsyncopate/vsyncopate/frame/FramePhase" "INPUT" "Lcom/example/vsyncopate/vsyncopate/frame/FramePhase;" w_INPUT (0 : Int32)) (U_ANIMATION : own_En Z Z.heap "com/example/vsyncopate/vsyncopate/frame/FramePhase" "ANIMATION" "Lcom/example/vsyncopate/vsyncopate/frame/FramePhase;" w_ANIMATION (1 : Int32)) (U_INSETS_ANIMATION : own_En Z Z.heap "com/example/vsyncopate/vsyncopate/frame/FramePhase" "INSETS_ANIMATION" "Lcom/example/vsyncopate/vsyncopate/frame/FramePhase;" w_INSETS_ANIMATION (2 : Int32)) (U_TRAVERSAL : own_En Z Z.heap "com/example/vsyncopate/vsyncopate/frame/FramePhase" "TRAVERSAL" "Lcom/example/vsyncopate/vsyncopate/frame/FramePhase;" w_TRAVERSAL (3 : Int32)) (U_COMMIT : own_En Z Z.heap "com/example/vsyncopate/vsyncopate/frame/FramePhase" "COMMIT" "Lcom/example/vsyncopate/vsyncopate/frame/FramePhase;" w_COMMIT (4 : Int32)) (S_PC : Sta Z Z.heap "com/example/vsyncopate/vsyncopate/frame/FrameTiming" "PHASE_COUNT" "I" (.int 5)) (hk : (p0 &&& (2147483647 : Int32)) % (5 : Int32) = (2 : Int32)) :
    MetFree l x (head1 (Jvm.Cond.code x code maxLocals ret :: ws) room_1) (fun ar U => ar = #[(.long q0), (.long q1), (.long q2), (.long q3), (.long q4), (.int p0)] ∧ Z.Warmed39 U.vm ∧ U.heap = h0) (fun _ _ _ _ _ => True) (fun _ U oc U' => ∃ v L, oc = .returned v ∧ own_law2_Q Z w_INPUT w_ANIMATION w_INSETS_ANIMATION w_TRAVERSAL w_COMMIT q0 q1 q2 q3 q4 p0 h0 n0 v U'.heap L ∧ FrameEnd U oc U' L 16 128) := by
  refine MetFree.of_bodySF (plainFor_of_name own_pn0) hisR ?_
  intro p e s m args below meth c s₁ Bd hml0 hP hK
  obtain ⟨rfl, hZ, hh⟩ := hP
  have hx := Bd.exec
  have hby := Bd.bytes
  have hml : c.maxLocals = 15 := hml0
  have hown : s.vm.findClass "com/example/vsyncopate/vsyncopate/frame/FrameTimingFrameBeginsPinLaw" = some m.cls := findClass_of_methodNamed Bd.named
  have hnm := (name_of_methodNamed Bd.named Bd.method).1
  have X0 : Stand p l e room_1 s m #[(.long q0), (.long q1), (.long q2), (.long q3), (.long q4), (.int p0)] below meth c s₁ [] 0 0 := Stand.of_body Bd
  have e0 : s₁.heap = h0 := by rw [← hh, Bd.state]; rfl
  have N0 := Fr.nil n0
  have pre0 : ∀ t, Steps p.tables e below (s₁.setTop (mkF m 0 #[.val (.long q0), .second, .val (.long q1), .second, .val (.long q2), .second, .val (.long q3), .second, .val (.long q4), .second, iv p0, .unset, .unset, .unset, .unset] [])) t → Steps p.tables e below (s₁.setTop (entryFrame m #[(.long q0), (.long q1), (.long q2), (.long q3), (.long q4), (.int p0)] maxLocals)) t := fun t k => castTop (own_law2_ef m q0 q1 q2 q3 q4 p0) k
  obtain ⟨_, _, ⟨T1, L1, k1, n1⟩, -, X1, ⟨Lc1, hQ1, l1, y1, z1⟩, st1⟩ := Jvm.LawKit.callS X0 hx (y := (⟨"com/example/vsyncopate/vsyncopate/frame/FrameTimingFrameBeginsPinLaw", "pick", "(I)Lcom/example/vsyncopate/vsyncopate/frame/FramePhase;"⟩ : MethodName)) hown (mvT hZ (hw _ (own_m 1 rfl))) (mvT hZ (hw _ (own_m 2 rfl))) (mvT hZ (hw _ (own_m 3 rfl))) (mvT hZ (hw _ (own_m 4 rfl))) (by decide) (backOf (W := 0) (own_p_2 l Z a0 hw [] w_INPUT w_ANIMATION w_INSETS_ANIMATION w_TRAVERSAL w_COMMIT  h0 n0 O0 U_INPUT U_ANIMATION U_INSETS_ANIMATION U_TRAVERSAL U_COMMIT S_PC ) hZ (hw _ (own_m 4 rfl)) (hw _ (own_m 3 rfl)) (by decide) (by decide)) (g := (mkF m 7 #[.val (.long q0), .second, .val (.long q1), .second, .val (.long q2), .second, .val (.long q3), .second, .val (.long q4), .second, iv p0, .unset, .unset, .unset, .unset] [(.int 2)])) rfl (by rw [hml]; rfl) (argsL := [(.int 2)]) (rest := []) (lenOf own_pd1 rfl) rfl (by show 2 * 0 + _ ≤ _; exact Nat.le_of_eq rfl) (hb hby at_7) (fun _ _ => ⟨rfl, e0, (by decide : 0 + 0 ≤ _), (by decide : 0 + 0 ≤ _)⟩)
  dsimp only [Pt.U, Pt.locs, Pt.cells, Pt.slots] at X1 l1 y1 z1 st1 hQ1
  subst l1 y1 z1
  obtain ⟨rfl, N1q, e1⟩ := hQ1
  have N1 := Fr.app N0 N1q
  obtain ⟨T2, h2, X2, e2, E2, A2, D2, -, st2⟩ := newO X1 hx hZ hown (hw _ (own_m 8 rfl)) (hw _ (own_m 9 rfl)) (hw _ (own_m 10 rfl)) e1 (g := (mkF m 12 #[.val (.long q0), .second, .val (.long q1), .second, .val (.long q2), .second, .val (.long q3), .second, .val (.long q4), .second, iv p0, rv w_INSETS_ANIMATION, .unset, .unset, .unset] [])) rfl (hb hby at_12) (by decide) (by decide)
  obtain ⟨b2, g2⟩ : ∃ z, z = h0.size := ⟨_, rfl⟩
  rw [← g2] at A2 D2 st2
  have gg_b2 : n0 ≤ b2 := g2 ▸ own_le O0
  have O3 := O0.ext E2
  have F_phaseBeganNanos_b2 : Fld Z h2 b2 "com/example/vsyncopate/vsyncopate/frame/FrameTiming" "phaseBeganNanos" "[J" .null := D2 (Or.inr (hw _ (own_m 21 rfl))) (ty := (.array .long)) (by decide)
  have F_phaseCallbacks_b2 : Fld Z h2 b2 "com/example/vsyncopate/vsyncopate/frame/FrameTiming" "phaseCallbacks" "[I" .null := D2 (Or.inr (hw _ (own_m 24 rfl))) (ty := (.array .int)) (by decide)
  have F_frameNumber_b2 : Fld Z h2 b2 "com/example/vsyncopate/vsyncopate/frame/FrameTiming" "frameNumber" "J" (.long 0) := D2 (Or.inl (hw _ (own_m 31 rfl))) (ty := .long) (by decide)
  have F_pulseTimeNanos_b2 : Fld Z h2 b2 "com/example/vsyncopate/vsyncopate/frame/FrameTiming" "pulseTimeNanos" "J" (.long 0) := D2 (Or.inl (hw _ (own_m 33 rfl))) (ty := .long) (by decide)
  have F_frameTimeNanos_b2 : Fld Z h2 b2 "com/example/vsyncopate/vsyncopate/frame/FrameTiming" "frameTimeNanos" "J" (.long 0) := D2 (Or.inl (hw _ (own_m 35 rfl))) (ty := .long) (by decide)
  have F_skippedFrames_b2 : Fld Z h2 b2 "com/example/vsyncopate/vsyncopate/frame/FrameTiming" "skippedFrames" "J" (.long 0) := D2 (Or.inl (hw _ (own_m 37 rfl))) (ty := .long) (by decide)
  have F_beganNanos_b2 : Fld Z h2 b2 "com/example/vsyncopate/vsyncopate/frame/FrameTiming" "beganNanos" "J" (.long 0) := D2 (Or.inl (hw _ (own_m 39 rfl))) (ty := .long) (by decide)
  have F_phasesBegun_b2 : Fld Z h2 b2 "com/example/vsyncopate/vsyncopate/frame/FrameTiming" "phasesBegun" "I" (.int 0) := D2 (Or.inl (hw _ (own_m 41 rfl))) (ty := .int) (by decide)
  obtain ⟨_, _, ⟨T4, L4, k4, n4⟩, -, X4, ⟨Lc4, hQ4, l4, y4, z4⟩, st4⟩ := X2.specialBack hx (y := (⟨"com/example/vsyncopate/vsyncopate/frame/FrameTiming", "<init>", "()V"⟩ : MethodName)) rfl hown (mvT hZ (hw _ (own_m 11 rfl))) (mvT hZ (hw _ (own_m 12 rfl))) (mvT hZ (hw _ (own_m 13 rfl))) (by decide) (backOf (W := 1) (own_mk l Z a0 hw [] w_INPUT w_ANIMATION w_INSETS_ANIMATION w_TRAVERSAL w_COMMIT b2 h2 n0 O3 U_INPUT U_ANIMATION U_INSETS_ANIMATION U_TRAVERSAL U_COMMIT S_PC gg_b2 A2 F_phaseBeganNanos_b2 F_phaseCallbacks_b2 F_frameNumber_b2 F_pulseTimeNanos_b2 F_frameTimeNanos_b2 F_skippedFrames_b2 F_beganNanos_b2 F_phasesBegun_b2) hZ (hw _ (own_m 13 rfl)) (hw _ (own_m 10 rfl)) (by decide) (by decide)) (g := (mkF m 16 #[.val (.long q0), .second, .val (.long q1), .second, .val (.long q2), .second, .val (.long q3), .second, .val (.long q4), .second, iv p0, rv w_INSETS_ANIMATION, .unset, .unset, .unset] [(.ref b2), (.ref b2)])) rfl (by rw [hml]; rfl) (Steps.refl _) (a := b2) (argsL := []) (rest := [(.ref b2)]) (lenOf own_pd2 rfl) rfl (by show 2 * 0 + _ ≤ _; exact Nat.le_of_eq rfl) (hb hby at_16) (fun _ _ => ⟨rfl, e2, (by decide : 1 + 2 ≤ _), (by decide : 9 + 10 ≤ _)⟩)
  dsimp only [Pt.U, Pt.locs, Pt.cells, Pt.slots] at X4 l4 y4 z4 st4 hQ4
  subst l4 y4 z4
  obtain ⟨rfl, N4q, K4, bb, cc, kb, kc, g_bb, g_cc, nba, nca, nbc, V_bb, V_cc, q5, q6, q7, q8, q9, q10, q11, q12, q13⟩ := hQ4
  have N4 := Fr.app N1 N4q
  have O14 := O3.keep K4 (allS gg_b2 all0)
  obtain ⟨cq15, kq15, q15a, q15b, q15c⟩ := isOf hZ rfl q5
  obtain ⟨_, _, ⟨T15, L15, k15, n15⟩, -, X15, ⟨Lc15, hQ15, l15, y15, z15⟩, st15⟩ := X4.virtualBack hx (y := (⟨"com/example/vsyncopate/vsyncopate/frame/FrameTiming", "frameBegins", "(JJJJJ)V"⟩ : MethodName)) (z := (⟨"com/example/vsyncopate/vsyncopate/frame/FrameTiming", "frameBegins", "(JJJJJ)V"⟩ : MethodName)) hown (mvT hZ (hw _ (own_m 25 rfl))) (mvT hZ (hw _ (own_m 26 rfl))) (notFace_of_selects (args := #[]) (mvT hZ (hw _ (own_m 28 rfl)))) (mvT hZ (hw _ (own_m 28 rfl))) (mvT hZ (hw _ (own_m 27 rfl))) (by decide) (backOf (W := 0) (own_fb l Z a0 hw [] w_INPUT w_ANIMATION w_INSETS_ANIMATION w_TRAVERSAL w_COMMIT b2 bb cc q1 q2 q3 q4 q0 (0 : Int64) (0 : Int64) (0 : Int64) (0 : Int64) (0 : Int64) (0 : Int32) T4.heap n0 O14 U_INPUT U_ANIMATION U_INSETS_ANIMATION U_TRAVERSAL U_COMMIT S_PC gg_b2 q5 q6 q7 q8 q9 q10 q11 q12 q13) hZ (hw _ (own_m 29 rfl)) (hw _ (own_m 10 rfl)) (by decide) (by decide)) q15a q15c (g := (mkF m 31 #[.val (.long q0), .second, .val (.long q1), .second, .val (.long q2), .second, .val (.long q3), .second, .val (.long q4), .second, iv p0, rv w_INSETS_ANIMATION, rv b2, .unset, .unset] [(.long q0), (.long q4), (.long q3), (.long q2), (.long q1), (.ref b2)])) rfl (by rw [hml]; rfl) (Steps.refl _) (argsL := [(.long q1), (.long q2), (.long q3), (.long q4), (.long q0)]) (rest := []) (lenOf own_pd3 rfl) rfl (by show 2 * 0 + _ ≤ _; exact Nat.le_of_eq rfl) (hb hby at_31) (fun _ _ => ⟨rfl, rfl, (by decide : 3 + 0 ≤ _), (by decide : 19 + 0 ≤ _)⟩)
  dsimp only [Pt.U, Pt.locs, Pt.cells, Pt.slots] at X15 l15 y15 z15 st15 hQ15
  subst l15 y15 z15
  obtain ⟨rfl, N15q, K15, q16, q17, q18, q19, q20, q21, q22, q23, q24⟩ := hQ15
  have N15 := Fr.app N4 N15q
  have O25 := O14.keep K15 (allS gg_b2 all0)
  have f26 := (V_bb.keep K15 (ninS nba nin0))
  have f27 := (V_cc.keep K15 (ninS nca nin0))
  obtain ⟨cq28, kq28, q28a, q28b, q28c⟩ := isOf hZ rfl q16
  obtain ⟨_, _, ⟨T28, L28, k28, n28⟩, -, X28, ⟨Lc28, hQ28, l28, y28, z28⟩, st28⟩ := X15.virtualBack hx (y := (⟨"com/example/vsyncopate/vsyncopate/frame/FrameTiming", "phaseBegins", "(Lcom/example/vsyncopate/vsyncopate/frame/FramePhase;J)V"⟩ : MethodName)) (z := (⟨"com/example/vsyncopate/vsyncopate/frame/FrameTiming", "phaseBegins", "(Lcom/example/vsyncopate/vsyncopate/frame/FramePhase;J)V"⟩ : MethodName)) hown (mvT hZ (hw _ (own_m 42 rfl))) (mvT hZ (hw _ (own_m 43 rfl))) (notFace_of_selects (args := #[]) (mvT hZ (hw _ (own_m 45 rfl)))) (mvT hZ (hw _ (own_m 45 rfl))) (mvT hZ (hw _ (own_m 44 rfl))) (by decide) (backOf (W := 0) (own_pb_INSETS_ANIMATION l Z a0 hw [] w_INPUT w_ANIMATION w_INSETS_ANIMATION w_TRAVERSAL w_COMMIT b2 bb cc kb kc q4 q1 q2 q3 q4 q0 (0 : Int32) T15.heap n0 O25 U_INPUT U_ANIMATION U_INSETS_ANIMATION U_TRAVERSAL U_COMMIT S_PC gg_b2 q16 q17 q18 q19 q20 q21 q22 q23 q24 g_bb g_cc nba nca nbc f26 f27) hZ (hw _ (own_m 46 rfl)) (hw _ (own_m 10 rfl)) (by decide) (by decide)) q28a q28c (g := (mkF m 40 #[.val (.long q0), .second, .val (.long q1), .second, .val (.long q2), .second, .val (.long q3), .second, .val (.long q4), .second, iv p0, rv w_INSETS_ANIMATION, rv b2, .unset, .unset] [(.long q4), (.ref w_INSETS_ANIMATION), (.ref b2)])) rfl (by rw [hml]; rfl) (Steps.refl _) (argsL := [(.ref w_INSETS_ANIMATION), (.long q4)]) (rest := []) (lenOf own_pd4 rfl) rfl (by show 2 * 0 + _ ≤ _; exact Nat.le_of_eq rfl) (hb hby at_40) (fun _ _ => ⟨rfl, rfl, (by decide : 3 + 0 ≤ _), (by decide : 19 + 0 ≤ _)⟩)
  dsimp only [Pt.U, Pt.locs, Pt.cells, Pt.slots] at X28 l28 y28 z28 st28 hQ28
  subst l28 y28 z28
  obtain ⟨rfl, N28q, K28, q29, q30, q31, q32, q33, q34, q35, q36, q37⟩ := hQ28
  have N28 := Fr.app N15 N28q
  have O38 := O25.keep K28 (allS gg_b2 (allS g_bb (allS g_cc all0)))
  obtain ⟨cq39, kq39, q39a, q39b, q39c⟩ := isOf hZ rfl q29
  obtain ⟨_, _, ⟨T39, L39, k39, n39⟩, -, X39, ⟨Lc39, hQ39, l39, y39, z39⟩, st39⟩ := X28.virtualBack hx (y := (⟨"com/example/vsyncopate/vsyncopate/frame/FrameTiming", "frameBegins", "(JJJJJ)V"⟩ : MethodName)) (z := (⟨"com/example/vsyncopate/vsyncopate/frame/FrameTiming", "frameBegins", "(JJJJJ)V"⟩ : MethodName)) hown (mvT hZ (hw _ (own_m 25 rfl))) (mvT hZ (hw _ (own_m 26 rfl))) (notFace_of_selects (args := #[]) (mvT hZ (hw _ (own_m 28 rfl)))) (mvT hZ (hw _ (own_m 28 rfl))) (mvT hZ (hw _ (own_m 27 rfl))) (by decide) (backOf (W := 0) (own_fb l Z a0 hw [] w_INPUT w_ANIMATION w_INSETS_ANIMATION w_TRAVERSAL w_COMMIT b2 bb cc q0 q1 q2 q3 q4 q1 q2 q3 q4 q0 (3 : Int32) T28.heap n0 O38 U_INPUT U_ANIMATION U_INSETS_ANIMATION U_TRAVERSAL U_COMMIT S_PC gg_b2 q29 q30 q31 q32 q33 q34 q35 q36 q37) hZ (hw _ (own_m 29 rfl)) (hw _ (own_m 10 rfl)) (by decide) (by decide)) q39a q39c (g := (mkF m 53 #[.val (.long q0), .second, .val (.long q1), .second, .val (.long q2), .second, .val (.long q3), .second, .val (.long q4), .second, iv p0, rv w_INSETS_ANIMATION, rv b2, .unset, .unset] [(.long q4), (.long q3), (.long q2), (.long q1), (.long q0), (.ref b2)])) rfl (by rw [hml]; rfl) (Steps.refl _) (argsL := [(.long q0), (.long q1), (.long q2), (.long q3), (.long q4)]) (rest := []) (lenOf own_pd3 rfl) rfl (by show 2 * 0 + _ ≤ _; exact Nat.le_of_eq rfl) (hb hby at_53) (fun _ _ => ⟨rfl, rfl, (by decide : 3 + 0 ≤ _), (by decide : 19 + 0 ≤ _)⟩)
  dsimp only [Pt.U, Pt.locs, Pt.cells, Pt.slots] at X39 l39 y39 z39 st39 hQ39
  subst l39 y39 z39
  obtain ⟨rfl, N39q, K39, q40, q41, q42, q43, q44, q45, q46, q47, q48⟩ := hQ39
  have N39 := Fr.app N28 N39q
  have O49 := O38.keep K39 (allS gg_b2 all0)
  obtain ⟨cq50, kq50, q50a, q50b, q50c⟩ := isOf hZ rfl q40
  obtain ⟨_, _, ⟨T50, L50, k50, n50⟩, -, X50, ⟨Lc50, hQ50, l50, y50, z50⟩, st50⟩ := X39.virtualBack hx (y := (⟨"com/example/vsyncopate/vsyncopate/frame/FrameTiming", "frameNumber", "()J"⟩ : MethodName)) (z := (⟨"com/example/vsyncopate/vsyncopate/frame/FrameTiming", "frameNumber", "()J"⟩ : MethodName)) hown (mvT hZ (hw _ (own_m 56 rfl))) (mvT hZ (hw _ (own_m 57 rfl))) (notFace_of_selects (args := #[]) (mvT hZ (hw _ (own_m 59 rfl)))) (mvT hZ (hw _ (own_m 59 rfl))) (mvT hZ (hw _ (own_m 58 rfl))) (by decide) (backOf (W := 0) (own_g_frameNumber l Z a0 hw [] w_INPUT w_ANIMATION w_INSETS_ANIMATION w_TRAVERSAL w_COMMIT b2 q0 T39.heap n0 O49 U_INPUT U_ANIMATION U_INSETS_ANIMATION U_TRAVERSAL U_COMMIT S_PC q43) hZ (hw _ (own_m 60 rfl)) (hw _ (own_m 10 rfl)) (by decide) (by decide)) q50a q50c (g := (mkF m 58 #[.val (.long q0), .second, .val (.long q1), .second, .val (.long q2), .second, .val (.long q3), .second, .val (.long q4), .second, iv p0, rv w_INSETS_ANIMATION, rv b2, .unset, .unset] [(.ref b2)])) rfl (by rw [hml]; rfl) (Steps.refl _) (argsL := []) (rest := []) (lenOf own_pd5 rfl) rfl (by show 2 * 0 + _ ≤ _; exact Nat.le_of_eq rfl) (hb hby at_58) (fun _ _ => ⟨rfl, rfl, (by decide : 3 + 0 ≤ _), (by decide : 19 + 0 ≤ _)⟩)
  dsimp only [Pt.U, Pt.locs, Pt.cells, Pt.slots] at X50 l50 y50 z50 st50 hQ50
  subst l50 y50 z50
  obtain ⟨rfl, N50q, e50⟩ := hQ50
  have N50 := Fr.app N39 N50q
  obtain ⟨cq51, kq51, q51a, q51b, q51c⟩ := isOf hZ e50 q40
  obtain ⟨_, _, ⟨T51, L51, k51, n51⟩, -, X51, ⟨Lc51, hQ51, l51, y51, z51⟩, st51⟩ := X50.virtualBack hx (y := (⟨"com/example/vsyncopate/vsyncopate/frame/FrameTiming", "pulseTimeNanos", "()J"⟩ : MethodName)) (z := (⟨"com/example/vsyncopate/vsyncopate/frame/FrameTiming", "pulseTimeNanos", "()J"⟩ : MethodName)) hown (mvT hZ (hw _ (own_m 61 rfl))) (mvT hZ (hw _ (own_m 62 rfl))) (notFace_of_selects (args := #[]) (mvT hZ (hw _ (own_m 64 rfl)))) (mvT hZ (hw _ (own_m 64 rfl))) (mvT hZ (hw _ (own_m 63 rfl))) (by decide) (backOf (W := 0) (own_g_pulseTimeNanos l Z a0 hw [] w_INPUT w_ANIMATION w_INSETS_ANIMATION w_TRAVERSAL w_COMMIT b2 q1 T39.heap n0 O49 U_INPUT U_ANIMATION U_INSETS_ANIMATION U_TRAVERSAL U_COMMIT S_PC q44) hZ (hw _ (own_m 65 rfl)) (hw _ (own_m 10 rfl)) (by decide) (by decide)) q51a q51c (g := (mkF m 68 #[.val (.long q0), .second, .val (.long q1), .second, .val (.long q2), .second, .val (.long q3), .second, .val (.long q4), .second, iv p0, rv w_INSETS_ANIMATION, rv b2, .unset, .unset] [(.ref b2)])) rfl (by rw [hml]; rfl) (Steps.refl _) (argsL := []) (rest := []) (lenOf own_pd5 rfl) rfl (by show 2 * 0 + _ ≤ _; exact Nat.le_of_eq rfl) (hb hby at_68) (fun _ _ => ⟨rfl, e50, (by decide : 3 + 0 ≤ _), (by decide : 19 + 0 ≤ _)⟩)
  dsimp only [Pt.U, Pt.locs, Pt.cells, Pt.slots] at X51 l51 y51 z51 st51 hQ51
  subst l51 y51 z51
  obtain ⟨rfl, N51q, e51⟩ := hQ51
  have N51 := Fr.app N50 N51q
  obtain ⟨cq52, kq52, q52a, q52b, q52c⟩ := isOf hZ e51 q40
  obtain ⟨_, _, ⟨T52, L52, k52, n52⟩, -, X52, ⟨Lc52, hQ52, l52, y52, z52⟩, st52⟩ := X51.virtualBack hx (y := (⟨"com/example/vsyncopate/vsyncopate/frame/FrameTiming", "frameTimeNanos", "()J"⟩ : MethodName)) (z := (⟨"com/example/vsyncopate/vsyncopate/frame/FrameTiming", "frameTimeNanos", "()J"⟩ : MethodName)) hown (mvT hZ (hw _ (own_m 66 rfl))) (mvT hZ (hw _ (own_m 67 rfl))) (notFace_of_selects (args := #[]) (mvT hZ (hw _ (own_m 69 rfl)))) (mvT hZ (hw _ (own_m 69 rfl))) (mvT hZ (hw _ (own_m 68 rfl))) (by decide) (backOf (W := 0) (own_g_frameTimeNanos l Z a0 hw [] w_INPUT w_ANIMATION w_INSETS_ANIMATION w_TRAVERSAL w_COMMIT b2 q2 T39.heap n0 O49 U_INPUT U_ANIMATION U_INSETS_ANIMATION U_TRAVERSAL U_COMMIT S_PC q45) hZ (hw _ (own_m 70 rfl)) (hw _ (own_m 10 rfl)) (by decide) (by decide)) q52a q52c (g := (mkF m 78 #[.val (.long q0), .second, .val (.long q1), .second, .val (.long q2), .second, .val (.long q3), .second, .val (.long q4), .second, iv p0, rv w_INSETS_ANIMATION, rv b2, .unset, .unset] [(.ref b2)])) rfl (by rw [hml]; rfl) (Steps.refl _) (argsL := []) (rest := []) (lenOf own_pd5 rfl) rfl (by show 2 * 0 + _ ≤ _; exact Nat.le_of_eq rfl) (hb hby at_78) (fun _ _ => ⟨rfl, e51, (by decide : 3 + 0 ≤ _), (by decide : 19 + 0 ≤ _)⟩)
  dsimp only [Pt.U, Pt.locs, Pt.cells, Pt.slots] at X52 l52 y52 z52 st52 hQ52
  subst l52 y52 z52
  obtain ⟨rfl, N52q, e52⟩ := hQ52
  have N52 := Fr.app N51 N52q
  obtain ⟨cq53, kq53, q53a, q53b, q53c⟩ := isOf hZ e52 q40
  obtain ⟨_, _, ⟨T53, L53, k53, n53⟩, -, X53, ⟨Lc53, hQ53, l53, y53, z53⟩, st53⟩ := X52.virtualBack hx (y := (⟨"com/example/vsyncopate/vsyncopate/frame/FrameTiming", "skippedFrames", "()J"⟩ : MethodName)) (z := (⟨"com/example/vsyncopate/vsyncopate/frame/FrameTiming", "skippedFrames", "()J"⟩ : MethodName)) hown (mvT hZ (hw _ (own_m 71 rfl))) (mvT hZ (hw _ (own_m 72 rfl))) (notFace_of_selects (args := #[]) (mvT hZ (hw _ (own_m 74 rfl)))) (mvT hZ (hw _ (own_m 74 rfl))) (mvT hZ (hw _ (own_m 73 rfl))) (by decide) (backOf (W := 0) (own_g_skippedFrames l Z a0 hw [] w_INPUT w_ANIMATION w_INSETS_ANIMATION w_TRAVERSAL w_COMMIT b2 q3 T39.heap n0 O49 U_INPUT U_ANIMATION U_INSETS_ANIMATION U_TRAVERSAL U_COMMIT S_PC q46) hZ (hw _ (own_m 75 rfl)) (hw _ (own_m 10 rfl)) (by decide) (by decide)) q53a q53c (g := (mkF m 89 #[.val (.long q0), .second, .val (.long q1), .second, .val (.long q2), .second, .val (.long q3), .second, .val (.long q4), .second, iv p0, rv w_INSETS_ANIMATION, rv b2, .unset, .unset] [(.ref b2)])) rfl (by rw [hml]; rfl) (Steps.refl _) (argsL := []) (rest := []) (lenOf own_pd5 rfl) rfl (by show 2 * 0 + _ ≤ _; exact Nat.le_of_eq rfl) (hb hby at_89) (fun _ _ => ⟨rfl, e52, (by decide : 3 + 0 ≤ _), (by decide : 19 + 0 ≤ _)⟩)
  dsimp only [Pt.U, Pt.locs, Pt.cells, Pt.slots] at X53 l53 y53 z53 st53 hQ53
  subst l53 y53 z53
  obtain ⟨rfl, N53q, e53⟩ := hQ53
  have N53 := Fr.app N52 N53q
  obtain ⟨cq54, kq54, q54a, q54b, q54c⟩ := isOf hZ e53 q40
  obtain ⟨_, _, ⟨T54, L54, k54, n54⟩, -, X54, ⟨Lc54, hQ54, l54, y54, z54⟩, st54⟩ := X53.virtualBack hx (y := (⟨"com/example/vsyncopate/vsyncopate/frame/FrameTiming", "beganNanos", "()J"⟩ : MethodName)) (z := (⟨"com/example/vsyncopate/vsyncopate/frame/FrameTiming", "beganNanos", "()J"⟩ : MethodName)) hown (mvT hZ (hw _ (own_m 76 rfl))) (mvT hZ (hw _ (own_m 77 rfl))) (notFace_of_selects (args := #[]) (mvT hZ (hw _ (own_m 79 rfl)))) (mvT hZ (hw _ (own_m 79 rfl))) (mvT hZ (hw _ (own_m 78 rfl))) (by decide) (backOf (W := 0) (own_g_beganNanos l Z a0 hw [] w_INPUT w_ANIMATION w_INSETS_ANIMATION w_TRAVERSAL w_COMMIT b2 q4 T39.heap n0 O49 U_INPUT U_ANIMATION U_INSETS_ANIMATION U_TRAVERSAL U_COMMIT S_PC q47) hZ (hw _ (own_m 80 rfl)) (hw _ (own_m 10 rfl)) (by decide) (by decide)) q54a q54c (g := (mkF m 100 #[.val (.long q0), .second, .val (.long q1), .second, .val (.long q2), .second, .val (.long q3), .second, .val (.long q4), .second, iv p0, rv w_INSETS_ANIMATION, rv b2, .unset, .unset] [(.ref b2)])) rfl (by rw [hml]; rfl) (Steps.refl _) (argsL := []) (rest := []) (lenOf own_pd5 rfl) rfl (by show 2 * 0 + _ ≤ _; exact Nat.le_of_eq rfl) (hb hby at_100) (fun _ _ => ⟨rfl, e53, (by decide : 3 + 0 ≤ _), (by decide : 19 + 0 ≤ _)⟩)
  dsimp only [Pt.U, Pt.locs, Pt.cells, Pt.slots] at X54 l54 y54 z54 st54 hQ54
  subst l54 y54 z54
  obtain ⟨rfl, N54q, e54⟩ := hQ54
  have N54 := Fr.app N53 N54q
  obtain ⟨T55, X55, e55, st55⟩ := getS2 X54 hx hZ hown (host := "") (Or.inl (hw _ (own_m 81 rfl))) Via.refl e54 (U_INPUT.1.ext O49.2) (g := (mkF m 118 #[.val (.long q0), .second, .val (.long q1), .second, .val (.long q2), .second, .val (.long q3), .second, .val (.long q4), .second, iv p0, rv w_INSETS_ANIMATION, rv b2, iv 1, .unset] [(.ref b2)])) rfl (hb hby at_118)
  obtain ⟨cq56, kq56, q56a, q56b, q56c⟩ := isOf hZ e55 q40
  obtain ⟨_, _, ⟨T56, L56, k56, n56⟩, -, X56, ⟨Lc56, hQ56, l56, y56, z56⟩, st56⟩ := X55.virtualBack hx (y := (⟨"com/example/vsyncopate/vsyncopate/frame/FrameTiming", "phaseBegan", "(Lcom/example/vsyncopate/vsyncopate/frame/FramePhase;)Z"⟩ : MethodName)) (z := (⟨"com/example/vsyncopate/vsyncopate/frame/FrameTiming", "phaseBegan", "(Lcom/example/vsyncopate/vsyncopate/frame/FramePhase;)Z"⟩ : MethodName)) hown (mvT hZ (hw _ (own_m 83 rfl))) (mvT hZ (hw _ (own_m 84 rfl))) (notFace_of_selects (args := #[]) (mvT hZ (hw _ (own_m 86 rfl)))) (mvT hZ (hw _ (own_m 86 rfl))) (mvT hZ (hw _ (own_m 85 rfl))) (by decide) (backOf (W := 0) (own_h_INPUT l Z a0 hw [] w_INPUT w_ANIMATION w_INSETS_ANIMATION w_TRAVERSAL w_COMMIT b2 T39.heap n0 O49 U_INPUT U_ANIMATION U_INSETS_ANIMATION U_TRAVERSAL U_COMMIT S_PC q48) hZ (hw _ (own_m 87 rfl)) (hw _ (own_m 10 rfl)) (by decide) (by decide)) q56a q56c (g := (mkF m 121 #[.val (.long q0), .second, .val (.long q1), .second, .val (.long q2), .second, .val (.long q3), .second, .val (.long q4), .second, iv p0, rv w_INSETS_ANIMATION, rv b2, iv 1, .unset] [(.ref w_INPUT), (.ref b2)])) rfl (by rw [hml]; rfl) (Steps.refl _) (argsL := [(.ref w_INPUT)]) (rest := []) (lenOf own_pd6 rfl) rfl (by show 2 * 0 + _ ≤ _; exact Nat.le_of_eq rfl) (hb hby at_121) (fun _ _ => ⟨rfl, e55, (by decide : 3 + 0 ≤ _), (by decide : 19 + 0 ≤ _)⟩)
  dsimp only [Pt.U, Pt.locs, Pt.cells, Pt.slots] at X56 l56 y56 z56 st56 hQ56
  subst l56 y56 z56
  obtain ⟨rfl, N56q, e56⟩ := hQ56
  have N56 := Fr.app N54 N56q
  obtain ⟨cq57, kq57, q57a, q57b, q57c⟩ := isOf hZ e56 q40
  obtain ⟨_, _, ⟨T57, L57, k57, n57⟩, -, X57, ⟨Lc57, hQ57, l57, y57, z57⟩, st57⟩ := X56.virtualBack hx (y := (⟨"com/example/vsyncopate/vsyncopate/frame/FrameTiming", "phaseBegan", "(Lcom/example/vsyncopate/vsyncopate/frame/FramePhase;)Z"⟩ : MethodName)) (z := (⟨"com/example/vsyncopate/vsyncopate/frame/FrameTiming", "phaseBegan", "(Lcom/example/vsyncopate/vsyncopate/frame/FramePhase;)Z"⟩ : MethodName)) hown (mvT hZ (hw _ (own_m 83 rfl))) (mvT hZ (hw _ (own_m 84 rfl))) (notFace_of_selects (args := #[]) (mvT hZ (hw _ (own_m 86 rfl)))) (mvT hZ (hw _ (own_m 86 rfl))) (mvT hZ (hw _ (own_m 85 rfl))) (by decide) (backOf (W := 0) (own_h_INSETS_ANIMATION l Z a0 hw [] w_INPUT w_ANIMATION w_INSETS_ANIMATION w_TRAVERSAL w_COMMIT b2 T39.heap n0 O49 U_INPUT U_ANIMATION U_INSETS_ANIMATION U_TRAVERSAL U_COMMIT S_PC q48) hZ (hw _ (own_m 87 rfl)) (hw _ (own_m 10 rfl)) (by decide) (by decide)) q57a q57c (g := (mkF m 131 #[.val (.long q0), .second, .val (.long q1), .second, .val (.long q2), .second, .val (.long q3), .second, .val (.long q4), .second, iv p0, rv w_INSETS_ANIMATION, rv b2, iv 1, .unset] [(.ref w_INSETS_ANIMATION), (.ref b2)])) rfl (by rw [hml]; rfl) (Steps.refl _) (argsL := [(.ref w_INSETS_ANIMATION)]) (rest := []) (lenOf own_pd6 rfl) rfl (by show 2 * 0 + _ ≤ _; exact Nat.le_of_eq rfl) (hb hby at_131) (fun _ _ => ⟨rfl, e56, (by decide : 3 + 0 ≤ _), (by decide : 19 + 0 ≤ _)⟩)
  dsimp only [Pt.U, Pt.locs, Pt.cells, Pt.slots] at X57 l57 y57 z57 st57 hQ57
  subst l57 y57 z57
  obtain ⟨rfl, N57q, e57⟩ := hQ57
  have N57 := Fr.app N56 N57q
  obtain ⟨fs, hr, hrun, hended, hW, hsame⟩ := X57.leave (v := some (.int 1)) (fun h => by rw [Bd.returns] at h; cases h)
  refine ⟨_, _, pre0 _ ?_, hrun, hended, _, _, rfl, ?_, ⟨_, rfl⟩, hW, hsame.mono (by decide) (by decide)⟩
  · show Steps p.tables e below (s₁.setTop (mkF m 0 #[.val (.long q0), .second, .val (.long q1), .second, .val (.long q2), .second, .val (.long q3), .second, .val (.long q4), .second, iv p0, .unset, .unset, .unset, .unset] [])) _
    refine XS.iload X0.here hx rfl (hb hby at_0) rfl ?_
    show Steps p.tables e below (s₁.setTop (mkF m 2 #[.val (.long q0), .second, .val (.long q1), .second, .val (.long q2), .second, .val (.long q3), .second, .val (.long q4), .second, iv p0, .unset, .unset, .unset, .unset] [(.int p0)])) _
    refine X0.ldcInt hx hown (mvT hZ (hw _ (own_m 0 rfl))) (g := (mkF m 2 #[.val (.long q0), .second, .val (.long q1), .second, .val (.long q2), .second, .val (.long q3), .second, .val (.long q4), .second, iv p0, .unset, .unset, .unset, .unset] [(.int p0)])) rfl (hb hby at_2) _ ?_
    show Steps p.tables e below (s₁.setTop (mkF m 4 #[.val (.long q0), .second, .val (.long q1), .second, .val (.long q2), .second, .val (.long q3), .second, .val (.long q4), .second, iv p0, .unset, .unset, .unset, .unset] [(.int 2147483647), (.int p0)])) _
    refine XS.iand X0.here hx rfl (hb hby at_4) rfl ?_
    show Steps p.tables e below (s₁.setTop (mkF m 5 #[.val (.long q0), .second, .val (.long q1), .second, .val (.long q2), .second, .val (.long q3), .second, .val (.long q4), .second, iv p0, .unset, .unset, .unset, .unset] [(.int (p0 &&& (2147483647 : Int32)))])) _
    refine XS.iconst X0.here hx rfl (hb hby at_5) ?_
    show Steps p.tables e below (s₁.setTop (mkF m 6 #[.val (.long q0), .second, .val (.long q1), .second, .val (.long q2), .second, .val (.long q3), .second, .val (.long q4), .second, iv p0, .unset, .unset, .unset, .unset] [(.int 5), (.int (p0 &&& (2147483647 : Int32)))])) _
    refine iremM X0 hx rfl (hb hby at_6) rfl (by decide) ?_
    show Steps p.tables e below (s₁.setTop (mkF m 7 #[.val (.long q0), .second, .val (.long q1), .second, .val (.long q2), .second, .val (.long q3), .second, .val (.long q4), .second, iv p0, .unset, .unset, .unset, .unset] [(.int ((p0 &&& (2147483647 : Int32)) % (5 : Int32)))])) _
    refine own_top (v' := (.int 2)) (congrArg Value.int hk) ?_
    show Steps p.tables e below (s₁.setTop (mkF m 7 #[.val (.long q0), .second, .val (.long q1), .second, .val (.long q2), .second, .val (.long q3), .second, .val (.long q4), .second, iv p0, .unset, .unset, .unset, .unset] [(.int 2)])) _
    refine st1 _ ?_
    show Steps p.tables e below (T1.setTop (mkF m 10 #[.val (.long q0), .second, .val (.long q1), .second, .val (.long q2), .second, .val (.long q3), .second, .val (.long q4), .second, iv p0, .unset, .unset, .unset, .unset] [(.ref w_INSETS_ANIMATION)])) _
    refine XS.astore X1.here hx rfl (hb hby at_10) rfl rfl (l' := #[.val (.long q0), .second, .val (.long q1), .second, .val (.long q2), .second, .val (.long q3), .second, .val (.long q4), .second, iv p0, rv w_INSETS_ANIMATION, .unset, .unset, .unset]) rfl ?_
    show Steps p.tables e below (T1.setTop (mkF m 12 #[.val (.long q0), .second, .val (.long q1), .second, .val (.long q2), .second, .val (.long q3), .second, .val (.long q4), .second, iv p0, rv w_INSETS_ANIMATION, .unset, .unset, .unset] [])) _
    refine st2 _ ?_
    show Steps p.tables e below (T2.setTop (mkF m 15 #[.val (.long q0), .second, .val (.long q1), .second, .val (.long q2), .second, .val (.long q3), .second, .val (.long q4), .second, iv p0, rv w_INSETS_ANIMATION, .unset, .unset, .unset] [(.ref b2)])) _
    refine XS.dup X2.here hx rfl (hb hby at_15) rfl rfl ?_
    show Steps p.tables e below (T2.setTop (mkF m 16 #[.val (.long q0), .second, .val (.long q1), .second, .val (.long q2), .second, .val (.long q3), .second, .val (.long q4), .second, iv p0, rv w_INSETS_ANIMATION, .unset, .unset, .unset] [(.ref b2), (.ref b2)])) _
    refine st4.trans ?_
    show Steps p.tables e below (T4.setTop (mkF m 19 #[.val (.long q0), .second, .val (.long q1), .second, .val (.long q2), .second, .val (.long q3), .second, .val (.long q4), .second, iv p0, rv w_INSETS_ANIMATION, .unset, .unset, .unset] [(.ref b2)])) _
    refine XS.astore X4.here hx rfl (hb hby at_19) rfl rfl (l' := #[.val (.long q0), .second, .val (.long q1), .second, .val (.long q2), .second, .val (.long q3), .second, .val (.long q4), .second, iv p0, rv w_INSETS_ANIMATION, rv b2, .unset, .unset]) rfl ?_
    show Steps p.tables e below (T4.setTop (mkF m 21 #[.val (.long q0), .second, .val (.long q1), .second, .val (.long q2), .second, .val (.long q3), .second, .val (.long q4), .second, iv p0, rv w_INSETS_ANIMATION, rv b2, .unset, .unset] [])) _
    refine XS.aload X4.here hx rfl (hb hby at_21) rfl rfl ?_
    show Steps p.tables e below (T4.setTop (mkF m 23 #[.val (.long q0), .second, .val (.long q1), .second, .val (.long q2), .second, .val (.long q3), .second, .val (.long q4), .second, iv p0, rv w_INSETS_ANIMATION, rv b2, .unset, .unset] [(.ref b2)])) _
    refine XS.lloadN X4.here hx rfl (hb hby at_23) rfl ?_
    show Steps p.tables e below (T4.setTop (mkF m 24 #[.val (.long q0), .second, .val (.long q1), .second, .val (.long q2), .second, .val (.long q3), .second, .val (.long q4), .second, iv p0, rv w_INSETS_ANIMATION, rv b2, .unset, .unset] [(.long q1), (.ref b2)])) _
    refine XS.lload X4.here hx rfl (hb hby at_24) rfl ?_
    show Steps p.tables e below (T4.setTop (mkF m 26 #[.val (.long q0), .second, .val (.long q1), .second, .val (.long q2), .second, .val (.long q3), .second, .val (.long q4), .second, iv p0, rv w_INSETS_ANIMATION, rv b2, .unset, .unset] [(.long q2), (.long q1), (.ref b2)])) _
    refine XS.lload X4.here hx rfl (hb hby at_26) rfl ?_
    show Steps p.tables e below (T4.setTop (mkF m 28 #[.val (.long q0), .second, .val (.long q1), .second, .val (.long q2), .second, .val (.long q3), .second, .val (.long q4), .second, iv p0, rv w_INSETS_ANIMATION, rv b2, .unset, .unset] [(.long q3), (.long q2), (.long q1), (.ref b2)])) _
    refine XS.lload X4.here hx rfl (hb hby at_28) rfl ?_
    show Steps p.tables e below (T4.setTop (mkF m 30 #[.val (.long q0), .second, .val (.long q1), .second, .val (.long q2), .second, .val (.long q3), .second, .val (.long q4), .second, iv p0, rv w_INSETS_ANIMATION, rv b2, .unset, .unset] [(.long q4), (.long q3), (.long q2), (.long q1), (.ref b2)])) _
    refine XS.lloadN X4.here hx rfl (hb hby at_30) rfl ?_
    show Steps p.tables e below (T4.setTop (mkF m 31 #[.val (.long q0), .second, .val (.long q1), .second, .val (.long q2), .second, .val (.long q3), .second, .val (.long q4), .second, iv p0, rv w_INSETS_ANIMATION, rv b2, .unset, .unset] [(.long q0), (.long q4), (.long q3), (.long q2), (.long q1), (.ref b2)])) _
    refine st15.trans ?_
    show Steps p.tables e below (T15.setTop (mkF m 34 #[.val (.long q0), .second, .val (.long q1), .second, .val (.long q2), .second, .val (.long q3), .second, .val (.long q4), .second, iv p0, rv w_INSETS_ANIMATION, rv b2, .unset, .unset] [])) _
    refine XS.aload X15.here hx rfl (hb hby at_34) rfl rfl ?_
    show Steps p.tables e below (T15.setTop (mkF m 36 #[.val (.long q0), .second, .val (.long q1), .second, .val (.long q2), .second, .val (.long q3), .second, .val (.long q4), .second, iv p0, rv w_INSETS_ANIMATION, rv b2, .unset, .unset] [(.ref b2)])) _
    refine XS.aload X15.here hx rfl (hb hby at_36) rfl rfl ?_
    show Steps p.tables e below (T15.setTop (mkF m 38 #[.val (.long q0), .second, .val (.long q1), .second, .val (.long q2), .second, .val (.long q3), .second, .val (.long q4), .second, iv p0, rv w_INSETS_ANIMATION, rv b2, .unset, .unset] [(.ref w_INSETS_ANIMATION), (.ref b2)])) _
    refine XS.lload X15.here hx rfl (hb hby at_38) rfl ?_
    show Steps p.tables e below (T15.setTop (mkF m 40 #[.val (.long q0), .second, .val (.long q1), .second, .val (.long q2), .second, .val (.long q3), .second, .val (.long q4), .second, iv p0, rv w_INSETS_ANIMATION, rv b2, .unset, .unset] [(.long q4), (.ref w_INSETS_ANIMATION), (.ref b2)])) _
    refine st28.trans ?_
    show Steps p.tables e below (T28.setTop (mkF m 43 #[.val (.long q0), .second, .val (.long q1), .second, .val (.long q2), .second, .val (.long q3), .second, .val (.long q4), .second, iv p0, rv w_INSETS_ANIMATION, rv b2, .unset, .unset] [])) _
    refine XS.aload X28.here hx rfl (hb hby at_43) rfl rfl ?_
    show Steps p.tables e below (T28.setTop (mkF m 45 #[.val (.long q0), .second, .val (.long q1), .second, .val (.long q2), .second, .val (.long q3), .second, .val (.long q4), .second, iv p0, rv w_INSETS_ANIMATION, rv b2, .unset, .unset] [(.ref b2)])) _
    refine XS.lloadN X28.here hx rfl (hb hby at_45) rfl ?_
    show Steps p.tables e below (T28.setTop (mkF m 46 #[.val (.long q0), .second, .val (.long q1), .second, .val (.long q2), .second, .val (.long q3), .second, .val (.long q4), .second, iv p0, rv w_INSETS_ANIMATION, rv b2, .unset, .unset] [(.long q0), (.ref b2)])) _
    refine XS.lloadN X28.here hx rfl (hb hby at_46) rfl ?_
    show Steps p.tables e below (T28.setTop (mkF m 47 #[.val (.long q0), .second, .val (.long q1), .second, .val (.long q2), .second, .val (.long q3), .second, .val (.long q4), .second, iv p0, rv w_INSETS_ANIMATION, rv b2, .unset, .unset] [(.long q1), (.long q0), (.ref b2)])) _
    refine XS.lload X28.here hx rfl (hb hby at_47) rfl ?_
    show Steps p.tables e below (T28.setTop (mkF m 49 #[.val (.long q0), .second, .val (.long q1), .second, .val (.long q2), .second, .val (.long q3), .second, .val (.long q4), .second, iv p0, rv w_INSETS_ANIMATION, rv b2, .unset, .unset] [(.long q2), (.long q1), (.long q0), (.ref b2)])) _
    refine XS.lload X28.here hx rfl (hb hby at_49) rfl ?_
    show Steps p.tables e below (T28.setTop (mkF m 51 #[.val (.long q0), .second, .val (.long q1), .second, .val (.long q2), .second, .val (.long q3), .second, .val (.long q4), .second, iv p0, rv w_INSETS_ANIMATION, rv b2, .unset, .unset] [(.long q3), (.long q2), (.long q1), (.long q0), (.ref b2)])) _
    refine XS.lload X28.here hx rfl (hb hby at_51) rfl ?_
    show Steps p.tables e below (T28.setTop (mkF m 53 #[.val (.long q0), .second, .val (.long q1), .second, .val (.long q2), .second, .val (.long q3), .second, .val (.long q4), .second, iv p0, rv w_INSETS_ANIMATION, rv b2, .unset, .unset] [(.long q4), (.long q3), (.long q2), (.long q1), (.long q0), (.ref b2)])) _
    refine st39.trans ?_
    show Steps p.tables e below (T39.setTop (mkF m 56 #[.val (.long q0), .second, .val (.long q1), .second, .val (.long q2), .second, .val (.long q3), .second, .val (.long q4), .second, iv p0, rv w_INSETS_ANIMATION, rv b2, .unset, .unset] [])) _
    refine XS.aload X39.here hx rfl (hb hby at_56) rfl rfl ?_
    show Steps p.tables e below (T39.setTop (mkF m 58 #[.val (.long q0), .second, .val (.long q1), .second, .val (.long q2), .second, .val (.long q3), .second, .val (.long q4), .second, iv p0, rv w_INSETS_ANIMATION, rv b2, .unset, .unset] [(.ref b2)])) _
    refine st50.trans ?_
    show Steps p.tables e below (T50.setTop (mkF m 61 #[.val (.long q0), .second, .val (.long q1), .second, .val (.long q2), .second, .val (.long q3), .second, .val (.long q4), .second, iv p0, rv w_INSETS_ANIMATION, rv b2, .unset, .unset] [(.long q0)])) _
    refine XS.lloadN X50.here hx rfl (hb hby at_61) rfl ?_
    show Steps p.tables e below (T50.setTop (mkF m 62 #[.val (.long q0), .second, .val (.long q1), .second, .val (.long q2), .second, .val (.long q3), .second, .val (.long q4), .second, iv p0, rv w_INSETS_ANIMATION, rv b2, .unset, .unset] [(.long q0), (.long q0)])) _
    refine XS.lcmp X50.here hx rfl (hb hby at_62) rfl ?_
    show Steps p.tables e below (T50.setTop (mkF m 63 #[.val (.long q0), .second, .val (.long q1), .second, .val (.long q2), .second, .val (.long q3), .second, .val (.long q4), .second, iv p0, rv w_INSETS_ANIMATION, rv b2, .unset, .unset] [(.int (lcmpW q0 q0))])) _
    refine XS.ifNo X50.here hx rfl (hb hby at_63) rfl ((if0 _ _).trans (teq ((lw_eq _ _).mpr rfl)).2) ?_
    show Steps p.tables e below (T50.setTop (mkF m 66 #[.val (.long q0), .second, .val (.long q1), .second, .val (.long q2), .second, .val (.long q3), .second, .val (.long q4), .second, iv p0, rv w_INSETS_ANIMATION, rv b2, .unset, .unset] [])) _
    refine XS.aload X50.here hx rfl (hb hby at_66) rfl rfl ?_
    show Steps p.tables e below (T50.setTop (mkF m 68 #[.val (.long q0), .second, .val (.long q1), .second, .val (.long q2), .second, .val (.long q3), .second, .val (.long q4), .second, iv p0, rv w_INSETS_ANIMATION, rv b2, .unset, .unset] [(.ref b2)])) _
    refine st51.trans ?_
    show Steps p.tables e below (T51.setTop (mkF m 71 #[.val (.long q0), .second, .val (.long q1), .second, .val (.long q2), .second, .val (.long q3), .second, .val (.long q4), .second, iv p0, rv w_INSETS_ANIMATION, rv b2, .unset, .unset] [(.long q1)])) _
    refine XS.lloadN X51.here hx rfl (hb hby at_71) rfl ?_
    show Steps p.tables e below (T51.setTop (mkF m 72 #[.val (.long q0), .second, .val (.long q1), .second, .val (.long q2), .second, .val (.long q3), .second, .val (.long q4), .second, iv p0, rv w_INSETS_ANIMATION, rv b2, .unset, .unset] [(.long q1), (.long q1)])) _
    refine XS.lcmp X51.here hx rfl (hb hby at_72) rfl ?_
    show Steps p.tables e below (T51.setTop (mkF m 73 #[.val (.long q0), .second, .val (.long q1), .second, .val (.long q2), .second, .val (.long q3), .second, .val (.long q4), .second, iv p0, rv w_INSETS_ANIMATION, rv b2, .unset, .unset] [(.int (lcmpW q1 q1))])) _
    refine XS.ifNo X51.here hx rfl (hb hby at_73) rfl ((if0 _ _).trans (teq ((lw_eq _ _).mpr rfl)).2) ?_
    show Steps p.tables e below (T51.setTop (mkF m 76 #[.val (.long q0), .second, .val (.long q1), .second, .val (.long q2), .second, .val (.long q3), .second, .val (.long q4), .second, iv p0, rv w_INSETS_ANIMATION, rv b2, .unset, .unset] [])) _
    refine XS.aload X51.here hx rfl (hb hby at_76) rfl rfl ?_
    show Steps p.tables e below (T51.setTop (mkF m 78 #[.val (.long q0), .second, .val (.long q1), .second, .val (.long q2), .second, .val (.long q3), .second, .val (.long q4), .second, iv p0, rv w_INSETS_ANIMATION, rv b2, .unset, .unset] [(.ref b2)])) _
    refine st52.trans ?_
    show Steps p.tables e below (T52.setTop (mkF m 81 #[.val (.long q0), .second, .val (.long q1), .second, .val (.long q2), .second, .val (.long q3), .second, .val (.long q4), .second, iv p0, rv w_INSETS_ANIMATION, rv b2, .unset, .unset] [(.long q2)])) _
    refine XS.lload X52.here hx rfl (hb hby at_81) rfl ?_
    show Steps p.tables e below (T52.setTop (mkF m 83 #[.val (.long q0), .second, .val (.long q1), .second, .val (.long q2), .second, .val (.long q3), .second, .val (.long q4), .second, iv p0, rv w_INSETS_ANIMATION, rv b2, .unset, .unset] [(.long q2), (.long q2)])) _
    refine XS.lcmp X52.here hx rfl (hb hby at_83) rfl ?_
    show Steps p.tables e below (T52.setTop (mkF m 84 #[.val (.long q0), .second, .val (.long q1), .second, .val (.long q2), .second, .val (.long q3), .second, .val (.long q4), .second, iv p0, rv w_INSETS_ANIMATION, rv b2, .unset, .unset] [(.int (lcmpW q2 q2))])) _
    refine XS.ifNo X52.here hx rfl (hb hby at_84) rfl ((if0 _ _).trans (teq ((lw_eq _ _).mpr rfl)).2) ?_
    show Steps p.tables e below (T52.setTop (mkF m 87 #[.val (.long q0), .second, .val (.long q1), .second, .val (.long q2), .second, .val (.long q3), .second, .val (.long q4), .second, iv p0, rv w_INSETS_ANIMATION, rv b2, .unset, .unset] [])) _
    refine XS.aload X52.here hx rfl (hb hby at_87) rfl rfl ?_
    show Steps p.tables e below (T52.setTop (mkF m 89 #[.val (.long q0), .second, .val (.long q1), .second, .val (.long q2), .second, .val (.long q3), .second, .val (.long q4), .second, iv p0, rv w_INSETS_ANIMATION, rv b2, .unset, .unset] [(.ref b2)])) _
    refine st53.trans ?_
    show Steps p.tables e below (T53.setTop (mkF m 92 #[.val (.long q0), .second, .val (.long q1), .second, .val (.long q2), .second, .val (.long q3), .second, .val (.long q4), .second, iv p0, rv w_INSETS_ANIMATION, rv b2, .unset, .unset] [(.long q3)])) _
    refine XS.lload X53.here hx rfl (hb hby at_92) rfl ?_
    show Steps p.tables e below (T53.setTop (mkF m 94 #[.val (.long q0), .second, .val (.long q1), .second, .val (.long q2), .second, .val (.long q3), .second, .val (.long q4), .second, iv p0, rv w_INSETS_ANIMATION, rv b2, .unset, .unset] [(.long q3), (.long q3)])) _
    refine XS.lcmp X53.here hx rfl (hb hby at_94) rfl ?_
    show Steps p.tables e below (T53.setTop (mkF m 95 #[.val (.long q0), .second, .val (.long q1), .second, .val (.long q2), .second, .val (.long q3), .second, .val (.long q4), .second, iv p0, rv w_INSETS_ANIMATION, rv b2, .unset, .unset] [(.int (lcmpW q3 q3))])) _
    refine XS.ifNo X53.here hx rfl (hb hby at_95) rfl ((if0 _ _).trans (teq ((lw_eq _ _).mpr rfl)).2) ?_
    show Steps p.tables e below (T53.setTop (mkF m 98 #[.val (.long q0), .second, .val (.long q1), .second, .val (.long q2), .second, .val (.long q3), .second, .val (.long q4), .second, iv p0, rv w_INSETS_ANIMATION, rv b2, .unset, .unset] [])) _
    refine XS.aload X53.here hx rfl (hb hby at_98) rfl rfl ?_
    show Steps p.tables e below (T53.setTop (mkF m 100 #[.val (.long q0), .second, .val (.long q1), .second, .val (.long q2), .second, .val (.long q3), .second, .val (.long q4), .second, iv p0, rv w_INSETS_ANIMATION, rv b2, .unset, .unset] [(.ref b2)])) _
    refine st54.trans ?_
    show Steps p.tables e below (T54.setTop (mkF m 103 #[.val (.long q0), .second, .val (.long q1), .second, .val (.long q2), .second, .val (.long q3), .second, .val (.long q4), .second, iv p0, rv w_INSETS_ANIMATION, rv b2, .unset, .unset] [(.long q4)])) _
    refine XS.lload X54.here hx rfl (hb hby at_103) rfl ?_
    show Steps p.tables e below (T54.setTop (mkF m 105 #[.val (.long q0), .second, .val (.long q1), .second, .val (.long q2), .second, .val (.long q3), .second, .val (.long q4), .second, iv p0, rv w_INSETS_ANIMATION, rv b2, .unset, .unset] [(.long q4), (.long q4)])) _
    refine XS.lcmp X54.here hx rfl (hb hby at_105) rfl ?_
    show Steps p.tables e below (T54.setTop (mkF m 106 #[.val (.long q0), .second, .val (.long q1), .second, .val (.long q2), .second, .val (.long q3), .second, .val (.long q4), .second, iv p0, rv w_INSETS_ANIMATION, rv b2, .unset, .unset] [(.int (lcmpW q4 q4))])) _
    refine XS.ifNo X54.here hx rfl (hb hby at_106) rfl ((if0 _ _).trans (teq ((lw_eq _ _).mpr rfl)).2) ?_
    show Steps p.tables e below (T54.setTop (mkF m 109 #[.val (.long q0), .second, .val (.long q1), .second, .val (.long q2), .second, .val (.long q3), .second, .val (.long q4), .second, iv p0, rv w_INSETS_ANIMATION, rv b2, .unset, .unset] [])) _
    refine XS.iconst X54.here hx rfl (hb hby at_109) ?_
    show Steps p.tables e below (T54.setTop (mkF m 110 #[.val (.long q0), .second, .val (.long q1), .second, .val (.long q2), .second, .val (.long q3), .second, .val (.long q4), .second, iv p0, rv w_INSETS_ANIMATION, rv b2, .unset, .unset] [(.int 1)])) _
    refine XS.goto X54.here hx rfl (pc0 := 110) (pc' := 114) rfl (hb hby at_110) (by decide) (by decide) ?_
    show Steps p.tables e below (T54.setTop (mkF m 114 #[.val (.long q0), .second, .val (.long q1), .second, .val (.long q2), .second, .val (.long q3), .second, .val (.long q4), .second, iv p0, rv w_INSETS_ANIMATION, rv b2, .unset, .unset] [(.int 1)])) _
    refine XS.istore X54.here hx rfl (hb hby at_114) rfl (l' := #[.val (.long q0), .second, .val (.long q1), .second, .val (.long q2), .second, .val (.long q3), .second, .val (.long q4), .second, iv p0, rv w_INSETS_ANIMATION, rv b2, iv 1, .unset]) rfl ?_
    show Steps p.tables e below (T54.setTop (mkF m 116 #[.val (.long q0), .second, .val (.long q1), .second, .val (.long q2), .second, .val (.long q3), .second, .val (.long q4), .second, iv p0, rv w_INSETS_ANIMATION, rv b2, iv 1, .unset] [])) _
    refine XS.aload X54.here hx rfl (hb hby at_116) rfl rfl ?_
    show Steps p.tables e below (T54.setTop (mkF m 118 #[.val (.long q0), .second, .val (.long q1), .second, .val (.long q2), .second, .val (.long q3), .second, .val (.long q4), .second, iv p0, rv w_INSETS_ANIMATION, rv b2, iv 1, .unset] [(.ref b2)])) _
    refine st55 _ ?_
    show Steps p.tables e below (T55.setTop (mkF m 121 #[.val (.long q0), .second, .val (.long q1), .second, .val (.long q2), .second, .val (.long q3), .second, .val (.long q4), .second, iv p0, rv w_INSETS_ANIMATION, rv b2, iv 1, .unset] [(.ref w_INPUT), (.ref b2)])) _
    refine st56.trans ?_
    show Steps p.tables e below (T56.setTop (mkF m 124 #[.val (.long q0), .second, .val (.long q1), .second, .val (.long q2), .second, .val (.long q3), .second, .val (.long q4), .second, iv p0, rv w_INSETS_ANIMATION, rv b2, iv 1, .unset] [(.int 0)])) _
    refine XS.ifNo X56.here hx rfl (hb hby at_124) rfl ((if0 _ _).trans (teq (by decide)).2) ?_
    show Steps p.tables e below (T56.setTop (mkF m 127 #[.val (.long q0), .second, .val (.long q1), .second, .val (.long q2), .second, .val (.long q3), .second, .val (.long q4), .second, iv p0, rv w_INSETS_ANIMATION, rv b2, iv 1, .unset] [])) _
    refine XS.aload X56.here hx rfl (hb hby at_127) rfl rfl ?_
    show Steps p.tables e below (T56.setTop (mkF m 129 #[.val (.long q0), .second, .val (.long q1), .second, .val (.long q2), .second, .val (.long q3), .second, .val (.long q4), .second, iv p0, rv w_INSETS_ANIMATION, rv b2, iv 1, .unset] [(.ref b2)])) _
    refine XS.aload X56.here hx rfl (hb hby at_129) rfl rfl ?_
    show Steps p.tables e below (T56.setTop (mkF m 131 #[.val (.long q0), .second, .val (.long q1), .second, .val (.long q2), .second, .val (.long q3), .second, .val (.long q4), .second, iv p0, rv w_INSETS_ANIMATION, rv b2, iv 1, .unset] [(.ref w_INSETS_ANIMATION), (.ref b2)])) _
    refine st57.trans ?_
    show Steps p.tables e below (T57.setTop (mkF m 134 #[.val (.long q0), .second, .val (.long q1), .second, .val (.long q2), .second, .val (.long q3), .second, .val (.long q4), .second, iv p0, rv w_INSETS_ANIMATION, rv b2, iv 1, .unset] [(.int 0)])) _
    refine XS.ifNo X57.here hx rfl (hb hby at_134) rfl ((if0 _ _).trans (teq (by decide)).2) ?_
    show Steps p.tables e below (T57.setTop (mkF m 137 #[.val (.long q0), .second, .val (.long q1), .second, .val (.long q2), .second, .val (.long q3), .second, .val (.long q4), .second, iv p0, rv w_INSETS_ANIMATION, rv b2, iv 1, .unset] [])) _
    refine XS.iconst X57.here hx rfl (hb hby at_137) ?_
    show Steps p.tables e below (T57.setTop (mkF m 138 #[.val (.long q0), .second, .val (.long q1), .second, .val (.long q2), .second, .val (.long q3), .second, .val (.long q4), .second, iv p0, rv w_INSETS_ANIMATION, rv b2, iv 1, .unset] [(.int 1)])) _
    refine XS.goto X57.here hx rfl (pc0 := 138) (pc' := 142) rfl (hb hby at_138) (by decide) (by decide) ?_
    show Steps p.tables e below (T57.setTop (mkF m 142 #[.val (.long q0), .second, .val (.long q1), .second, .val (.long q2), .second, .val (.long q3), .second, .val (.long q4), .second, iv p0, rv w_INSETS_ANIMATION, rv b2, iv 1, .unset] [(.int 1)])) _
    refine XS.istore X57.here hx rfl (hb hby at_142) rfl (l' := #[.val (.long q0), .second, .val (.long q1), .second, .val (.long q2), .second, .val (.long q3), .second, .val (.long q4), .second, iv p0, rv w_INSETS_ANIMATION, rv b2, iv 1, iv 1]) rfl ?_
    show Steps p.tables e below (T57.setTop (mkF m 144 #[.val (.long q0), .second, .val (.long q1), .second, .val (.long q2), .second, .val (.long q3), .second, .val (.long q4), .second, iv p0, rv w_INSETS_ANIMATION, rv b2, iv 1, iv 1] [])) _
    refine XS.iload X57.here hx rfl (hb hby at_144) rfl ?_
    show Steps p.tables e below (T57.setTop (mkF m 146 #[.val (.long q0), .second, .val (.long q1), .second, .val (.long q2), .second, .val (.long q3), .second, .val (.long q4), .second, iv p0, rv w_INSETS_ANIMATION, rv b2, iv 1, iv 1] [(.int 1)])) _
    refine XS.ifNo X57.here hx rfl (hb hby at_146) rfl ((if0 _ _).trans (feq (by decide)).1) ?_
    show Steps p.tables e below (T57.setTop (mkF m 149 #[.val (.long q0), .second, .val (.long q1), .second, .val (.long q2), .second, .val (.long q3), .second, .val (.long q4), .second, iv p0, rv w_INSETS_ANIMATION, rv b2, iv 1, iv 1] [])) _
    refine XS.iload X57.here hx rfl (hb hby at_149) rfl ?_
    show Steps p.tables e below (T57.setTop (mkF m 151 #[.val (.long q0), .second, .val (.long q1), .second, .val (.long q2), .second, .val (.long q3), .second, .val (.long q4), .second, iv p0, rv w_INSETS_ANIMATION, rv b2, iv 1, iv 1] [(.int 1)])) _
    refine XS.ifNo X57.here hx rfl (hb hby at_151) rfl ((if0 _ _).trans (feq (by decide)).1) ?_
    show Steps p.tables e below (T57.setTop (mkF m 154 #[.val (.long q0), .second, .val (.long q1), .second, .val (.long q2), .second, .val (.long q3), .second, .val (.long q4), .second, iv p0, rv w_INSETS_ANIMATION, rv b2, iv 1, iv 1] [])) _
    refine XS.iconst X57.here hx rfl (hb hby at_154) ?_
    show Steps p.tables e below (T57.setTop (mkF m 155 #[.val (.long q0), .second, .val (.long q1), .second, .val (.long q2), .second, .val (.long q3), .second, .val (.long q4), .second, iv p0, rv w_INSETS_ANIMATION, rv b2, iv 1, iv 1] [(.int 1)])) _
    refine XS.goto X57.here hx rfl (pc0 := 155) (pc' := 159) rfl (hb hby at_155) (by decide) (by decide) ?_
    show Steps p.tables e below (T57.setTop (mkF m 159 #[.val (.long q0), .second, .val (.long q1), .second, .val (.long q2), .second, .val (.long q3), .second, .val (.long q4), .second, iv p0, rv w_INSETS_ANIMATION, rv b2, iv 1, iv 1] [(.int 1)])) _
    exact retN X57 hx (t := .boolean) Bd.returns (by simp) (hb hby at_159) hr
  · show own_law2_Q Z w_INPUT w_ANIMATION w_INSETS_ANIMATION w_TRAVERSAL w_COMMIT q0 q1 q2 q3 q4 p0 h0 n0 _ T57.heap _
    rw [e57]
    exact ⟨rfl, N57, trivial⟩
theorem own_law3_ef (m : MethodId) (q0 : Int64) (q1 : Int64) (q2 : Int64) (q3 : Int64) (q4 : Int64) (p0 : Int32) : entryFrame m #[(.long q0), (.long q1), (.long q2), (.long q3), (.long q4), (.int p0)] maxLocals = mkF m 0 #[.val (.long q0), .second, .val (.long q1), .second, .val (.long q2), .second, .val (.long q3), .second, .val (.long q4), .second, iv p0, .unset, .unset, .unset, .unset] [] := by first | (simp [entryFrame, mkF, argsToLocals, Value.category, maxLocals]; done) | rfl
def own_law3_Q (Z : State) (w_INPUT : Addr) (w_ANIMATION : Addr) (w_INSETS_ANIMATION : Addr) (w_TRAVERSAL : Addr) (w_COMMIT : Addr) (q0 : Int64) (q1 : Int64) (q2 : Int64) (q3 : Int64) (q4 : Int64) (p0 : Int32) (h0 : Heap) (n0 : Nat) (v : Option Value) (h : Heap) (L : List Loc) : Prop := v = some (.int 1) ∧ Fr n0 L ∧ True
set_option maxRecDepth 65536 in
set_option maxHeartbeats 40000000 in
theorem own_law3 (l : Launch) (Z : State) (a0 : Array Value) (hw : ∀ d ∈ tables_1, d.before a0 Z = true) (ws : List Jvm.Cond) (w_INPUT : Addr) (w_ANIMATION : Addr) (w_INSETS_ANIMATION : Addr) (w_TRAVERSAL : Addr) (w_COMMIT : Addr) (q0 : Int64) (q1 : Int64) (q2 : Int64) (q3 : Int64) (q4 : Int64) (p0 : Int32) (h0 : Heap) (n0 : Nat) (O0 : Old Z n0 h0) (U_INPUT : own_En Z Z.heap "com/example/vsyncopate/vsyncopate/frame/FramePhase" "INPUT" "Lcom/example/vsyncopate/vsyncopate/frame/FramePhase;" w_INPUT (0 : Int32)) (U_ANIMATION : own_En Z Z.heap "com/example/vsyncopate/vsyncopate/frame/FramePhase" "ANIMATION" "Lcom/example/vsyncopate/vsyncopate/frame/FramePhase;" w_ANIMATION (1 : Int32)) (U_INSETS_ANIMATION : own_En Z Z.heap "com/example/vsyncopate/vsyncopate/frame/FramePhase" "INSETS_ANIMATION" "Lcom/example/vsyncopate/vsyncopate/frame/FramePhase;" w_INSETS_ANIMATION (2 : Int32)) (U_TRAVERSAL : own_En Z Z.heap "com/example/vsyncopate/vsyncopate/frame/FramePhase" "TRAVERSAL" "Lcom/example/vsyncopate/vsyncopate/frame/FramePhase;" w_TRAVERSAL (3 : Int32)) (U_COMMIT : own_En Z Z.heap "com/example/vsyncopate/vsyncopate/frame/FramePhase" "COMMIT" "Lcom/example/vsyncopate/vsyncopate/frame/FramePhase;" w_COMMIT (4 : Int32)) (S_PC : Sta Z Z.heap "com/example/vsyncopate/vsyncopate/frame/FrameTiming" "PHASE_COUNT" "I" (.int 5)) (hk : (p0 &&& (2147483647 : Int32)) % (5 : Int32) = (3 : Int32)) :
    MetFree l x (head1 (Jvm.Cond.code x code maxLocals ret :: ws) room_1) (fun ar U => ar = #[(.long q0), (.long q1), (.long q2), (.long q3), (.long q4), (.int p0)] ∧ Z.Warmed39 U.vm ∧ U.heap = h0) (fun _ _ _ _ _ => True) (fun _ U oc U' => ∃ v L, oc = .returned v ∧ own_law3_Q Z w_INPUT w_ANIMATION w_INSETS_ANIMATION w_TRAVERSAL w_COMMIT q0 q1 q2 q3 q4 p0 h0 n0 v U'.heap L ∧ FrameEnd U oc U' L 16 128) := by
  refine MetFree.of_bodySF (plainFor_of_name own_pn0) hisR ?_
  intro p e s m args below meth c s₁ Bd hml0 hP hK
  obtain ⟨rfl, hZ, hh⟩ := hP
  have hx := Bd.exec
  have hby := Bd.bytes
  have hml : c.maxLocals = 15 := hml0
  have hown : s.vm.findClass "com/example/vsyncopate/vsyncopate/frame/FrameTimingFrameBeginsPinLaw" = some m.cls := findClass_of_methodNamed Bd.named
  have hnm := (name_of_methodNamed Bd.named Bd.method).1
  have X0 : Stand p l e room_1 s m #[(.long q0), (.long q1), (.long q2), (.long q3), (.long q4), (.int p0)] below meth c s₁ [] 0 0 := Stand.of_body Bd
  have e0 : s₁.heap = h0 := by rw [← hh, Bd.state]; rfl
  have N0 := Fr.nil n0
  have pre0 : ∀ t, Steps p.tables e below (s₁.setTop (mkF m 0 #[.val (.long q0), .second, .val (.long q1), .second, .val (.long q2), .second, .val (.long q3), .second, .val (.long q4), .second, iv p0, .unset, .unset, .unset, .unset] [])) t → Steps p.tables e below (s₁.setTop (entryFrame m #[(.long q0), (.long q1), (.long q2), (.long q3), (.long q4), (.int p0)] maxLocals)) t := fun t k => castTop (own_law3_ef m q0 q1 q2 q3 q4 p0) k
  obtain ⟨_, _, ⟨T1, L1, k1, n1⟩, -, X1, ⟨Lc1, hQ1, l1, y1, z1⟩, st1⟩ := Jvm.LawKit.callS X0 hx (y := (⟨"com/example/vsyncopate/vsyncopate/frame/FrameTimingFrameBeginsPinLaw", "pick", "(I)Lcom/example/vsyncopate/vsyncopate/frame/FramePhase;"⟩ : MethodName)) hown (mvT hZ (hw _ (own_m 1 rfl))) (mvT hZ (hw _ (own_m 2 rfl))) (mvT hZ (hw _ (own_m 3 rfl))) (mvT hZ (hw _ (own_m 4 rfl))) (by decide) (backOf (W := 0) (own_p_3 l Z a0 hw [] w_INPUT w_ANIMATION w_INSETS_ANIMATION w_TRAVERSAL w_COMMIT  h0 n0 O0 U_INPUT U_ANIMATION U_INSETS_ANIMATION U_TRAVERSAL U_COMMIT S_PC ) hZ (hw _ (own_m 4 rfl)) (hw _ (own_m 3 rfl)) (by decide) (by decide)) (g := (mkF m 7 #[.val (.long q0), .second, .val (.long q1), .second, .val (.long q2), .second, .val (.long q3), .second, .val (.long q4), .second, iv p0, .unset, .unset, .unset, .unset] [(.int 3)])) rfl (by rw [hml]; rfl) (argsL := [(.int 3)]) (rest := []) (lenOf own_pd1 rfl) rfl (by show 2 * 0 + _ ≤ _; exact Nat.le_of_eq rfl) (hb hby at_7) (fun _ _ => ⟨rfl, e0, (by decide : 0 + 0 ≤ _), (by decide : 0 + 0 ≤ _)⟩)
  dsimp only [Pt.U, Pt.locs, Pt.cells, Pt.slots] at X1 l1 y1 z1 st1 hQ1
  subst l1 y1 z1
  obtain ⟨rfl, N1q, e1⟩ := hQ1
  have N1 := Fr.app N0 N1q
  obtain ⟨T2, h2, X2, e2, E2, A2, D2, -, st2⟩ := newO X1 hx hZ hown (hw _ (own_m 8 rfl)) (hw _ (own_m 9 rfl)) (hw _ (own_m 10 rfl)) e1 (g := (mkF m 12 #[.val (.long q0), .second, .val (.long q1), .second, .val (.long q2), .second, .val (.long q3), .second, .val (.long q4), .second, iv p0, rv w_TRAVERSAL, .unset, .unset, .unset] [])) rfl (hb hby at_12) (by decide) (by decide)
  obtain ⟨b2, g2⟩ : ∃ z, z = h0.size := ⟨_, rfl⟩
  rw [← g2] at A2 D2 st2
  have gg_b2 : n0 ≤ b2 := g2 ▸ own_le O0
  have O3 := O0.ext E2
  have F_phaseBeganNanos_b2 : Fld Z h2 b2 "com/example/vsyncopate/vsyncopate/frame/FrameTiming" "phaseBeganNanos" "[J" .null := D2 (Or.inr (hw _ (own_m 21 rfl))) (ty := (.array .long)) (by decide)
  have F_phaseCallbacks_b2 : Fld Z h2 b2 "com/example/vsyncopate/vsyncopate/frame/FrameTiming" "phaseCallbacks" "[I" .null := D2 (Or.inr (hw _ (own_m 24 rfl))) (ty := (.array .int)) (by decide)
  have F_frameNumber_b2 : Fld Z h2 b2 "com/example/vsyncopate/vsyncopate/frame/FrameTiming" "frameNumber" "J" (.long 0) := D2 (Or.inl (hw _ (own_m 31 rfl))) (ty := .long) (by decide)
  have F_pulseTimeNanos_b2 : Fld Z h2 b2 "com/example/vsyncopate/vsyncopate/frame/FrameTiming" "pulseTimeNanos" "J" (.long 0) := D2 (Or.inl (hw _ (own_m 33 rfl))) (ty := .long) (by decide)
  have F_frameTimeNanos_b2 : Fld Z h2 b2 "com/example/vsyncopate/vsyncopate/frame/FrameTiming" "frameTimeNanos" "J" (.long 0) := D2 (Or.inl (hw _ (own_m 35 rfl))) (ty := .long) (by decide)
  have F_skippedFrames_b2 : Fld Z h2 b2 "com/example/vsyncopate/vsyncopate/frame/FrameTiming" "skippedFrames" "J" (.long 0) := D2 (Or.inl (hw _ (own_m 37 rfl))) (ty := .long) (by decide)
  have F_beganNanos_b2 : Fld Z h2 b2 "com/example/vsyncopate/vsyncopate/frame/FrameTiming" "beganNanos" "J" (.long 0) := D2 (Or.inl (hw _ (own_m 39 rfl))) (ty := .long) (by decide)
  have F_phasesBegun_b2 : Fld Z h2 b2 "com/example/vsyncopate/vsyncopate/frame/FrameTiming" "phasesBegun" "I" (.int 0) := D2 (Or.inl (hw _ (own_m 41 rfl))) (ty := .int) (by decide)
  obtain ⟨_, _, ⟨T4, L4, k4, n4⟩, -, X4, ⟨Lc4, hQ4, l4, y4, z4⟩, st4⟩ := X2.specialBack hx (y := (⟨"com/example/vsyncopate/vsyncopate/frame/FrameTiming", "<init>", "()V"⟩ : MethodName)) rfl hown (mvT hZ (hw _ (own_m 11 rfl))) (mvT hZ (hw _ (own_m 12 rfl))) (mvT hZ (hw _ (own_m 13 rfl))) (by decide) (backOf (W := 1) (own_mk l Z a0 hw [] w_INPUT w_ANIMATION w_INSETS_ANIMATION w_TRAVERSAL w_COMMIT b2 h2 n0 O3 U_INPUT U_ANIMATION U_INSETS_ANIMATION U_TRAVERSAL U_COMMIT S_PC gg_b2 A2 F_phaseBeganNanos_b2 F_phaseCallbacks_b2 F_frameNumber_b2 F_pulseTimeNanos_b2 F_frameTimeNanos_b2 F_skippedFrames_b2 F_beganNanos_b2 F_phasesBegun_b2) hZ (hw _ (own_m 13 rfl)) (hw _ (own_m 10 rfl)) (by decide) (by decide)) (g := (mkF m 16 #[.val (.long q0), .second, .val (.long q1), .second, .val (.long q2), .second, .val (.long q3), .second, .val (.long q4), .second, iv p0, rv w_TRAVERSAL, .unset, .unset, .unset] [(.ref b2), (.ref b2)])) rfl (by rw [hml]; rfl) (Steps.refl _) (a := b2) (argsL := []) (rest := [(.ref b2)]) (lenOf own_pd2 rfl) rfl (by show 2 * 0 + _ ≤ _; exact Nat.le_of_eq rfl) (hb hby at_16) (fun _ _ => ⟨rfl, e2, (by decide : 1 + 2 ≤ _), (by decide : 9 + 10 ≤ _)⟩)
  dsimp only [Pt.U, Pt.locs, Pt.cells, Pt.slots] at X4 l4 y4 z4 st4 hQ4
  subst l4 y4 z4
  obtain ⟨rfl, N4q, K4, bb, cc, kb, kc, g_bb, g_cc, nba, nca, nbc, V_bb, V_cc, q5, q6, q7, q8, q9, q10, q11, q12, q13⟩ := hQ4
  have N4 := Fr.app N1 N4q
  have O14 := O3.keep K4 (allS gg_b2 all0)
  obtain ⟨cq15, kq15, q15a, q15b, q15c⟩ := isOf hZ rfl q5
  obtain ⟨_, _, ⟨T15, L15, k15, n15⟩, -, X15, ⟨Lc15, hQ15, l15, y15, z15⟩, st15⟩ := X4.virtualBack hx (y := (⟨"com/example/vsyncopate/vsyncopate/frame/FrameTiming", "frameBegins", "(JJJJJ)V"⟩ : MethodName)) (z := (⟨"com/example/vsyncopate/vsyncopate/frame/FrameTiming", "frameBegins", "(JJJJJ)V"⟩ : MethodName)) hown (mvT hZ (hw _ (own_m 25 rfl))) (mvT hZ (hw _ (own_m 26 rfl))) (notFace_of_selects (args := #[]) (mvT hZ (hw _ (own_m 28 rfl)))) (mvT hZ (hw _ (own_m 28 rfl))) (mvT hZ (hw _ (own_m 27 rfl))) (by decide) (backOf (W := 0) (own_fb l Z a0 hw [] w_INPUT w_ANIMATION w_INSETS_ANIMATION w_TRAVERSAL w_COMMIT b2 bb cc q1 q2 q3 q4 q0 (0 : Int64) (0 : Int64) (0 : Int64) (0 : Int64) (0 : Int64) (0 : Int32) T4.heap n0 O14 U_INPUT U_ANIMATION U_INSETS_ANIMATION U_TRAVERSAL U_COMMIT S_PC gg_b2 q5 q6 q7 q8 q9 q10 q11 q12 q13) hZ (hw _ (own_m 29 rfl)) (hw _ (own_m 10 rfl)) (by decide) (by decide)) q15a q15c (g := (mkF m 31 #[.val (.long q0), .second, .val (.long q1), .second, .val (.long q2), .second, .val (.long q3), .second, .val (.long q4), .second, iv p0, rv w_TRAVERSAL, rv b2, .unset, .unset] [(.long q0), (.long q4), (.long q3), (.long q2), (.long q1), (.ref b2)])) rfl (by rw [hml]; rfl) (Steps.refl _) (argsL := [(.long q1), (.long q2), (.long q3), (.long q4), (.long q0)]) (rest := []) (lenOf own_pd3 rfl) rfl (by show 2 * 0 + _ ≤ _; exact Nat.le_of_eq rfl) (hb hby at_31) (fun _ _ => ⟨rfl, rfl, (by decide : 3 + 0 ≤ _), (by decide : 19 + 0 ≤ _)⟩)
  dsimp only [Pt.U, Pt.locs, Pt.cells, Pt.slots] at X15 l15 y15 z15 st15 hQ15
  subst l15 y15 z15
  obtain ⟨rfl, N15q, K15, q16, q17, q18, q19, q20, q21, q22, q23, q24⟩ := hQ15
  have N15 := Fr.app N4 N15q
  have O25 := O14.keep K15 (allS gg_b2 all0)
  have f26 := (V_bb.keep K15 (ninS nba nin0))
  have f27 := (V_cc.keep K15 (ninS nca nin0))
  obtain ⟨cq28, kq28, q28a, q28b, q28c⟩ := isOf hZ rfl q16
  obtain ⟨_, _, ⟨T28, L28, k28, n28⟩, -, X28, ⟨Lc28, hQ28, l28, y28, z28⟩, st28⟩ := X15.virtualBack hx (y := (⟨"com/example/vsyncopate/vsyncopate/frame/FrameTiming", "phaseBegins", "(Lcom/example/vsyncopate/vsyncopate/frame/FramePhase;J)V"⟩ : MethodName)) (z := (⟨"com/example/vsyncopate/vsyncopate/frame/FrameTiming", "phaseBegins", "(Lcom/example/vsyncopate/vsyncopate/frame/FramePhase;J)V"⟩ : MethodName)) hown (mvT hZ (hw _ (own_m 42 rfl))) (mvT hZ (hw _ (own_m 43 rfl))) (notFace_of_selects (args := #[]) (mvT hZ (hw _ (own_m 45 rfl)))) (mvT hZ (hw _ (own_m 45 rfl))) (mvT hZ (hw _ (own_m 44 rfl))) (by decide) (backOf (W := 0) (own_pb_TRAVERSAL l Z a0 hw [] w_INPUT w_ANIMATION w_INSETS_ANIMATION w_TRAVERSAL w_COMMIT b2 bb cc kb kc q4 q1 q2 q3 q4 q0 (0 : Int32) T15.heap n0 O25 U_INPUT U_ANIMATION U_INSETS_ANIMATION U_TRAVERSAL U_COMMIT S_PC gg_b2 q16 q17 q18 q19 q20 q21 q22 q23 q24 g_bb g_cc nba nca nbc f26 f27) hZ (hw _ (own_m 46 rfl)) (hw _ (own_m 10 rfl)) (by decide) (by decide)) q28a q28c (g := (mkF m 40 #[.val (.long q0), .second, .val (.long q1), .second, .val (.long q2), .second, .val (.long q3), .second, .val (.long q4), .second, iv p0, rv w_TRAVERSAL, rv b2, .unset, .unset] [(.long q4), (.ref w_TRAVERSAL), (.ref b2)])) rfl (by rw [hml]; rfl) (Steps.refl _) (argsL := [(.ref w_TRAVERSAL), (.long q4)]) (rest := []) (lenOf own_pd4 rfl) rfl (by show 2 * 0 + _ ≤ _; exact Nat.le_of_eq rfl) (hb hby at_40) (fun _ _ => ⟨rfl, rfl, (by decide : 3 + 0 ≤ _), (by decide : 19 + 0 ≤ _)⟩)
  dsimp only [Pt.U, Pt.locs, Pt.cells, Pt.slots] at X28 l28 y28 z28 st28 hQ28
  subst l28 y28 z28
  obtain ⟨rfl, N28q, K28, q29, q30, q31, q32, q33, q34, q35, q36, q37⟩ := hQ28
  have N28 := Fr.app N15 N28q
  have O38 := O25.keep K28 (allS gg_b2 (allS g_bb (allS g_cc all0)))
  obtain ⟨cq39, kq39, q39a, q39b, q39c⟩ := isOf hZ rfl q29
  obtain ⟨_, _, ⟨T39, L39, k39, n39⟩, -, X39, ⟨Lc39, hQ39, l39, y39, z39⟩, st39⟩ := X28.virtualBack hx (y := (⟨"com/example/vsyncopate/vsyncopate/frame/FrameTiming", "frameBegins", "(JJJJJ)V"⟩ : MethodName)) (z := (⟨"com/example/vsyncopate/vsyncopate/frame/FrameTiming", "frameBegins", "(JJJJJ)V"⟩ : MethodName)) hown (mvT hZ (hw _ (own_m 25 rfl))) (mvT hZ (hw _ (own_m 26 rfl))) (notFace_of_selects (args := #[]) (mvT hZ (hw _ (own_m 28 rfl)))) (mvT hZ (hw _ (own_m 28 rfl))) (mvT hZ (hw _ (own_m 27 rfl))) (by decide) (backOf (W := 0) (own_fb l Z a0 hw [] w_INPUT w_ANIMATION w_INSETS_ANIMATION w_TRAVERSAL w_COMMIT b2 bb cc q0 q1 q2 q3 q4 q1 q2 q3 q4 q0 (4 : Int32) T28.heap n0 O38 U_INPUT U_ANIMATION U_INSETS_ANIMATION U_TRAVERSAL U_COMMIT S_PC gg_b2 q29 q30 q31 q32 q33 q34 q35 q36 q37) hZ (hw _ (own_m 29 rfl)) (hw _ (own_m 10 rfl)) (by decide) (by decide)) q39a q39c (g := (mkF m 53 #[.val (.long q0), .second, .val (.long q1), .second, .val (.long q2), .second, .val (.long q3), .second, .val (.long q4), .second, iv p0, rv w_TRAVERSAL, rv b2, .unset, .unset] [(.long q4), (.long q3), (.long q2), (.long q1), (.long q0), (.ref b2)])) rfl (by rw [hml]; rfl) (Steps.refl _) (argsL := [(.long q0), (.long q1), (.long q2), (.long q3), (.long q4)]) (rest := []) (lenOf own_pd3 rfl) rfl (by show 2 * 0 + _ ≤ _; exact Nat.le_of_eq rfl) (hb hby at_53) (fun _ _ => ⟨rfl, rfl, (by decide : 3 + 0 ≤ _), (by decide : 19 + 0 ≤ _)⟩)
  dsimp only [Pt.U, Pt.locs, Pt.cells, Pt.slots] at X39 l39 y39 z39 st39 hQ39
  subst l39 y39 z39
  obtain ⟨rfl, N39q, K39, q40, q41, q42, q43, q44, q45, q46, q47, q48⟩ := hQ39
  have N39 := Fr.app N28 N39q
  have O49 := O38.keep K39 (allS gg_b2 all0)
  obtain ⟨cq50, kq50, q50a, q50b, q50c⟩ := isOf hZ rfl q40
  obtain ⟨_, _, ⟨T50, L50, k50, n50⟩, -, X50, ⟨Lc50, hQ50, l50, y50, z50⟩, st50⟩ := X39.virtualBack hx (y := (⟨"com/example/vsyncopate/vsyncopate/frame/FrameTiming", "frameNumber", "()J"⟩ : MethodName)) (z := (⟨"com/example/vsyncopate/vsyncopate/frame/FrameTiming", "frameNumber", "()J"⟩ : MethodName)) hown (mvT hZ (hw _ (own_m 56 rfl))) (mvT hZ (hw _ (own_m 57 rfl))) (notFace_of_selects (args := #[]) (mvT hZ (hw _ (own_m 59 rfl)))) (mvT hZ (hw _ (own_m 59 rfl))) (mvT hZ (hw _ (own_m 58 rfl))) (by decide) (backOf (W := 0) (own_g_frameNumber l Z a0 hw [] w_INPUT w_ANIMATION w_INSETS_ANIMATION w_TRAVERSAL w_COMMIT b2 q0 T39.heap n0 O49 U_INPUT U_ANIMATION U_INSETS_ANIMATION U_TRAVERSAL U_COMMIT S_PC q43) hZ (hw _ (own_m 60 rfl)) (hw _ (own_m 10 rfl)) (by decide) (by decide)) q50a q50c (g := (mkF m 58 #[.val (.long q0), .second, .val (.long q1), .second, .val (.long q2), .second, .val (.long q3), .second, .val (.long q4), .second, iv p0, rv w_TRAVERSAL, rv b2, .unset, .unset] [(.ref b2)])) rfl (by rw [hml]; rfl) (Steps.refl _) (argsL := []) (rest := []) (lenOf own_pd5 rfl) rfl (by show 2 * 0 + _ ≤ _; exact Nat.le_of_eq rfl) (hb hby at_58) (fun _ _ => ⟨rfl, rfl, (by decide : 3 + 0 ≤ _), (by decide : 19 + 0 ≤ _)⟩)
  dsimp only [Pt.U, Pt.locs, Pt.cells, Pt.slots] at X50 l50 y50 z50 st50 hQ50
  subst l50 y50 z50
  obtain ⟨rfl, N50q, e50⟩ := hQ50
  have N50 := Fr.app N39 N50q
  obtain ⟨cq51, kq51, q51a, q51b, q51c⟩ := isOf hZ e50 q40
  obtain ⟨_, _, ⟨T51, L51, k51, n51⟩, -, X51, ⟨Lc51, hQ51, l51, y51, z51⟩, st51⟩ := X50.virtualBack hx (y := (⟨"com/example/vsyncopate/vsyncopate/frame/FrameTiming", "pulseTimeNanos", "()J"⟩ : MethodName)) (z := (⟨"com/example/vsyncopate/vsyncopate/frame/FrameTiming", "pulseTimeNanos", "()J"⟩ : MethodName)) hown (mvT hZ (hw _ (own_m 61 rfl))) (mvT hZ (hw _ (own_m 62 rfl))) (notFace_of_selects (args := #[]) (mvT hZ (hw _ (own_m 64 rfl)))) (mvT hZ (hw _ (own_m 64 rfl))) (mvT hZ (hw _ (own_m 63 rfl))) (by decide) (backOf (W := 0) (own_g_pulseTimeNanos l Z a0 hw [] w_INPUT w_ANIMATION w_INSETS_ANIMATION w_TRAVERSAL w_COMMIT b2 q1 T39.heap n0 O49 U_INPUT U_ANIMATION U_INSETS_ANIMATION U_TRAVERSAL U_COMMIT S_PC q44) hZ (hw _ (own_m 65 rfl)) (hw _ (own_m 10 rfl)) (by decide) (by decide)) q51a q51c (g := (mkF m 68 #[.val (.long q0), .second, .val (.long q1), .second, .val (.long q2), .second, .val (.long q3), .second, .val (.long q4), .second, iv p0, rv w_TRAVERSAL, rv b2, .unset, .unset] [(.ref b2)])) rfl (by rw [hml]; rfl) (Steps.refl _) (argsL := []) (rest := []) (lenOf own_pd5 rfl) rfl (by show 2 * 0 + _ ≤ _; exact Nat.le_of_eq rfl) (hb hby at_68) (fun _ _ => ⟨rfl, e50, (by decide : 3 + 0 ≤ _), (by decide : 19 + 0 ≤ _)⟩)
  dsimp only [Pt.U, Pt.locs, Pt.cells, Pt.slots] at X51 l51 y51 z51 st51 hQ51
  subst l51 y51 z51
  obtain ⟨rfl, N51q, e51⟩ := hQ51
  have N51 := Fr.app N50 N51q
  obtain ⟨cq52, kq52, q52a, q52b, q52c⟩ := isOf hZ e51 q40
  obtain ⟨_, _, ⟨T52, L52, k52, n52⟩, -, X52, ⟨Lc52, hQ52, l52, y52, z52⟩, st52⟩ := X51.virtualBack hx (y := (⟨"com/example/vsyncopate/vsyncopate/frame/FrameTiming", "frameTimeNanos", "()J"⟩ : MethodName)) (z := (⟨"com/example/vsyncopate/vsyncopate/frame/FrameTiming", "frameTimeNanos", "()J"⟩ : MethodName)) hown (mvT hZ (hw _ (own_m 66 rfl))) (mvT hZ (hw _ (own_m 67 rfl))) (notFace_of_selects (args := #[]) (mvT hZ (hw _ (own_m 69 rfl)))) (mvT hZ (hw _ (own_m 69 rfl))) (mvT hZ (hw _ (own_m 68 rfl))) (by decide) (backOf (W := 0) (own_g_frameTimeNanos l Z a0 hw [] w_INPUT w_ANIMATION w_INSETS_ANIMATION w_TRAVERSAL w_COMMIT b2 q2 T39.heap n0 O49 U_INPUT U_ANIMATION U_INSETS_ANIMATION U_TRAVERSAL U_COMMIT S_PC q45) hZ (hw _ (own_m 70 rfl)) (hw _ (own_m 10 rfl)) (by decide) (by decide)) q52a q52c (g := (mkF m 78 #[.val (.long q0), .second, .val (.long q1), .second, .val (.long q2), .second, .val (.long q3), .second, .val (.long q4), .second, iv p0, rv w_TRAVERSAL, rv b2, .unset, .unset] [(.ref b2)])) rfl (by rw [hml]; rfl) (Steps.refl _) (argsL := []) (rest := []) (lenOf own_pd5 rfl) rfl (by show 2 * 0 + _ ≤ _; exact Nat.le_of_eq rfl) (hb hby at_78) (fun _ _ => ⟨rfl, e51, (by decide : 3 + 0 ≤ _), (by decide : 19 + 0 ≤ _)⟩)
  dsimp only [Pt.U, Pt.locs, Pt.cells, Pt.slots] at X52 l52 y52 z52 st52 hQ52
  subst l52 y52 z52
  obtain ⟨rfl, N52q, e52⟩ := hQ52
  have N52 := Fr.app N51 N52q
  obtain ⟨cq53, kq53, q53a, q53b, q53c⟩ := isOf hZ e52 q40
  obtain ⟨_, _, ⟨T53, L53, k53, n53⟩, -, X53, ⟨Lc53, hQ53, l53, y53, z53⟩, st53⟩ := X52.virtualBack hx (y := (⟨"com/example/vsyncopate/vsyncopate/frame/FrameTiming", "skippedFrames", "()J"⟩ : MethodName)) (z := (⟨"com/example/vsyncopate/vsyncopate/frame/FrameTiming", "skippedFrames", "()J"⟩ : MethodName)) hown (mvT hZ (hw _ (own_m 71 rfl))) (mvT hZ (hw _ (own_m 72 rfl))) (notFace_of_selects (args := #[]) (mvT hZ (hw _ (own_m 74 rfl)))) (mvT hZ (hw _ (own_m 74 rfl))) (mvT hZ (hw _ (own_m 73 rfl))) (by decide) (backOf (W := 0) (own_g_skippedFrames l Z a0 hw [] w_INPUT w_ANIMATION w_INSETS_ANIMATION w_TRAVERSAL w_COMMIT b2 q3 T39.heap n0 O49 U_INPUT U_ANIMATION U_INSETS_ANIMATION U_TRAVERSAL U_COMMIT S_PC q46) hZ (hw _ (own_m 75 rfl)) (hw _ (own_m 10 rfl)) (by decide) (by decide)) q53a q53c (g := (mkF m 89 #[.val (.long q0), .second, .val (.long q1), .second, .val (.long q2), .second, .val (.long q3), .second, .val (.long q4), .second, iv p0, rv w_TRAVERSAL, rv b2, .unset, .unset] [(.ref b2)])) rfl (by rw [hml]; rfl) (Steps.refl _) (argsL := []) (rest := []) (lenOf own_pd5 rfl) rfl (by show 2 * 0 + _ ≤ _; exact Nat.le_of_eq rfl) (hb hby at_89) (fun _ _ => ⟨rfl, e52, (by decide : 3 + 0 ≤ _), (by decide : 19 + 0 ≤ _)⟩)
  dsimp only [Pt.U, Pt.locs, Pt.cells, Pt.slots] at X53 l53 y53 z53 st53 hQ53
  subst l53 y53 z53
  obtain ⟨rfl, N53q, e53⟩ := hQ53
  have N53 := Fr.app N52 N53q
  obtain ⟨cq54, kq54, q54a, q54b, q54c⟩ := isOf hZ e53 q40
  obtain ⟨_, _, ⟨T54, L54, k54, n54⟩, -, X54, ⟨Lc54, hQ54, l54, y54, z54⟩, st54⟩ := X53.virtualBack hx (y := (⟨"com/example/vsyncopate/vsyncopate/frame/FrameTiming", "beganNanos", "()J"⟩ : MethodName)) (z := (⟨"com/example/vsyncopate/vsyncopate/frame/FrameTiming", "beganNanos", "()J"⟩ : MethodName)) hown (mvT hZ (hw _ (own_m 76 rfl))) (mvT hZ (hw _ (own_m 77 rfl))) (notFace_of_selects (args := #[]) (mvT hZ (hw _ (own_m 79 rfl)))) (mvT hZ (hw _ (own_m 79 rfl))) (mvT hZ (hw _ (own_m 78 rfl))) (by decide) (backOf (W := 0) (own_g_beganNanos l Z a0 hw [] w_INPUT w_ANIMATION w_INSETS_ANIMATION w_TRAVERSAL w_COMMIT b2 q4 T39.heap n0 O49 U_INPUT U_ANIMATION U_INSETS_ANIMATION U_TRAVERSAL U_COMMIT S_PC q47) hZ (hw _ (own_m 80 rfl)) (hw _ (own_m 10 rfl)) (by decide) (by decide)) q54a q54c (g := (mkF m 100 #[.val (.long q0), .second, .val (.long q1), .second, .val (.long q2), .second, .val (.long q3), .second, .val (.long q4), .second, iv p0, rv w_TRAVERSAL, rv b2, .unset, .unset] [(.ref b2)])) rfl (by rw [hml]; rfl) (Steps.refl _) (argsL := []) (rest := []) (lenOf own_pd5 rfl) rfl (by show 2 * 0 + _ ≤ _; exact Nat.le_of_eq rfl) (hb hby at_100) (fun _ _ => ⟨rfl, e53, (by decide : 3 + 0 ≤ _), (by decide : 19 + 0 ≤ _)⟩)
  dsimp only [Pt.U, Pt.locs, Pt.cells, Pt.slots] at X54 l54 y54 z54 st54 hQ54
  subst l54 y54 z54
  obtain ⟨rfl, N54q, e54⟩ := hQ54
  have N54 := Fr.app N53 N54q
  obtain ⟨T55, X55, e55, st55⟩ := getS2 X54 hx hZ hown (host := "") (Or.inl (hw _ (own_m 81 rfl))) Via.refl e54 (U_INPUT.1.ext O49.2) (g := (mkF m 118 #[.val (.long q0), .second, .val (.long q1), .second, .val (.long q2), .second, .val (.long q3), .second, .val (.long q4), .second, iv p0, rv w_TRAVERSAL, rv b2, iv 1, .unset] [(.ref b2)])) rfl (hb hby at_118)
  obtain ⟨cq56, kq56, q56a, q56b, q56c⟩ := isOf hZ e55 q40
  obtain ⟨_, _, ⟨T56, L56, k56, n56⟩, -, X56, ⟨Lc56, hQ56, l56, y56, z56⟩, st56⟩ := X55.virtualBack hx (y := (⟨"com/example/vsyncopate/vsyncopate/frame/FrameTiming", "phaseBegan", "(Lcom/example/vsyncopate/vsyncopate/frame/FramePhase;)Z"⟩ : MethodName)) (z := (⟨"com/example/vsyncopate/vsyncopate/frame/FrameTiming", "phaseBegan", "(Lcom/example/vsyncopate/vsyncopate/frame/FramePhase;)Z"⟩ : MethodName)) hown (mvT hZ (hw _ (own_m 83 rfl))) (mvT hZ (hw _ (own_m 84 rfl))) (notFace_of_selects (args := #[]) (mvT hZ (hw _ (own_m 86 rfl)))) (mvT hZ (hw _ (own_m 86 rfl))) (mvT hZ (hw _ (own_m 85 rfl))) (by decide) (backOf (W := 0) (own_h_INPUT l Z a0 hw [] w_INPUT w_ANIMATION w_INSETS_ANIMATION w_TRAVERSAL w_COMMIT b2 T39.heap n0 O49 U_INPUT U_ANIMATION U_INSETS_ANIMATION U_TRAVERSAL U_COMMIT S_PC q48) hZ (hw _ (own_m 87 rfl)) (hw _ (own_m 10 rfl)) (by decide) (by decide)) q56a q56c (g := (mkF m 121 #[.val (.long q0), .second, .val (.long q1), .second, .val (.long q2), .second, .val (.long q3), .second, .val (.long q4), .second, iv p0, rv w_TRAVERSAL, rv b2, iv 1, .unset] [(.ref w_INPUT), (.ref b2)])) rfl (by rw [hml]; rfl) (Steps.refl _) (argsL := [(.ref w_INPUT)]) (rest := []) (lenOf own_pd6 rfl) rfl (by show 2 * 0 + _ ≤ _; exact Nat.le_of_eq rfl) (hb hby at_121) (fun _ _ => ⟨rfl, e55, (by decide : 3 + 0 ≤ _), (by decide : 19 + 0 ≤ _)⟩)
  dsimp only [Pt.U, Pt.locs, Pt.cells, Pt.slots] at X56 l56 y56 z56 st56 hQ56
  subst l56 y56 z56
  obtain ⟨rfl, N56q, e56⟩ := hQ56
  have N56 := Fr.app N54 N56q
  obtain ⟨cq57, kq57, q57a, q57b, q57c⟩ := isOf hZ e56 q40
  obtain ⟨_, _, ⟨T57, L57, k57, n57⟩, -, X57, ⟨Lc57, hQ57, l57, y57, z57⟩, st57⟩ := X56.virtualBack hx (y := (⟨"com/example/vsyncopate/vsyncopate/frame/FrameTiming", "phaseBegan", "(Lcom/example/vsyncopate/vsyncopate/frame/FramePhase;)Z"⟩ : MethodName)) (z := (⟨"com/example/vsyncopate/vsyncopate/frame/FrameTiming", "phaseBegan", "(Lcom/example/vsyncopate/vsyncopate/frame/FramePhase;)Z"⟩ : MethodName)) hown (mvT hZ (hw _ (own_m 83 rfl))) (mvT hZ (hw _ (own_m 84 rfl))) (notFace_of_selects (args := #[]) (mvT hZ (hw _ (own_m 86 rfl)))) (mvT hZ (hw _ (own_m 86 rfl))) (mvT hZ (hw _ (own_m 85 rfl))) (by decide) (backOf (W := 0) (own_h_TRAVERSAL l Z a0 hw [] w_INPUT w_ANIMATION w_INSETS_ANIMATION w_TRAVERSAL w_COMMIT b2 T39.heap n0 O49 U_INPUT U_ANIMATION U_INSETS_ANIMATION U_TRAVERSAL U_COMMIT S_PC q48) hZ (hw _ (own_m 87 rfl)) (hw _ (own_m 10 rfl)) (by decide) (by decide)) q57a q57c (g := (mkF m 131 #[.val (.long q0), .second, .val (.long q1), .second, .val (.long q2), .second, .val (.long q3), .second, .val (.long q4), .second, iv p0, rv w_TRAVERSAL, rv b2, iv 1, .unset] [(.ref w_TRAVERSAL), (.ref b2)])) rfl (by rw [hml]; rfl) (Steps.refl _) (argsL := [(.ref w_TRAVERSAL)]) (rest := []) (lenOf own_pd6 rfl) rfl (by show 2 * 0 + _ ≤ _; exact Nat.le_of_eq rfl) (hb hby at_131) (fun _ _ => ⟨rfl, e56, (by decide : 3 + 0 ≤ _), (by decide : 19 + 0 ≤ _)⟩)
  dsimp only [Pt.U, Pt.locs, Pt.cells, Pt.slots] at X57 l57 y57 z57 st57 hQ57
  subst l57 y57 z57
  obtain ⟨rfl, N57q, e57⟩ := hQ57
  have N57 := Fr.app N56 N57q
  obtain ⟨fs, hr, hrun, hended, hW, hsame⟩ := X57.leave (v := some (.int 1)) (fun h => by rw [Bd.returns] at h; cases h)
  refine ⟨_, _, pre0 _ ?_, hrun, hended, _, _, rfl, ?_, ⟨_, rfl⟩, hW, hsame.mono (by decide) (by decide)⟩
  · show Steps p.tables e below (s₁.setTop (mkF m 0 #[.val (.long q0), .second, .val (.long q1), .second, .val (.long q2), .second, .val (.long q3), .second, .val (.long q4), .second, iv p0, .unset, .unset, .unset, .unset] [])) _
    refine XS.iload X0.here hx rfl (hb hby at_0) rfl ?_
    show Steps p.tables e below (s₁.setTop (mkF m 2 #[.val (.long q0), .second, .val (.long q1), .second, .val (.long q2), .second, .val (.long q3), .second, .val (.long q4), .second, iv p0, .unset, .unset, .unset, .unset] [(.int p0)])) _
    refine X0.ldcInt hx hown (mvT hZ (hw _ (own_m 0 rfl))) (g := (mkF m 2 #[.val (.long q0), .second, .val (.long q1), .second, .val (.long q2), .second, .val (.long q3), .second, .val (.long q4), .second, iv p0, .unset, .unset, .unset, .unset] [(.int p0)])) rfl (hb hby at_2) _ ?_
    show Steps p.tables e below (s₁.setTop (mkF m 4 #[.val (.long q0), .second, .val (.long q1), .second, .val (.long q2), .second, .val (.long q3), .second, .val (.long q4), .second, iv p0, .unset, .unset, .unset, .unset] [(.int 2147483647), (.int p0)])) _
    refine XS.iand X0.here hx rfl (hb hby at_4) rfl ?_
    show Steps p.tables e below (s₁.setTop (mkF m 5 #[.val (.long q0), .second, .val (.long q1), .second, .val (.long q2), .second, .val (.long q3), .second, .val (.long q4), .second, iv p0, .unset, .unset, .unset, .unset] [(.int (p0 &&& (2147483647 : Int32)))])) _
    refine XS.iconst X0.here hx rfl (hb hby at_5) ?_
    show Steps p.tables e below (s₁.setTop (mkF m 6 #[.val (.long q0), .second, .val (.long q1), .second, .val (.long q2), .second, .val (.long q3), .second, .val (.long q4), .second, iv p0, .unset, .unset, .unset, .unset] [(.int 5), (.int (p0 &&& (2147483647 : Int32)))])) _
    refine iremM X0 hx rfl (hb hby at_6) rfl (by decide) ?_
    show Steps p.tables e below (s₁.setTop (mkF m 7 #[.val (.long q0), .second, .val (.long q1), .second, .val (.long q2), .second, .val (.long q3), .second, .val (.long q4), .second, iv p0, .unset, .unset, .unset, .unset] [(.int ((p0 &&& (2147483647 : Int32)) % (5 : Int32)))])) _
    refine own_top (v' := (.int 3)) (congrArg Value.int hk) ?_
    show Steps p.tables e below (s₁.setTop (mkF m 7 #[.val (.long q0), .second, .val (.long q1), .second, .val (.long q2), .second, .val (.long q3), .second, .val (.long q4), .second, iv p0, .unset, .unset, .unset, .unset] [(.int 3)])) _
    refine st1 _ ?_
    show Steps p.tables e below (T1.setTop (mkF m 10 #[.val (.long q0), .second, .val (.long q1), .second, .val (.long q2), .second, .val (.long q3), .second, .val (.long q4), .second, iv p0, .unset, .unset, .unset, .unset] [(.ref w_TRAVERSAL)])) _
    refine XS.astore X1.here hx rfl (hb hby at_10) rfl rfl (l' := #[.val (.long q0), .second, .val (.long q1), .second, .val (.long q2), .second, .val (.long q3), .second, .val (.long q4), .second, iv p0, rv w_TRAVERSAL, .unset, .unset, .unset]) rfl ?_
    show Steps p.tables e below (T1.setTop (mkF m 12 #[.val (.long q0), .second, .val (.long q1), .second, .val (.long q2), .second, .val (.long q3), .second, .val (.long q4), .second, iv p0, rv w_TRAVERSAL, .unset, .unset, .unset] [])) _
    refine st2 _ ?_
    show Steps p.tables e below (T2.setTop (mkF m 15 #[.val (.long q0), .second, .val (.long q1), .second, .val (.long q2), .second, .val (.long q3), .second, .val (.long q4), .second, iv p0, rv w_TRAVERSAL, .unset, .unset, .unset] [(.ref b2)])) _
    refine XS.dup X2.here hx rfl (hb hby at_15) rfl rfl ?_
    show Steps p.tables e below (T2.setTop (mkF m 16 #[.val (.long q0), .second, .val (.long q1), .second, .val (.long q2), .second, .val (.long q3), .second, .val (.long q4), .second, iv p0, rv w_TRAVERSAL, .unset, .unset, .unset] [(.ref b2), (.ref b2)])) _
    refine st4.trans ?_
    show Steps p.tables e below (T4.setTop (mkF m 19 #[.val (.long q0), .second, .val (.long q1), .second, .val (.long q2), .second, .val (.long q3), .second, .val (.long q4), .second, iv p0, rv w_TRAVERSAL, .unset, .unset, .unset] [(.ref b2)])) _
    refine XS.astore X4.here hx rfl (hb hby at_19) rfl rfl (l' := #[.val (.long q0), .second, .val (.long q1), .second, .val (.long q2), .second, .val (.long q3), .second, .val (.long q4), .second, iv p0, rv w_TRAVERSAL, rv b2, .unset, .unset]) rfl ?_
    show Steps p.tables e below (T4.setTop (mkF m 21 #[.val (.long q0), .second, .val (.long q1), .second, .val (.long q2), .second, .val (.long q3), .second, .val (.long q4), .second, iv p0, rv w_TRAVERSAL, rv b2, .unset, .unset] [])) _
    refine XS.aload X4.here hx rfl (hb hby at_21) rfl rfl ?_
    show Steps p.tables e below (T4.setTop (mkF m 23 #[.val (.long q0), .second, .val (.long q1), .second, .val (.long q2), .second, .val (.long q3), .second, .val (.long q4), .second, iv p0, rv w_TRAVERSAL, rv b2, .unset, .unset] [(.ref b2)])) _
    refine XS.lloadN X4.here hx rfl (hb hby at_23) rfl ?_
    show Steps p.tables e below (T4.setTop (mkF m 24 #[.val (.long q0), .second, .val (.long q1), .second, .val (.long q2), .second, .val (.long q3), .second, .val (.long q4), .second, iv p0, rv w_TRAVERSAL, rv b2, .unset, .unset] [(.long q1), (.ref b2)])) _
    refine XS.lload X4.here hx rfl (hb hby at_24) rfl ?_
    show Steps p.tables e below (T4.setTop (mkF m 26 #[.val (.long q0), .second, .val (.long q1), .second, .val (.long q2), .second, .val (.long q3), .second, .val (.long q4), .second, iv p0, rv w_TRAVERSAL, rv b2, .unset, .unset] [(.long q2), (.long q1), (.ref b2)])) _
    refine XS.lload X4.here hx rfl (hb hby at_26) rfl ?_
    show Steps p.tables e below (T4.setTop (mkF m 28 #[.val (.long q0), .second, .val (.long q1), .second, .val (.long q2), .second, .val (.long q3), .second, .val (.long q4), .second, iv p0, rv w_TRAVERSAL, rv b2, .unset, .unset] [(.long q3), (.long q2), (.long q1), (.ref b2)])) _
    refine XS.lload X4.here hx rfl (hb hby at_28) rfl ?_
    show Steps p.tables e below (T4.setTop (mkF m 30 #[.val (.long q0), .second, .val (.long q1), .second, .val (.long q2), .second, .val (.long q3), .second, .val (.long q4), .second, iv p0, rv w_TRAVERSAL, rv b2, .unset, .unset] [(.long q4), (.long q3), (.long q2), (.long q1), (.ref b2)])) _
    refine XS.lloadN X4.here hx rfl (hb hby at_30) rfl ?_
    show Steps p.tables e below (T4.setTop (mkF m 31 #[.val (.long q0), .second, .val (.long q1), .second, .val (.long q2), .second, .val (.long q3), .second, .val (.long q4), .second, iv p0, rv w_TRAVERSAL, rv b2, .unset, .unset] [(.long q0), (.long q4), (.long q3), (.long q2), (.long q1), (.ref b2)])) _
    refine st15.trans ?_
    show Steps p.tables e below (T15.setTop (mkF m 34 #[.val (.long q0), .second, .val (.long q1), .second, .val (.long q2), .second, .val (.long q3), .second, .val (.long q4), .second, iv p0, rv w_TRAVERSAL, rv b2, .unset, .unset] [])) _
    refine XS.aload X15.here hx rfl (hb hby at_34) rfl rfl ?_
    show Steps p.tables e below (T15.setTop (mkF m 36 #[.val (.long q0), .second, .val (.long q1), .second, .val (.long q2), .second, .val (.long q3), .second, .val (.long q4), .second, iv p0, rv w_TRAVERSAL, rv b2, .unset, .unset] [(.ref b2)])) _
    refine XS.aload X15.here hx rfl (hb hby at_36) rfl rfl ?_
    show Steps p.tables e below (T15.setTop (mkF m 38 #[.val (.long q0), .second, .val (.long q1), .second, .val (.long q2), .second, .val (.long q3), .second, .val (.long q4), .second, iv p0, rv w_TRAVERSAL, rv b2, .unset, .unset] [(.ref w_TRAVERSAL), (.ref b2)])) _
    refine XS.lload X15.here hx rfl (hb hby at_38) rfl ?_
    show Steps p.tables e below (T15.setTop (mkF m 40 #[.val (.long q0), .second, .val (.long q1), .second, .val (.long q2), .second, .val (.long q3), .second, .val (.long q4), .second, iv p0, rv w_TRAVERSAL, rv b2, .unset, .unset] [(.long q4), (.ref w_TRAVERSAL), (.ref b2)])) _
    refine st28.trans ?_
    show Steps p.tables e below (T28.setTop (mkF m 43 #[.val (.long q0), .second, .val (.long q1), .second, .val (.long q2), .second, .val (.long q3), .second, .val (.long q4), .second, iv p0, rv w_TRAVERSAL, rv b2, .unset, .unset] [])) _
    refine XS.aload X28.here hx rfl (hb hby at_43) rfl rfl ?_
    show Steps p.tables e below (T28.setTop (mkF m 45 #[.val (.long q0), .second, .val (.long q1), .second, .val (.long q2), .second, .val (.long q3), .second, .val (.long q4), .second, iv p0, rv w_TRAVERSAL, rv b2, .unset, .unset] [(.ref b2)])) _
    refine XS.lloadN X28.here hx rfl (hb hby at_45) rfl ?_
    show Steps p.tables e below (T28.setTop (mkF m 46 #[.val (.long q0), .second, .val (.long q1), .second, .val (.long q2), .second, .val (.long q3), .second, .val (.long q4), .second, iv p0, rv w_TRAVERSAL, rv b2, .unset, .unset] [(.long q0), (.ref b2)])) _
    refine XS.lloadN X28.here hx rfl (hb hby at_46) rfl ?_
    show Steps p.tables e below (T28.setTop (mkF m 47 #[.val (.long q0), .second, .val (.long q1), .second, .val (.long q2), .second, .val (.long q3), .second, .val (.long q4), .second, iv p0, rv w_TRAVERSAL, rv b2, .unset, .unset] [(.long q1), (.long q0), (.ref b2)])) _
    refine XS.lload X28.here hx rfl (hb hby at_47) rfl ?_
    show Steps p.tables e below (T28.setTop (mkF m 49 #[.val (.long q0), .second, .val (.long q1), .second, .val (.long q2), .second, .val (.long q3), .second, .val (.long q4), .second, iv p0, rv w_TRAVERSAL, rv b2, .unset, .unset] [(.long q2), (.long q1), (.long q0), (.ref b2)])) _
    refine XS.lload X28.here hx rfl (hb hby at_49) rfl ?_
    show Steps p.tables e below (T28.setTop (mkF m 51 #[.val (.long q0), .second, .val (.long q1), .second, .val (.long q2), .second, .val (.long q3), .second, .val (.long q4), .second, iv p0, rv w_TRAVERSAL, rv b2, .unset, .unset] [(.long q3), (.long q2), (.long q1), (.long q0), (.ref b2)])) _
    refine XS.lload X28.here hx rfl (hb hby at_51) rfl ?_
    show Steps p.tables e below (T28.setTop (mkF m 53 #[.val (.long q0), .second, .val (.long q1), .second, .val (.long q2), .second, .val (.long q3), .second, .val (.long q4), .second, iv p0, rv w_TRAVERSAL, rv b2, .unset, .unset] [(.long q4), (.long q3), (.long q2), (.long q1), (.long q0), (.ref b2)])) _
    refine st39.trans ?_
    show Steps p.tables e below (T39.setTop (mkF m 56 #[.val (.long q0), .second, .val (.long q1), .second, .val (.long q2), .second, .val (.long q3), .second, .val (.long q4), .second, iv p0, rv w_TRAVERSAL, rv b2, .unset, .unset] [])) _
    refine XS.aload X39.here hx rfl (hb hby at_56) rfl rfl ?_
    show Steps p.tables e below (T39.setTop (mkF m 58 #[.val (.long q0), .second, .val (.long q1), .second, .val (.long q2), .second, .val (.long q3), .second, .val (.long q4), .second, iv p0, rv w_TRAVERSAL, rv b2, .unset, .unset] [(.ref b2)])) _
    refine st50.trans ?_
    show Steps p.tables e below (T50.setTop (mkF m 61 #[.val (.long q0), .second, .val (.long q1), .second, .val (.long q2), .second, .val (.long q3), .second, .val (.long q4), .second, iv p0, rv w_TRAVERSAL, rv b2, .unset, .unset] [(.long q0)])) _
    refine XS.lloadN X50.here hx rfl (hb hby at_61) rfl ?_
    show Steps p.tables e below (T50.setTop (mkF m 62 #[.val (.long q0), .second, .val (.long q1), .second, .val (.long q2), .second, .val (.long q3), .second, .val (.long q4), .second, iv p0, rv w_TRAVERSAL, rv b2, .unset, .unset] [(.long q0), (.long q0)])) _
    refine XS.lcmp X50.here hx rfl (hb hby at_62) rfl ?_
    show Steps p.tables e below (T50.setTop (mkF m 63 #[.val (.long q0), .second, .val (.long q1), .second, .val (.long q2), .second, .val (.long q3), .second, .val (.long q4), .second, iv p0, rv w_TRAVERSAL, rv b2, .unset, .unset] [(.int (lcmpW q0 q0))])) _
    refine XS.ifNo X50.here hx rfl (hb hby at_63) rfl ((if0 _ _).trans (teq ((lw_eq _ _).mpr rfl)).2) ?_
    show Steps p.tables e below (T50.setTop (mkF m 66 #[.val (.long q0), .second, .val (.long q1), .second, .val (.long q2), .second, .val (.long q3), .second, .val (.long q4), .second, iv p0, rv w_TRAVERSAL, rv b2, .unset, .unset] [])) _
    refine XS.aload X50.here hx rfl (hb hby at_66) rfl rfl ?_
    show Steps p.tables e below (T50.setTop (mkF m 68 #[.val (.long q0), .second, .val (.long q1), .second, .val (.long q2), .second, .val (.long q3), .second, .val (.long q4), .second, iv p0, rv w_TRAVERSAL, rv b2, .unset, .unset] [(.ref b2)])) _
    refine st51.trans ?_
    show Steps p.tables e below (T51.setTop (mkF m 71 #[.val (.long q0), .second, .val (.long q1), .second, .val (.long q2), .second, .val (.long q3), .second, .val (.long q4), .second, iv p0, rv w_TRAVERSAL, rv b2, .unset, .unset] [(.long q1)])) _
    refine XS.lloadN X51.here hx rfl (hb hby at_71) rfl ?_
    show Steps p.tables e below (T51.setTop (mkF m 72 #[.val (.long q0), .second, .val (.long q1), .second, .val (.long q2), .second, .val (.long q3), .second, .val (.long q4), .second, iv p0, rv w_TRAVERSAL, rv b2, .unset, .unset] [(.long q1), (.long q1)])) _
    refine XS.lcmp X51.here hx rfl (hb hby at_72) rfl ?_
    show Steps p.tables e below (T51.setTop (mkF m 73 #[.val (.long q0), .second, .val (.long q1), .second, .val (.long q2), .second, .val (.long q3), .second, .val (.long q4), .second, iv p0, rv w_TRAVERSAL, rv b2, .unset, .unset] [(.int (lcmpW q1 q1))])) _
    refine XS.ifNo X51.here hx rfl (hb hby at_73) rfl ((if0 _ _).trans (teq ((lw_eq _ _).mpr rfl)).2) ?_
    show Steps p.tables e below (T51.setTop (mkF m 76 #[.val (.long q0), .second, .val (.long q1), .second, .val (.long q2), .second, .val (.long q3), .second, .val (.long q4), .second, iv p0, rv w_TRAVERSAL, rv b2, .unset, .unset] [])) _
    refine XS.aload X51.here hx rfl (hb hby at_76) rfl rfl ?_
    show Steps p.tables e below (T51.setTop (mkF m 78 #[.val (.long q0), .second, .val (.long q1), .second, .val (.long q2), .second, .val (.long q3), .second, .val (.long q4), .second, iv p0, rv w_TRAVERSAL, rv b2, .unset, .unset] [(.ref b2)])) _
    refine st52.trans ?_
    show Steps p.tables e below (T52.setTop (mkF m 81 #[.val (.long q0), .second, .val (.long q1), .second, .val (.long q2), .second, .val (.long q3), .second, .val (.long q4), .second, iv p0, rv w_TRAVERSAL, rv b2, .unset, .unset] [(.long q2)])) _
    refine XS.lload X52.here hx rfl (hb hby at_81) rfl ?_
    show Steps p.tables e below (T52.setTop (mkF m 83 #[.val (.long q0), .second, .val (.long q1), .second, .val (.long q2), .second, .val (.long q3), .second, .val (.long q4), .second, iv p0, rv w_TRAVERSAL, rv b2, .unset, .unset] [(.long q2), (.long q2)])) _
    refine XS.lcmp X52.here hx rfl (hb hby at_83) rfl ?_
    show Steps p.tables e below (T52.setTop (mkF m 84 #[.val (.long q0), .second, .val (.long q1), .second, .val (.long q2), .second, .val (.long q3), .second, .val (.long q4), .second, iv p0, rv w_TRAVERSAL, rv b2, .unset, .unset] [(.int (lcmpW q2 q2))])) _
    refine XS.ifNo X52.here hx rfl (hb hby at_84) rfl ((if0 _ _).trans (teq ((lw_eq _ _).mpr rfl)).2) ?_
    show Steps p.tables e below (T52.setTop (mkF m 87 #[.val (.long q0), .second, .val (.long q1), .second, .val (.long q2), .second, .val (.long q3), .second, .val (.long q4), .second, iv p0, rv w_TRAVERSAL, rv b2, .unset, .unset] [])) _
    refine XS.aload X52.here hx rfl (hb hby at_87) rfl rfl ?_
    show Steps p.tables e below (T52.setTop (mkF m 89 #[.val (.long q0), .second, .val (.long q1), .second, .val (.long q2), .second, .val (.long q3), .second, .val (.long q4), .second, iv p0, rv w_TRAVERSAL, rv b2, .unset, .unset] [(.ref b2)])) _
    refine st53.trans ?_
    show Steps p.tables e below (T53.setTop (mkF m 92 #[.val (.long q0), .second, .val (.long q1), .second, .val (.long q2), .second, .val (.long q3), .second, .val (.long q4), .second, iv p0, rv w_TRAVERSAL, rv b2, .unset, .unset] [(.long q3)])) _
    refine XS.lload X53.here hx rfl (hb hby at_92) rfl ?_
    show Steps p.tables e below (T53.setTop (mkF m 94 #[.val (.long q0), .second, .val (.long q1), .second, .val (.long q2), .second, .val (.long q3), .second, .val (.long q4), .second, iv p0, rv w_TRAVERSAL, rv b2, .unset, .unset] [(.long q3), (.long q3)])) _
    refine XS.lcmp X53.here hx rfl (hb hby at_94) rfl ?_
    show Steps p.tables e below (T53.setTop (mkF m 95 #[.val (.long q0), .second, .val (.long q1), .second, .val (.long q2), .second, .val (.long q3), .second, .val (.long q4), .second, iv p0, rv w_TRAVERSAL, rv b2, .unset, .unset] [(.int (lcmpW q3 q3))])) _
    refine XS.ifNo X53.here hx rfl (hb hby at_95) rfl ((if0 _ _).trans (teq ((lw_eq _ _).mpr rfl)).2) ?_
    show Steps p.tables e below (T53.setTop (mkF m 98 #[.val (.long q0), .second, .val (.long q1), .second, .val (.long q2), .second, .val (.long q3), .second, .val (.long q4), .second, iv p0, rv w_TRAVERSAL, rv b2, .unset, .unset] [])) _
    refine XS.aload X53.here hx rfl (hb hby at_98) rfl rfl ?_
    show Steps p.tables e below (T53.setTop (mkF m 100 #[.val (.long q0), .second, .val (.long q1), .second, .val (.long q2), .second, .val (.long q3), .second, .val (.long q4), .second, iv p0, rv w_TRAVERSAL, rv b2, .unset, .unset] [(.ref b2)])) _
    refine st54.trans ?_
    show Steps p.tables e below (T54.setTop (mkF m 103 #[.val (.long q0), .second, .val (.long q1), .second, .val (.long q2), .second, .val (.long q3), .second, .val (.long q4), .second, iv p0, rv w_TRAVERSAL, rv b2, .unset, .unset] [(.long q4)])) _
    refine XS.lload X54.here hx rfl (hb hby at_103) rfl ?_
    show Steps p.tables e below (T54.setTop (mkF m 105 #[.val (.long q0), .second, .val (.long q1), .second, .val (.long q2), .second, .val (.long q3), .second, .val (.long q4), .second, iv p0, rv w_TRAVERSAL, rv b2, .unset, .unset] [(.long q4), (.long q4)])) _
    refine XS.lcmp X54.here hx rfl (hb hby at_105) rfl ?_
    show Steps p.tables e below (T54.setTop (mkF m 106 #[.val (.long q0), .second, .val (.long q1), .second, .val (.long q2), .second, .val (.long q3), .second, .val (.long q4), .second, iv p0, rv w_TRAVERSAL, rv b2, .unset, .unset] [(.int (lcmpW q4 q4))])) _
    refine XS.ifNo X54.here hx rfl (hb hby at_106) rfl ((if0 _ _).trans (teq ((lw_eq _ _).mpr rfl)).2) ?_
    show Steps p.tables e below (T54.setTop (mkF m 109 #[.val (.long q0), .second, .val (.long q1), .second, .val (.long q2), .second, .val (.long q3), .second, .val (.long q4), .second, iv p0, rv w_TRAVERSAL, rv b2, .unset, .unset] [])) _
    refine XS.iconst X54.here hx rfl (hb hby at_109) ?_
    show Steps p.tables e below (T54.setTop (mkF m 110 #[.val (.long q0), .second, .val (.long q1), .second, .val (.long q2), .second, .val (.long q3), .second, .val (.long q4), .second, iv p0, rv w_TRAVERSAL, rv b2, .unset, .unset] [(.int 1)])) _
    refine XS.goto X54.here hx rfl (pc0 := 110) (pc' := 114) rfl (hb hby at_110) (by decide) (by decide) ?_
    show Steps p.tables e below (T54.setTop (mkF m 114 #[.val (.long q0), .second, .val (.long q1), .second, .val (.long q2), .second, .val (.long q3), .second, .val (.long q4), .second, iv p0, rv w_TRAVERSAL, rv b2, .unset, .unset] [(.int 1)])) _
    refine XS.istore X54.here hx rfl (hb hby at_114) rfl (l' := #[.val (.long q0), .second, .val (.long q1), .second, .val (.long q2), .second, .val (.long q3), .second, .val (.long q4), .second, iv p0, rv w_TRAVERSAL, rv b2, iv 1, .unset]) rfl ?_
    show Steps p.tables e below (T54.setTop (mkF m 116 #[.val (.long q0), .second, .val (.long q1), .second, .val (.long q2), .second, .val (.long q3), .second, .val (.long q4), .second, iv p0, rv w_TRAVERSAL, rv b2, iv 1, .unset] [])) _
    refine XS.aload X54.here hx rfl (hb hby at_116) rfl rfl ?_
    show Steps p.tables e below (T54.setTop (mkF m 118 #[.val (.long q0), .second, .val (.long q1), .second, .val (.long q2), .second, .val (.long q3), .second, .val (.long q4), .second, iv p0, rv w_TRAVERSAL, rv b2, iv 1, .unset] [(.ref b2)])) _
    refine st55 _ ?_
    show Steps p.tables e below (T55.setTop (mkF m 121 #[.val (.long q0), .second, .val (.long q1), .second, .val (.long q2), .second, .val (.long q3), .second, .val (.long q4), .second, iv p0, rv w_TRAVERSAL, rv b2, iv 1, .unset] [(.ref w_INPUT), (.ref b2)])) _
    refine st56.trans ?_
    show Steps p.tables e below (T56.setTop (mkF m 124 #[.val (.long q0), .second, .val (.long q1), .second, .val (.long q2), .second, .val (.long q3), .second, .val (.long q4), .second, iv p0, rv w_TRAVERSAL, rv b2, iv 1, .unset] [(.int 0)])) _
    refine XS.ifNo X56.here hx rfl (hb hby at_124) rfl ((if0 _ _).trans (teq (by decide)).2) ?_
    show Steps p.tables e below (T56.setTop (mkF m 127 #[.val (.long q0), .second, .val (.long q1), .second, .val (.long q2), .second, .val (.long q3), .second, .val (.long q4), .second, iv p0, rv w_TRAVERSAL, rv b2, iv 1, .unset] [])) _
    refine XS.aload X56.here hx rfl (hb hby at_127) rfl rfl ?_
    show Steps p.tables e below (T56.setTop (mkF m 129 #[.val (.long q0), .second, .val (.long q1), .second, .val (.long q2), .second, .val (.long q3), .second, .val (.long q4), .second, iv p0, rv w_TRAVERSAL, rv b2, iv 1, .unset] [(.ref b2)])) _
    refine XS.aload X56.here hx rfl (hb hby at_129) rfl rfl ?_
    show Steps p.tables e below (T56.setTop (mkF m 131 #[.val (.long q0), .second, .val (.long q1), .second, .val (.long q2), .second, .val (.long q3), .second, .val (.long q4), .second, iv p0, rv w_TRAVERSAL, rv b2, iv 1, .unset] [(.ref w_TRAVERSAL), (.ref b2)])) _
    refine st57.trans ?_
    show Steps p.tables e below (T57.setTop (mkF m 134 #[.val (.long q0), .second, .val (.long q1), .second, .val (.long q2), .second, .val (.long q3), .second, .val (.long q4), .second, iv p0, rv w_TRAVERSAL, rv b2, iv 1, .unset] [(.int 0)])) _
    refine XS.ifNo X57.here hx rfl (hb hby at_134) rfl ((if0 _ _).trans (teq (by decide)).2) ?_
    show Steps p.tables e below (T57.setTop (mkF m 137 #[.val (.long q0), .second, .val (.long q1), .second, .val (.long q2), .second, .val (.long q3), .second, .val (.long q4), .second, iv p0, rv w_TRAVERSAL, rv b2, iv 1, .unset] [])) _
    refine XS.iconst X57.here hx rfl (hb hby at_137) ?_
    show Steps p.tables e below (T57.setTop (mkF m 138 #[.val (.long q0), .second, .val (.long q1), .second, .val (.long q2), .second, .val (.long q3), .second, .val (.long q4), .second, iv p0, rv w_TRAVERSAL, rv b2, iv 1, .unset] [(.int 1)])) _
    refine XS.goto X57.here hx rfl (pc0 := 138) (pc' := 142) rfl (hb hby at_138) (by decide) (by decide) ?_
    show Steps p.tables e below (T57.setTop (mkF m 142 #[.val (.long q0), .second, .val (.long q1), .second, .val (.long q2), .second, .val (.long q3), .second, .val (.long q4), .second, iv p0, rv w_TRAVERSAL, rv b2, iv 1, .unset] [(.int 1)])) _
    refine XS.istore X57.here hx rfl (hb hby at_142) rfl (l' := #[.val (.long q0), .second, .val (.long q1), .second, .val (.long q2), .second, .val (.long q3), .second, .val (.long q4), .second, iv p0, rv w_TRAVERSAL, rv b2, iv 1, iv 1]) rfl ?_
    show Steps p.tables e below (T57.setTop (mkF m 144 #[.val (.long q0), .second, .val (.long q1), .second, .val (.long q2), .second, .val (.long q3), .second, .val (.long q4), .second, iv p0, rv w_TRAVERSAL, rv b2, iv 1, iv 1] [])) _
    refine XS.iload X57.here hx rfl (hb hby at_144) rfl ?_
    show Steps p.tables e below (T57.setTop (mkF m 146 #[.val (.long q0), .second, .val (.long q1), .second, .val (.long q2), .second, .val (.long q3), .second, .val (.long q4), .second, iv p0, rv w_TRAVERSAL, rv b2, iv 1, iv 1] [(.int 1)])) _
    refine XS.ifNo X57.here hx rfl (hb hby at_146) rfl ((if0 _ _).trans (feq (by decide)).1) ?_
    show Steps p.tables e below (T57.setTop (mkF m 149 #[.val (.long q0), .second, .val (.long q1), .second, .val (.long q2), .second, .val (.long q3), .second, .val (.long q4), .second, iv p0, rv w_TRAVERSAL, rv b2, iv 1, iv 1] [])) _
    refine XS.iload X57.here hx rfl (hb hby at_149) rfl ?_
    show Steps p.tables e below (T57.setTop (mkF m 151 #[.val (.long q0), .second, .val (.long q1), .second, .val (.long q2), .second, .val (.long q3), .second, .val (.long q4), .second, iv p0, rv w_TRAVERSAL, rv b2, iv 1, iv 1] [(.int 1)])) _
    refine XS.ifNo X57.here hx rfl (hb hby at_151) rfl ((if0 _ _).trans (feq (by decide)).1) ?_
    show Steps p.tables e below (T57.setTop (mkF m 154 #[.val (.long q0), .second, .val (.long q1), .second, .val (.long q2), .second, .val (.long q3), .second, .val (.long q4), .second, iv p0, rv w_TRAVERSAL, rv b2, iv 1, iv 1] [])) _
    refine XS.iconst X57.here hx rfl (hb hby at_154) ?_
    show Steps p.tables e below (T57.setTop (mkF m 155 #[.val (.long q0), .second, .val (.long q1), .second, .val (.long q2), .second, .val (.long q3), .second, .val (.long q4), .second, iv p0, rv w_TRAVERSAL, rv b2, iv 1, iv 1] [(.int 1)])) _
    refine XS.goto X57.here hx rfl (pc0 := 155) (pc' := 159) rfl (hb hby at_155) (by decide) (by decide) ?_
    show Steps p.tables e below (T57.setTop (mkF m 159 #[.val (.long q0), .second, .val (.long q1), .second, .val (.long q2), .second, .val (.long q3), .second, .val (.long q4), .second, iv p0, rv w_TRAVERSAL, rv b2, iv 1, iv 1] [(.int 1)])) _
    exact retN X57 hx (t := .boolean) Bd.returns (by simp) (hb hby at_159) hr
  · show own_law3_Q Z w_INPUT w_ANIMATION w_INSETS_ANIMATION w_TRAVERSAL w_COMMIT q0 q1 q2 q3 q4 p0 h0 n0 _ T57.heap _
    rw [e57]
    exact ⟨rfl, N57, trivial⟩
theorem own_law4_ef (m : MethodId) (q0 : Int64) (q1 : Int64) (q2 : Int64) (q3 : Int64) (q4 : Int64) (p0 : Int32) : entryFrame m #[(.long q0), (.long q1), (.long q2), (.long q3), (.long q4), (.int p0)] maxLocals = mkF m 0 #[.val (.long q0), .second, .val (.long q1), .second, .val (.long q2), .second, .val (.long q3), .second, .val (.long q4), .second, iv p0, .unset, .unset, .unset, .unset] [] := by first | (simp [entryFrame, mkF, argsToLocals, Value.category, maxLocals]; done) | rfl
def own_law4_Q (Z : State) (w_INPUT : Addr) (w_ANIMATION : Addr) (w_INSETS_ANIMATION : Addr) (w_TRAVERSAL : Addr) (w_COMMIT : Addr) (q0 : Int64) (q1 : Int64) (q2 : Int64) (q3 : Int64) (q4 : Int64) (p0 : Int32) (h0 : Heap) (n0 : Nat) (v : Option Value) (h : Heap) (L : List Loc) : Prop := v = some (.int 1) ∧ Fr n0 L ∧ True
set_option maxRecDepth 65536 in
set_option maxHeartbeats 40000000 in
theorem own_law4 (l : Launch) (Z : State) (a0 : Array Value) (hw : ∀ d ∈ tables_1, d.before a0 Z = true) (ws : List Jvm.Cond) (w_INPUT : Addr) (w_ANIMATION : Addr) (w_INSETS_ANIMATION : Addr) (w_TRAVERSAL : Addr) (w_COMMIT : Addr) (q0 : Int64) (q1 : Int64) (q2 : Int64) (q3 : Int64) (q4 : Int64) (p0 : Int32) (h0 : Heap) (n0 : Nat) (O0 : Old Z n0 h0) (U_INPUT : own_En Z Z.heap "com/example/vsyncopate/vsyncopate/frame/FramePhase" "INPUT" "Lcom/example/vsyncopate/vsyncopate/frame/FramePhase;" w_INPUT (0 : Int32)) (U_ANIMATION : own_En Z Z.heap "com/example/vsyncopate/vsyncopate/frame/FramePhase" "ANIMATION" "Lcom/example/vsyncopate/vsyncopate/frame/FramePhase;" w_ANIMATION (1 : Int32)) (U_INSETS_ANIMATION : own_En Z Z.heap "com/example/vsyncopate/vsyncopate/frame/FramePhase" "INSETS_ANIMATION" "Lcom/example/vsyncopate/vsyncopate/frame/FramePhase;" w_INSETS_ANIMATION (2 : Int32)) (U_TRAVERSAL : own_En Z Z.heap "com/example/vsyncopate/vsyncopate/frame/FramePhase" "TRAVERSAL" "Lcom/example/vsyncopate/vsyncopate/frame/FramePhase;" w_TRAVERSAL (3 : Int32)) (U_COMMIT : own_En Z Z.heap "com/example/vsyncopate/vsyncopate/frame/FramePhase" "COMMIT" "Lcom/example/vsyncopate/vsyncopate/frame/FramePhase;" w_COMMIT (4 : Int32)) (S_PC : Sta Z Z.heap "com/example/vsyncopate/vsyncopate/frame/FrameTiming" "PHASE_COUNT" "I" (.int 5)) (hk : (p0 &&& (2147483647 : Int32)) % (5 : Int32) = (4 : Int32)) :
    MetFree l x (head1 (Jvm.Cond.code x code maxLocals ret :: ws) room_1) (fun ar U => ar = #[(.long q0), (.long q1), (.long q2), (.long q3), (.long q4), (.int p0)] ∧ Z.Warmed39 U.vm ∧ U.heap = h0) (fun _ _ _ _ _ => True) (fun _ U oc U' => ∃ v L, oc = .returned v ∧ own_law4_Q Z w_INPUT w_ANIMATION w_INSETS_ANIMATION w_TRAVERSAL w_COMMIT q0 q1 q2 q3 q4 p0 h0 n0 v U'.heap L ∧ FrameEnd U oc U' L 16 128) := by
  refine MetFree.of_bodySF (plainFor_of_name own_pn0) hisR ?_
  intro p e s m args below meth c s₁ Bd hml0 hP hK
  obtain ⟨rfl, hZ, hh⟩ := hP
  have hx := Bd.exec
  have hby := Bd.bytes
  have hml : c.maxLocals = 15 := hml0
  have hown : s.vm.findClass "com/example/vsyncopate/vsyncopate/frame/FrameTimingFrameBeginsPinLaw" = some m.cls := findClass_of_methodNamed Bd.named
  have hnm := (name_of_methodNamed Bd.named Bd.method).1
  have X0 : Stand p l e room_1 s m #[(.long q0), (.long q1), (.long q2), (.long q3), (.long q4), (.int p0)] below meth c s₁ [] 0 0 := Stand.of_body Bd
  have e0 : s₁.heap = h0 := by rw [← hh, Bd.state]; rfl
  have N0 := Fr.nil n0
  have pre0 : ∀ t, Steps p.tables e below (s₁.setTop (mkF m 0 #[.val (.long q0), .second, .val (.long q1), .second, .val (.long q2), .second, .val (.long q3), .second, .val (.long q4), .second, iv p0, .unset, .unset, .unset, .unset] [])) t → Steps p.tables e below (s₁.setTop (entryFrame m #[(.long q0), (.long q1), (.long q2), (.long q3), (.long q4), (.int p0)] maxLocals)) t := fun t k => castTop (own_law4_ef m q0 q1 q2 q3 q4 p0) k
  obtain ⟨_, _, ⟨T1, L1, k1, n1⟩, -, X1, ⟨Lc1, hQ1, l1, y1, z1⟩, st1⟩ := Jvm.LawKit.callS X0 hx (y := (⟨"com/example/vsyncopate/vsyncopate/frame/FrameTimingFrameBeginsPinLaw", "pick", "(I)Lcom/example/vsyncopate/vsyncopate/frame/FramePhase;"⟩ : MethodName)) hown (mvT hZ (hw _ (own_m 1 rfl))) (mvT hZ (hw _ (own_m 2 rfl))) (mvT hZ (hw _ (own_m 3 rfl))) (mvT hZ (hw _ (own_m 4 rfl))) (by decide) (backOf (W := 0) (own_p_4 l Z a0 hw [] w_INPUT w_ANIMATION w_INSETS_ANIMATION w_TRAVERSAL w_COMMIT  h0 n0 O0 U_INPUT U_ANIMATION U_INSETS_ANIMATION U_TRAVERSAL U_COMMIT S_PC ) hZ (hw _ (own_m 4 rfl)) (hw _ (own_m 3 rfl)) (by decide) (by decide)) (g := (mkF m 7 #[.val (.long q0), .second, .val (.long q1), .second, .val (.long q2), .second, .val (.long q3), .second, .val (.long q4), .second, iv p0, .unset, .unset, .unset, .unset] [(.int 4)])) rfl (by rw [hml]; rfl) (argsL := [(.int 4)]) (rest := []) (lenOf own_pd1 rfl) rfl (by show 2 * 0 + _ ≤ _; exact Nat.le_of_eq rfl) (hb hby at_7) (fun _ _ => ⟨rfl, e0, (by decide : 0 + 0 ≤ _), (by decide : 0 + 0 ≤ _)⟩)
  dsimp only [Pt.U, Pt.locs, Pt.cells, Pt.slots] at X1 l1 y1 z1 st1 hQ1
  subst l1 y1 z1
  obtain ⟨rfl, N1q, e1⟩ := hQ1
  have N1 := Fr.app N0 N1q
  obtain ⟨T2, h2, X2, e2, E2, A2, D2, -, st2⟩ := newO X1 hx hZ hown (hw _ (own_m 8 rfl)) (hw _ (own_m 9 rfl)) (hw _ (own_m 10 rfl)) e1 (g := (mkF m 12 #[.val (.long q0), .second, .val (.long q1), .second, .val (.long q2), .second, .val (.long q3), .second, .val (.long q4), .second, iv p0, rv w_COMMIT, .unset, .unset, .unset] [])) rfl (hb hby at_12) (by decide) (by decide)
  obtain ⟨b2, g2⟩ : ∃ z, z = h0.size := ⟨_, rfl⟩
  rw [← g2] at A2 D2 st2
  have gg_b2 : n0 ≤ b2 := g2 ▸ own_le O0
  have O3 := O0.ext E2
  have F_phaseBeganNanos_b2 : Fld Z h2 b2 "com/example/vsyncopate/vsyncopate/frame/FrameTiming" "phaseBeganNanos" "[J" .null := D2 (Or.inr (hw _ (own_m 21 rfl))) (ty := (.array .long)) (by decide)
  have F_phaseCallbacks_b2 : Fld Z h2 b2 "com/example/vsyncopate/vsyncopate/frame/FrameTiming" "phaseCallbacks" "[I" .null := D2 (Or.inr (hw _ (own_m 24 rfl))) (ty := (.array .int)) (by decide)
  have F_frameNumber_b2 : Fld Z h2 b2 "com/example/vsyncopate/vsyncopate/frame/FrameTiming" "frameNumber" "J" (.long 0) := D2 (Or.inl (hw _ (own_m 31 rfl))) (ty := .long) (by decide)
  have F_pulseTimeNanos_b2 : Fld Z h2 b2 "com/example/vsyncopate/vsyncopate/frame/FrameTiming" "pulseTimeNanos" "J" (.long 0) := D2 (Or.inl (hw _ (own_m 33 rfl))) (ty := .long) (by decide)
  have F_frameTimeNanos_b2 : Fld Z h2 b2 "com/example/vsyncopate/vsyncopate/frame/FrameTiming" "frameTimeNanos" "J" (.long 0) := D2 (Or.inl (hw _ (own_m 35 rfl))) (ty := .long) (by decide)
  have F_skippedFrames_b2 : Fld Z h2 b2 "com/example/vsyncopate/vsyncopate/frame/FrameTiming" "skippedFrames" "J" (.long 0) := D2 (Or.inl (hw _ (own_m 37 rfl))) (ty := .long) (by decide)
  have F_beganNanos_b2 : Fld Z h2 b2 "com/example/vsyncopate/vsyncopate/frame/FrameTiming" "beganNanos" "J" (.long 0) := D2 (Or.inl (hw _ (own_m 39 rfl))) (ty := .long) (by decide)
  have F_phasesBegun_b2 : Fld Z h2 b2 "com/example/vsyncopate/vsyncopate/frame/FrameTiming" "phasesBegun" "I" (.int 0) := D2 (Or.inl (hw _ (own_m 41 rfl))) (ty := .int) (by decide)
  obtain ⟨_, _, ⟨T4, L4, k4, n4⟩, -, X4, ⟨Lc4, hQ4, l4, y4, z4⟩, st4⟩ := X2.specialBack hx (y := (⟨"com/example/vsyncopate/vsyncopate/frame/FrameTiming", "<init>", "()V"⟩ : MethodName)) rfl hown (mvT hZ (hw _ (own_m 11 rfl))) (mvT hZ (hw _ (own_m 12 rfl))) (mvT hZ (hw _ (own_m 13 rfl))) (by decide) (backOf (W := 1) (own_mk l Z a0 hw [] w_INPUT w_ANIMATION w_INSETS_ANIMATION w_TRAVERSAL w_COMMIT b2 h2 n0 O3 U_INPUT U_ANIMATION U_INSETS_ANIMATION U_TRAVERSAL U_COMMIT S_PC gg_b2 A2 F_phaseBeganNanos_b2 F_phaseCallbacks_b2 F_frameNumber_b2 F_pulseTimeNanos_b2 F_frameTimeNanos_b2 F_skippedFrames_b2 F_beganNanos_b2 F_phasesBegun_b2) hZ (hw _ (own_m 13 rfl)) (hw _ (own_m 10 rfl)) (by decide) (by decide)) (g := (mkF m 16 #[.val (.long q0), .second, .val (.long q1), .second, .val (.long q2), .second, .val (.long q3), .second, .val (.long q4), .second, iv p0, rv w_COMMIT, .unset, .unset, .unset] [(.ref b2), (.ref b2)])) rfl (by rw [hml]; rfl) (Steps.refl _) (a := b2) (argsL := []) (rest := [(.ref b2)]) (lenOf own_pd2 rfl) rfl (by show 2 * 0 + _ ≤ _; exact Nat.le_of_eq rfl) (hb hby at_16) (fun _ _ => ⟨rfl, e2, (by decide : 1 + 2 ≤ _), (by decide : 9 + 10 ≤ _)⟩)
  dsimp only [Pt.U, Pt.locs, Pt.cells, Pt.slots] at X4 l4 y4 z4 st4 hQ4
  subst l4 y4 z4
  obtain ⟨rfl, N4q, K4, bb, cc, kb, kc, g_bb, g_cc, nba, nca, nbc, V_bb, V_cc, q5, q6, q7, q8, q9, q10, q11, q12, q13⟩ := hQ4
  have N4 := Fr.app N1 N4q
  have O14 := O3.keep K4 (allS gg_b2 all0)
  obtain ⟨cq15, kq15, q15a, q15b, q15c⟩ := isOf hZ rfl q5
  obtain ⟨_, _, ⟨T15, L15, k15, n15⟩, -, X15, ⟨Lc15, hQ15, l15, y15, z15⟩, st15⟩ := X4.virtualBack hx (y := (⟨"com/example/vsyncopate/vsyncopate/frame/FrameTiming", "frameBegins", "(JJJJJ)V"⟩ : MethodName)) (z := (⟨"com/example/vsyncopate/vsyncopate/frame/FrameTiming", "frameBegins", "(JJJJJ)V"⟩ : MethodName)) hown (mvT hZ (hw _ (own_m 25 rfl))) (mvT hZ (hw _ (own_m 26 rfl))) (notFace_of_selects (args := #[]) (mvT hZ (hw _ (own_m 28 rfl)))) (mvT hZ (hw _ (own_m 28 rfl))) (mvT hZ (hw _ (own_m 27 rfl))) (by decide) (backOf (W := 0) (own_fb l Z a0 hw [] w_INPUT w_ANIMATION w_INSETS_ANIMATION w_TRAVERSAL w_COMMIT b2 bb cc q1 q2 q3 q4 q0 (0 : Int64) (0 : Int64) (0 : Int64) (0 : Int64) (0 : Int64) (0 : Int32) T4.heap n0 O14 U_INPUT U_ANIMATION U_INSETS_ANIMATION U_TRAVERSAL U_COMMIT S_PC gg_b2 q5 q6 q7 q8 q9 q10 q11 q12 q13) hZ (hw _ (own_m 29 rfl)) (hw _ (own_m 10 rfl)) (by decide) (by decide)) q15a q15c (g := (mkF m 31 #[.val (.long q0), .second, .val (.long q1), .second, .val (.long q2), .second, .val (.long q3), .second, .val (.long q4), .second, iv p0, rv w_COMMIT, rv b2, .unset, .unset] [(.long q0), (.long q4), (.long q3), (.long q2), (.long q1), (.ref b2)])) rfl (by rw [hml]; rfl) (Steps.refl _) (argsL := [(.long q1), (.long q2), (.long q3), (.long q4), (.long q0)]) (rest := []) (lenOf own_pd3 rfl) rfl (by show 2 * 0 + _ ≤ _; exact Nat.le_of_eq rfl) (hb hby at_31) (fun _ _ => ⟨rfl, rfl, (by decide : 3 + 0 ≤ _), (by decide : 19 + 0 ≤ _)⟩)
  dsimp only [Pt.U, Pt.locs, Pt.cells, Pt.slots] at X15 l15 y15 z15 st15 hQ15
  subst l15 y15 z15
  obtain ⟨rfl, N15q, K15, q16, q17, q18, q19, q20, q21, q22, q23, q24⟩ := hQ15
  have N15 := Fr.app N4 N15q
  have O25 := O14.keep K15 (allS gg_b2 all0)
  have f26 := (V_bb.keep K15 (ninS nba nin0))
  have f27 := (V_cc.keep K15 (ninS nca nin0))
  obtain ⟨cq28, kq28, q28a, q28b, q28c⟩ := isOf hZ rfl q16
  obtain ⟨_, _, ⟨T28, L28, k28, n28⟩, -, X28, ⟨Lc28, hQ28, l28, y28, z28⟩, st28⟩ := X15.virtualBack hx (y := (⟨"com/example/vsyncopate/vsyncopate/frame/FrameTiming", "phaseBegins", "(Lcom/example/vsyncopate/vsyncopate/frame/FramePhase;J)V"⟩ : MethodName)) (z := (⟨"com/example/vsyncopate/vsyncopate/frame/FrameTiming", "phaseBegins", "(Lcom/example/vsyncopate/vsyncopate/frame/FramePhase;J)V"⟩ : MethodName)) hown (mvT hZ (hw _ (own_m 42 rfl))) (mvT hZ (hw _ (own_m 43 rfl))) (notFace_of_selects (args := #[]) (mvT hZ (hw _ (own_m 45 rfl)))) (mvT hZ (hw _ (own_m 45 rfl))) (mvT hZ (hw _ (own_m 44 rfl))) (by decide) (backOf (W := 0) (own_pb_COMMIT l Z a0 hw [] w_INPUT w_ANIMATION w_INSETS_ANIMATION w_TRAVERSAL w_COMMIT b2 bb cc kb kc q4 q1 q2 q3 q4 q0 (0 : Int32) T15.heap n0 O25 U_INPUT U_ANIMATION U_INSETS_ANIMATION U_TRAVERSAL U_COMMIT S_PC gg_b2 q16 q17 q18 q19 q20 q21 q22 q23 q24 g_bb g_cc nba nca nbc f26 f27) hZ (hw _ (own_m 46 rfl)) (hw _ (own_m 10 rfl)) (by decide) (by decide)) q28a q28c (g := (mkF m 40 #[.val (.long q0), .second, .val (.long q1), .second, .val (.long q2), .second, .val (.long q3), .second, .val (.long q4), .second, iv p0, rv w_COMMIT, rv b2, .unset, .unset] [(.long q4), (.ref w_COMMIT), (.ref b2)])) rfl (by rw [hml]; rfl) (Steps.refl _) (argsL := [(.ref w_COMMIT), (.long q4)]) (rest := []) (lenOf own_pd4 rfl) rfl (by show 2 * 0 + _ ≤ _; exact Nat.le_of_eq rfl) (hb hby at_40) (fun _ _ => ⟨rfl, rfl, (by decide : 3 + 0 ≤ _), (by decide : 19 + 0 ≤ _)⟩)
  dsimp only [Pt.U, Pt.locs, Pt.cells, Pt.slots] at X28 l28 y28 z28 st28 hQ28
  subst l28 y28 z28
  obtain ⟨rfl, N28q, K28, q29, q30, q31, q32, q33, q34, q35, q36, q37⟩ := hQ28
  have N28 := Fr.app N15 N28q
  have O38 := O25.keep K28 (allS gg_b2 (allS g_bb (allS g_cc all0)))
  obtain ⟨cq39, kq39, q39a, q39b, q39c⟩ := isOf hZ rfl q29
  obtain ⟨_, _, ⟨T39, L39, k39, n39⟩, -, X39, ⟨Lc39, hQ39, l39, y39, z39⟩, st39⟩ := X28.virtualBack hx (y := (⟨"com/example/vsyncopate/vsyncopate/frame/FrameTiming", "frameBegins", "(JJJJJ)V"⟩ : MethodName)) (z := (⟨"com/example/vsyncopate/vsyncopate/frame/FrameTiming", "frameBegins", "(JJJJJ)V"⟩ : MethodName)) hown (mvT hZ (hw _ (own_m 25 rfl))) (mvT hZ (hw _ (own_m 26 rfl))) (notFace_of_selects (args := #[]) (mvT hZ (hw _ (own_m 28 rfl)))) (mvT hZ (hw _ (own_m 28 rfl))) (mvT hZ (hw _ (own_m 27 rfl))) (by decide) (backOf (W := 0) (own_fb l Z a0 hw [] w_INPUT w_ANIMATION w_INSETS_ANIMATION w_TRAVERSAL w_COMMIT b2 bb cc q0 q1 q2 q3 q4 q1 q2 q3 q4 q0 (5 : Int32) T28.heap n0 O38 U_INPUT U_ANIMATION U_INSETS_ANIMATION U_TRAVERSAL U_COMMIT S_PC gg_b2 q29 q30 q31 q32 q33 q34 q35 q36 q37) hZ (hw _ (own_m 29 rfl)) (hw _ (own_m 10 rfl)) (by decide) (by decide)) q39a q39c (g := (mkF m 53 #[.val (.long q0), .second, .val (.long q1), .second, .val (.long q2), .second, .val (.long q3), .second, .val (.long q4), .second, iv p0, rv w_COMMIT, rv b2, .unset, .unset] [(.long q4), (.long q3), (.long q2), (.long q1), (.long q0), (.ref b2)])) rfl (by rw [hml]; rfl) (Steps.refl _) (argsL := [(.long q0), (.long q1), (.long q2), (.long q3), (.long q4)]) (rest := []) (lenOf own_pd3 rfl) rfl (by show 2 * 0 + _ ≤ _; exact Nat.le_of_eq rfl) (hb hby at_53) (fun _ _ => ⟨rfl, rfl, (by decide : 3 + 0 ≤ _), (by decide : 19 + 0 ≤ _)⟩)
  dsimp only [Pt.U, Pt.locs, Pt.cells, Pt.slots] at X39 l39 y39 z39 st39 hQ39
  subst l39 y39 z39
  obtain ⟨rfl, N39q, K39, q40, q41, q42, q43, q44, q45, q46, q47, q48⟩ := hQ39
  have N39 := Fr.app N28 N39q
  have O49 := O38.keep K39 (allS gg_b2 all0)
  obtain ⟨cq50, kq50, q50a, q50b, q50c⟩ := isOf hZ rfl q40
  obtain ⟨_, _, ⟨T50, L50, k50, n50⟩, -, X50, ⟨Lc50, hQ50, l50, y50, z50⟩, st50⟩ := X39.virtualBack hx (y := (⟨"com/example/vsyncopate/vsyncopate/frame/FrameTiming", "frameNumber", "()J"⟩ : MethodName)) (z := (⟨"com/example/vsyncopate/vsyncopate/frame/FrameTiming", "frameNumber", "()J"⟩ : MethodName)) hown (mvT hZ (hw _ (own_m 56 rfl))) (mvT hZ (hw _ (own_m 57 rfl))) (notFace_of_selects (args := #[]) (mvT hZ (hw _ (own_m 59 rfl)))) (mvT hZ (hw _ (own_m 59 rfl))) (mvT hZ (hw _ (own_m 58 rfl))) (by decide) (backOf (W := 0) (own_g_frameNumber l Z a0 hw [] w_INPUT w_ANIMATION w_INSETS_ANIMATION w_TRAVERSAL w_COMMIT b2 q0 T39.heap n0 O49 U_INPUT U_ANIMATION U_INSETS_ANIMATION U_TRAVERSAL U_COMMIT S_PC q43) hZ (hw _ (own_m 60 rfl)) (hw _ (own_m 10 rfl)) (by decide) (by decide)) q50a q50c (g := (mkF m 58 #[.val (.long q0), .second, .val (.long q1), .second, .val (.long q2), .second, .val (.long q3), .second, .val (.long q4), .second, iv p0, rv w_COMMIT, rv b2, .unset, .unset] [(.ref b2)])) rfl (by rw [hml]; rfl) (Steps.refl _) (argsL := []) (rest := []) (lenOf own_pd5 rfl) rfl (by show 2 * 0 + _ ≤ _; exact Nat.le_of_eq rfl) (hb hby at_58) (fun _ _ => ⟨rfl, rfl, (by decide : 3 + 0 ≤ _), (by decide : 19 + 0 ≤ _)⟩)
  dsimp only [Pt.U, Pt.locs, Pt.cells, Pt.slots] at X50 l50 y50 z50 st50 hQ50
  subst l50 y50 z50
  obtain ⟨rfl, N50q, e50⟩ := hQ50
  have N50 := Fr.app N39 N50q
  obtain ⟨cq51, kq51, q51a, q51b, q51c⟩ := isOf hZ e50 q40
  obtain ⟨_, _, ⟨T51, L51, k51, n51⟩, -, X51, ⟨Lc51, hQ51, l51, y51, z51⟩, st51⟩ := X50.virtualBack hx (y := (⟨"com/example/vsyncopate/vsyncopate/frame/FrameTiming", "pulseTimeNanos", "()J"⟩ : MethodName)) (z := (⟨"com/example/vsyncopate/vsyncopate/frame/FrameTiming", "pulseTimeNanos", "()J"⟩ : MethodName)) hown (mvT hZ (hw _ (own_m 61 rfl))) (mvT hZ (hw _ (own_m 62 rfl))) (notFace_of_selects (args := #[]) (mvT hZ (hw _ (own_m 64 rfl)))) (mvT hZ (hw _ (own_m 64 rfl))) (mvT hZ (hw _ (own_m 63 rfl))) (by decide) (backOf (W := 0) (own_g_pulseTimeNanos l Z a0 hw [] w_INPUT w_ANIMATION w_INSETS_ANIMATION w_TRAVERSAL w_COMMIT b2 q1 T39.heap n0 O49 U_INPUT U_ANIMATION U_INSETS_ANIMATION U_TRAVERSAL U_COMMIT S_PC q44) hZ (hw _ (own_m 65 rfl)) (hw _ (own_m 10 rfl)) (by decide) (by decide)) q51a q51c (g := (mkF m 68 #[.val (.long q0), .second, .val (.long q1), .second, .val (.long q2), .second, .val (.long q3), .second, .val (.long q4), .second, iv p0, rv w_COMMIT, rv b2, .unset, .unset] [(.ref b2)])) rfl (by rw [hml]; rfl) (Steps.refl _) (argsL := []) (rest := []) (lenOf own_pd5 rfl) rfl (by show 2 * 0 + _ ≤ _; exact Nat.le_of_eq rfl) (hb hby at_68) (fun _ _ => ⟨rfl, e50, (by decide : 3 + 0 ≤ _), (by decide : 19 + 0 ≤ _)⟩)
  dsimp only [Pt.U, Pt.locs, Pt.cells, Pt.slots] at X51 l51 y51 z51 st51 hQ51
  subst l51 y51 z51
  obtain ⟨rfl, N51q, e51⟩ := hQ51
  have N51 := Fr.app N50 N51q
  obtain ⟨cq52, kq52, q52a, q52b, q52c⟩ := isOf hZ e51 q40
  obtain ⟨_, _, ⟨T52, L52, k52, n52⟩, -, X52, ⟨Lc52, hQ52, l52, y52, z52⟩, st52⟩ := X51.virtualBack hx (y := (⟨"com/example/vsyncopate/vsyncopate/frame/FrameTiming", "frameTimeNanos", "()J"⟩ : MethodName)) (z := (⟨"com/example/vsyncopate/vsyncopate/frame/FrameTiming", "frameTimeNanos", "()J"⟩ : MethodName)) hown (mvT hZ (hw _ (own_m 66 rfl))) (mvT hZ (hw _ (own_m 67 rfl))) (notFace_of_selects (args := #[]) (mvT hZ (hw _ (own_m 69 rfl)))) (mvT hZ (hw _ (own_m 69 rfl))) (mvT hZ (hw _ (own_m 68 rfl))) (by decide) (backOf (W := 0) (own_g_frameTimeNanos l Z a0 hw [] w_INPUT w_ANIMATION w_INSETS_ANIMATION w_TRAVERSAL w_COMMIT b2 q2 T39.heap n0 O49 U_INPUT U_ANIMATION U_INSETS_ANIMATION U_TRAVERSAL U_COMMIT S_PC q45) hZ (hw _ (own_m 70 rfl)) (hw _ (own_m 10 rfl)) (by decide) (by decide)) q52a q52c (g := (mkF m 78 #[.val (.long q0), .second, .val (.long q1), .second, .val (.long q2), .second, .val (.long q3), .second, .val (.long q4), .second, iv p0, rv w_COMMIT, rv b2, .unset, .unset] [(.ref b2)])) rfl (by rw [hml]; rfl) (Steps.refl _) (argsL := []) (rest := []) (lenOf own_pd5 rfl) rfl (by show 2 * 0 + _ ≤ _; exact Nat.le_of_eq rfl) (hb hby at_78) (fun _ _ => ⟨rfl, e51, (by decide : 3 + 0 ≤ _), (by decide : 19 + 0 ≤ _)⟩)
  dsimp only [Pt.U, Pt.locs, Pt.cells, Pt.slots] at X52 l52 y52 z52 st52 hQ52
  subst l52 y52 z52
  obtain ⟨rfl, N52q, e52⟩ := hQ52
  have N52 := Fr.app N51 N52q
  obtain ⟨cq53, kq53, q53a, q53b, q53c⟩ := isOf hZ e52 q40
  obtain ⟨_, _, ⟨T53, L53, k53, n53⟩, -, X53, ⟨Lc53, hQ53, l53, y53, z53⟩, st53⟩ := X52.virtualBack hx (y := (⟨"com/example/vsyncopate/vsyncopate/frame/FrameTiming", "skippedFrames", "()J"⟩ : MethodName)) (z := (⟨"com/example/vsyncopate/vsyncopate/frame/FrameTiming", "skippedFrames", "()J"⟩ : MethodName)) hown (mvT hZ (hw _ (own_m 71 rfl))) (mvT hZ (hw _ (own_m 72 rfl))) (notFace_of_selects (args := #[]) (mvT hZ (hw _ (own_m 74 rfl)))) (mvT hZ (hw _ (own_m 74 rfl))) (mvT hZ (hw _ (own_m 73 rfl))) (by decide) (backOf (W := 0) (own_g_skippedFrames l Z a0 hw [] w_INPUT w_ANIMATION w_INSETS_ANIMATION w_TRAVERSAL w_COMMIT b2 q3 T39.heap n0 O49 U_INPUT U_ANIMATION U_INSETS_ANIMATION U_TRAVERSAL U_COMMIT S_PC q46) hZ (hw _ (own_m 75 rfl)) (hw _ (own_m 10 rfl)) (by decide) (by decide)) q53a q53c (g := (mkF m 89 #[.val (.long q0), .second, .val (.long q1), .second, .val (.long q2), .second, .val (.long q3), .second, .val (.long q4), .second, iv p0, rv w_COMMIT, rv b2, .unset, .unset] [(.ref b2)])) rfl (by rw [hml]; rfl) (Steps.refl _) (argsL := []) (rest := []) (lenOf own_pd5 rfl) rfl (by show 2 * 0 + _ ≤ _; exact Nat.le_of_eq rfl) (hb hby at_89) (fun _ _ => ⟨rfl, e52, (by decide : 3 + 0 ≤ _), (by decide : 19 + 0 ≤ _)⟩)
  dsimp only [Pt.U, Pt.locs, Pt.cells, Pt.slots] at X53 l53 y53 z53 st53 hQ53
  subst l53 y53 z53
  obtain ⟨rfl, N53q, e53⟩ := hQ53
  have N53 := Fr.app N52 N53q
  obtain ⟨cq54, kq54, q54a, q54b, q54c⟩ := isOf hZ e53 q40
  obtain ⟨_, _, ⟨T54, L54, k54, n54⟩, -, X54, ⟨Lc54, hQ54, l54, y54, z54⟩, st54⟩ := X53.virtualBack hx (y := (⟨"com/example/vsyncopate/vsyncopate/frame/FrameTiming", "beganNanos", "()J"⟩ : MethodName)) (z := (⟨"com/example/vsyncopate/vsyncopate/frame/FrameTiming", "beganNanos", "()J"⟩ : MethodName)) hown (mvT hZ (hw _ (own_m 76 rfl))) (mvT hZ (hw _ (own_m 77 rfl))) (notFace_of_selects (args := #[]) (mvT hZ (hw _ (own_m 79 rfl)))) (mvT hZ (hw _ (own_m 79 rfl))) (mvT hZ (hw _ (own_m 78 rfl))) (by decide) (backOf (W := 0) (own_g_beganNanos l Z a0 hw [] w_INPUT w_ANIMATION w_INSETS_ANIMATION w_TRAVERSAL w_COMMIT b2 q4 T39.heap n0 O49 U_INPUT U_ANIMATION U_INSETS_ANIMATION U_TRAVERSAL U_COMMIT S_PC q47) hZ (hw _ (own_m 80 rfl)) (hw _ (own_m 10 rfl)) (by decide) (by decide)) q54a q54c (g := (mkF m 100 #[.val (.long q0), .second, .val (.long q1), .second, .val (.long q2), .second, .val (.long q3), .second, .val (.long q4), .second, iv p0, rv w_COMMIT, rv b2, .unset, .unset] [(.ref b2)])) rfl (by rw [hml]; rfl) (Steps.refl _) (argsL := []) (rest := []) (lenOf own_pd5 rfl) rfl (by show 2 * 0 + _ ≤ _; exact Nat.le_of_eq rfl) (hb hby at_100) (fun _ _ => ⟨rfl, e53, (by decide : 3 + 0 ≤ _), (by decide : 19 + 0 ≤ _)⟩)
  dsimp only [Pt.U, Pt.locs, Pt.cells, Pt.slots] at X54 l54 y54 z54 st54 hQ54
  subst l54 y54 z54
  obtain ⟨rfl, N54q, e54⟩ := hQ54
  have N54 := Fr.app N53 N54q
  obtain ⟨T55, X55, e55, st55⟩ := getS2 X54 hx hZ hown (host := "") (Or.inl (hw _ (own_m 81 rfl))) Via.refl e54 (U_INPUT.1.ext O49.2) (g := (mkF m 118 #[.val (.long q0), .second, .val (.long q1), .second, .val (.long q2), .second, .val (.long q3), .second, .val (.long q4), .second, iv p0, rv w_COMMIT, rv b2, iv 1, .unset] [(.ref b2)])) rfl (hb hby at_118)
  obtain ⟨cq56, kq56, q56a, q56b, q56c⟩ := isOf hZ e55 q40
  obtain ⟨_, _, ⟨T56, L56, k56, n56⟩, -, X56, ⟨Lc56, hQ56, l56, y56, z56⟩, st56⟩ := X55.virtualBack hx (y := (⟨"com/example/vsyncopate/vsyncopate/frame/FrameTiming", "phaseBegan", "(Lcom/example/vsyncopate/vsyncopate/frame/FramePhase;)Z"⟩ : MethodName)) (z := (⟨"com/example/vsyncopate/vsyncopate/frame/FrameTiming", "phaseBegan", "(Lcom/example/vsyncopate/vsyncopate/frame/FramePhase;)Z"⟩ : MethodName)) hown (mvT hZ (hw _ (own_m 83 rfl))) (mvT hZ (hw _ (own_m 84 rfl))) (notFace_of_selects (args := #[]) (mvT hZ (hw _ (own_m 86 rfl)))) (mvT hZ (hw _ (own_m 86 rfl))) (mvT hZ (hw _ (own_m 85 rfl))) (by decide) (backOf (W := 0) (own_h_INPUT l Z a0 hw [] w_INPUT w_ANIMATION w_INSETS_ANIMATION w_TRAVERSAL w_COMMIT b2 T39.heap n0 O49 U_INPUT U_ANIMATION U_INSETS_ANIMATION U_TRAVERSAL U_COMMIT S_PC q48) hZ (hw _ (own_m 87 rfl)) (hw _ (own_m 10 rfl)) (by decide) (by decide)) q56a q56c (g := (mkF m 121 #[.val (.long q0), .second, .val (.long q1), .second, .val (.long q2), .second, .val (.long q3), .second, .val (.long q4), .second, iv p0, rv w_COMMIT, rv b2, iv 1, .unset] [(.ref w_INPUT), (.ref b2)])) rfl (by rw [hml]; rfl) (Steps.refl _) (argsL := [(.ref w_INPUT)]) (rest := []) (lenOf own_pd6 rfl) rfl (by show 2 * 0 + _ ≤ _; exact Nat.le_of_eq rfl) (hb hby at_121) (fun _ _ => ⟨rfl, e55, (by decide : 3 + 0 ≤ _), (by decide : 19 + 0 ≤ _)⟩)
  dsimp only [Pt.U, Pt.locs, Pt.cells, Pt.slots] at X56 l56 y56 z56 st56 hQ56
  subst l56 y56 z56
  obtain ⟨rfl, N56q, e56⟩ := hQ56
  have N56 := Fr.app N54 N56q
  obtain ⟨cq57, kq57, q57a, q57b, q57c⟩ := isOf hZ e56 q40
  obtain ⟨_, _, ⟨T57, L57, k57, n57⟩, -, X57, ⟨Lc57, hQ57, l57, y57, z57⟩, st57⟩ := X56.virtualBack hx (y := (⟨"com/example/vsyncopate/vsyncopate/frame/FrameTiming", "phaseBegan", "(Lcom/example/vsyncopate/vsyncopate/frame/FramePhase;)Z"⟩ : MethodName)) (z := (⟨"com/example/vsyncopate/vsyncopate/frame/FrameTiming", "phaseBegan", "(Lcom/example/vsyncopate/vsyncopate/frame/FramePhase;)Z"⟩ : MethodName)) hown (mvT hZ (hw _ (own_m 83 rfl))) (mvT hZ (hw _ (own_m 84 rfl))) (notFace_of_selects (args := #[]) (mvT hZ (hw _ (own_m 86 rfl)))) (mvT hZ (hw _ (own_m 86 rfl))) (mvT hZ (hw _ (own_m 85 rfl))) (by decide) (backOf (W := 0) (own_h_COMMIT l Z a0 hw [] w_INPUT w_ANIMATION w_INSETS_ANIMATION w_TRAVERSAL w_COMMIT b2 T39.heap n0 O49 U_INPUT U_ANIMATION U_INSETS_ANIMATION U_TRAVERSAL U_COMMIT S_PC q48) hZ (hw _ (own_m 87 rfl)) (hw _ (own_m 10 rfl)) (by decide) (by decide)) q57a q57c (g := (mkF m 131 #[.val (.long q0), .second, .val (.long q1), .second, .val (.long q2), .second, .val (.long q3), .second, .val (.long q4), .second, iv p0, rv w_COMMIT, rv b2, iv 1, .unset] [(.ref w_COMMIT), (.ref b2)])) rfl (by rw [hml]; rfl) (Steps.refl _) (argsL := [(.ref w_COMMIT)]) (rest := []) (lenOf own_pd6 rfl) rfl (by show 2 * 0 + _ ≤ _; exact Nat.le_of_eq rfl) (hb hby at_131) (fun _ _ => ⟨rfl, e56, (by decide : 3 + 0 ≤ _), (by decide : 19 + 0 ≤ _)⟩)
  dsimp only [Pt.U, Pt.locs, Pt.cells, Pt.slots] at X57 l57 y57 z57 st57 hQ57
  subst l57 y57 z57
  obtain ⟨rfl, N57q, e57⟩ := hQ57
  have N57 := Fr.app N56 N57q
  obtain ⟨fs, hr, hrun, hended, hW, hsame⟩ := X57.leave (v := some (.int 1)) (fun h => by rw [Bd.returns] at h; cases h)
  refine ⟨_, _, pre0 _ ?_, hrun, hended, _, _, rfl, ?_, ⟨_, rfl⟩, hW, hsame.mono (by decide) (by decide)⟩
  · show Steps p.tables e below (s₁.setTop (mkF m 0 #[.val (.long q0), .second, .val (.long q1), .second, .val (.long q2), .second, .val (.long q3), .second, .val (.long q4), .second, iv p0, .unset, .unset, .unset, .unset] [])) _
    refine XS.iload X0.here hx rfl (hb hby at_0) rfl ?_
    show Steps p.tables e below (s₁.setTop (mkF m 2 #[.val (.long q0), .second, .val (.long q1), .second, .val (.long q2), .second, .val (.long q3), .second, .val (.long q4), .second, iv p0, .unset, .unset, .unset, .unset] [(.int p0)])) _
    refine X0.ldcInt hx hown (mvT hZ (hw _ (own_m 0 rfl))) (g := (mkF m 2 #[.val (.long q0), .second, .val (.long q1), .second, .val (.long q2), .second, .val (.long q3), .second, .val (.long q4), .second, iv p0, .unset, .unset, .unset, .unset] [(.int p0)])) rfl (hb hby at_2) _ ?_
    show Steps p.tables e below (s₁.setTop (mkF m 4 #[.val (.long q0), .second, .val (.long q1), .second, .val (.long q2), .second, .val (.long q3), .second, .val (.long q4), .second, iv p0, .unset, .unset, .unset, .unset] [(.int 2147483647), (.int p0)])) _
    refine XS.iand X0.here hx rfl (hb hby at_4) rfl ?_
    show Steps p.tables e below (s₁.setTop (mkF m 5 #[.val (.long q0), .second, .val (.long q1), .second, .val (.long q2), .second, .val (.long q3), .second, .val (.long q4), .second, iv p0, .unset, .unset, .unset, .unset] [(.int (p0 &&& (2147483647 : Int32)))])) _
    refine XS.iconst X0.here hx rfl (hb hby at_5) ?_
    show Steps p.tables e below (s₁.setTop (mkF m 6 #[.val (.long q0), .second, .val (.long q1), .second, .val (.long q2), .second, .val (.long q3), .second, .val (.long q4), .second, iv p0, .unset, .unset, .unset, .unset] [(.int 5), (.int (p0 &&& (2147483647 : Int32)))])) _
    refine iremM X0 hx rfl (hb hby at_6) rfl (by decide) ?_
    show Steps p.tables e below (s₁.setTop (mkF m 7 #[.val (.long q0), .second, .val (.long q1), .second, .val (.long q2), .second, .val (.long q3), .second, .val (.long q4), .second, iv p0, .unset, .unset, .unset, .unset] [(.int ((p0 &&& (2147483647 : Int32)) % (5 : Int32)))])) _
    refine own_top (v' := (.int 4)) (congrArg Value.int hk) ?_
    show Steps p.tables e below (s₁.setTop (mkF m 7 #[.val (.long q0), .second, .val (.long q1), .second, .val (.long q2), .second, .val (.long q3), .second, .val (.long q4), .second, iv p0, .unset, .unset, .unset, .unset] [(.int 4)])) _
    refine st1 _ ?_
    show Steps p.tables e below (T1.setTop (mkF m 10 #[.val (.long q0), .second, .val (.long q1), .second, .val (.long q2), .second, .val (.long q3), .second, .val (.long q4), .second, iv p0, .unset, .unset, .unset, .unset] [(.ref w_COMMIT)])) _
    refine XS.astore X1.here hx rfl (hb hby at_10) rfl rfl (l' := #[.val (.long q0), .second, .val (.long q1), .second, .val (.long q2), .second, .val (.long q3), .second, .val (.long q4), .second, iv p0, rv w_COMMIT, .unset, .unset, .unset]) rfl ?_
    show Steps p.tables e below (T1.setTop (mkF m 12 #[.val (.long q0), .second, .val (.long q1), .second, .val (.long q2), .second, .val (.long q3), .second, .val (.long q4), .second, iv p0, rv w_COMMIT, .unset, .unset, .unset] [])) _
    refine st2 _ ?_
    show Steps p.tables e below (T2.setTop (mkF m 15 #[.val (.long q0), .second, .val (.long q1), .second, .val (.long q2), .second, .val (.long q3), .second, .val (.long q4), .second, iv p0, rv w_COMMIT, .unset, .unset, .unset] [(.ref b2)])) _
    refine XS.dup X2.here hx rfl (hb hby at_15) rfl rfl ?_
    show Steps p.tables e below (T2.setTop (mkF m 16 #[.val (.long q0), .second, .val (.long q1), .second, .val (.long q2), .second, .val (.long q3), .second, .val (.long q4), .second, iv p0, rv w_COMMIT, .unset, .unset, .unset] [(.ref b2), (.ref b2)])) _
    refine st4.trans ?_
    show Steps p.tables e below (T4.setTop (mkF m 19 #[.val (.long q0), .second, .val (.long q1), .second, .val (.long q2), .second, .val (.long q3), .second, .val (.long q4), .second, iv p0, rv w_COMMIT, .unset, .unset, .unset] [(.ref b2)])) _
    refine XS.astore X4.here hx rfl (hb hby at_19) rfl rfl (l' := #[.val (.long q0), .second, .val (.long q1), .second, .val (.long q2), .second, .val (.long q3), .second, .val (.long q4), .second, iv p0, rv w_COMMIT, rv b2, .unset, .unset]) rfl ?_
    show Steps p.tables e below (T4.setTop (mkF m 21 #[.val (.long q0), .second, .val (.long q1), .second, .val (.long q2), .second, .val (.long q3), .second, .val (.long q4), .second, iv p0, rv w_COMMIT, rv b2, .unset, .unset] [])) _
    refine XS.aload X4.here hx rfl (hb hby at_21) rfl rfl ?_
    show Steps p.tables e below (T4.setTop (mkF m 23 #[.val (.long q0), .second, .val (.long q1), .second, .val (.long q2), .second, .val (.long q3), .second, .val (.long q4), .second, iv p0, rv w_COMMIT, rv b2, .unset, .unset] [(.ref b2)])) _
    refine XS.lloadN X4.here hx rfl (hb hby at_23) rfl ?_
    show Steps p.tables e below (T4.setTop (mkF m 24 #[.val (.long q0), .second, .val (.long q1), .second, .val (.long q2), .second, .val (.long q3), .second, .val (.long q4), .second, iv p0, rv w_COMMIT, rv b2, .unset, .unset] [(.long q1), (.ref b2)])) _
    refine XS.lload X4.here hx rfl (hb hby at_24) rfl ?_
    show Steps p.tables e below (T4.setTop (mkF m 26 #[.val (.long q0), .second, .val (.long q1), .second, .val (.long q2), .second, .val (.long q3), .second, .val (.long q4), .second, iv p0, rv w_COMMIT, rv b2, .unset, .unset] [(.long q2), (.long q1), (.ref b2)])) _
    refine XS.lload X4.here hx rfl (hb hby at_26) rfl ?_
    show Steps p.tables e below (T4.setTop (mkF m 28 #[.val (.long q0), .second, .val (.long q1), .second, .val (.long q2), .second, .val (.long q3), .second, .val (.long q4), .second, iv p0, rv w_COMMIT, rv b2, .unset, .unset] [(.long q3), (.long q2), (.long q1), (.ref b2)])) _
    refine XS.lload X4.here hx rfl (hb hby at_28) rfl ?_
    show Steps p.tables e below (T4.setTop (mkF m 30 #[.val (.long q0), .second, .val (.long q1), .second, .val (.long q2), .second, .val (.long q3), .second, .val (.long q4), .second, iv p0, rv w_COMMIT, rv b2, .unset, .unset] [(.long q4), (.long q3), (.long q2), (.long q1), (.ref b2)])) _
    refine XS.lloadN X4.here hx rfl (hb hby at_30) rfl ?_
    show Steps p.tables e below (T4.setTop (mkF m 31 #[.val (.long q0), .second, .val (.long q1), .second, .val (.long q2), .second, .val (.long q3), .second, .val (.long q4), .second, iv p0, rv w_COMMIT, rv b2, .unset, .unset] [(.long q0), (.long q4), (.long q3), (.long q2), (.long q1), (.ref b2)])) _
    refine st15.trans ?_
    show Steps p.tables e below (T15.setTop (mkF m 34 #[.val (.long q0), .second, .val (.long q1), .second, .val (.long q2), .second, .val (.long q3), .second, .val (.long q4), .second, iv p0, rv w_COMMIT, rv b2, .unset, .unset] [])) _
    refine XS.aload X15.here hx rfl (hb hby at_34) rfl rfl ?_
    show Steps p.tables e below (T15.setTop (mkF m 36 #[.val (.long q0), .second, .val (.long q1), .second, .val (.long q2), .second, .val (.long q3), .second, .val (.long q4), .second, iv p0, rv w_COMMIT, rv b2, .unset, .unset] [(.ref b2)])) _
    refine XS.aload X15.here hx rfl (hb hby at_36) rfl rfl ?_
    show Steps p.tables e below (T15.setTop (mkF m 38 #[.val (.long q0), .second, .val (.long q1), .second, .val (.long q2), .second, .val (.long q3), .second, .val (.long q4), .second, iv p0, rv w_COMMIT, rv b2, .unset, .unset] [(.ref w_COMMIT), (.ref b2)])) _
    refine XS.lload X15.here hx rfl (hb hby at_38) rfl ?_
    show Steps p.tables e below (T15.setTop (mkF m 40 #[.val (.long q0), .second, .val (.long q1), .second, .val (.long q2), .second, .val (.long q3), .second, .val (.long q4), .second, iv p0, rv w_COMMIT, rv b2, .unset, .unset] [(.long q4), (.ref w_COMMIT), (.ref b2)])) _
    refine st28.trans ?_
    show Steps p.tables e below (T28.setTop (mkF m 43 #[.val (.long q0), .second, .val (.long q1), .second, .val (.long q2), .second, .val (.long q3), .second, .val (.long q4), .second, iv p0, rv w_COMMIT, rv b2, .unset, .unset] [])) _
    refine XS.aload X28.here hx rfl (hb hby at_43) rfl rfl ?_
    show Steps p.tables e below (T28.setTop (mkF m 45 #[.val (.long q0), .second, .val (.long q1), .second, .val (.long q2), .second, .val (.long q3), .second, .val (.long q4), .second, iv p0, rv w_COMMIT, rv b2, .unset, .unset] [(.ref b2)])) _
    refine XS.lloadN X28.here hx rfl (hb hby at_45) rfl ?_
    show Steps p.tables e below (T28.setTop (mkF m 46 #[.val (.long q0), .second, .val (.long q1), .second, .val (.long q2), .second, .val (.long q3), .second, .val (.long q4), .second, iv p0, rv w_COMMIT, rv b2, .unset, .unset] [(.long q0), (.ref b2)])) _
    refine XS.lloadN X28.here hx rfl (hb hby at_46) rfl ?_
    show Steps p.tables e below (T28.setTop (mkF m 47 #[.val (.long q0), .second, .val (.long q1), .second, .val (.long q2), .second, .val (.long q3), .second, .val (.long q4), .second, iv p0, rv w_COMMIT, rv b2, .unset, .unset] [(.long q1), (.long q0), (.ref b2)])) _
    refine XS.lload X28.here hx rfl (hb hby at_47) rfl ?_
    show Steps p.tables e below (T28.setTop (mkF m 49 #[.val (.long q0), .second, .val (.long q1), .second, .val (.long q2), .second, .val (.long q3), .second, .val (.long q4), .second, iv p0, rv w_COMMIT, rv b2, .unset, .unset] [(.long q2), (.long q1), (.long q0), (.ref b2)])) _
    refine XS.lload X28.here hx rfl (hb hby at_49) rfl ?_
    show Steps p.tables e below (T28.setTop (mkF m 51 #[.val (.long q0), .second, .val (.long q1), .second, .val (.long q2), .second, .val (.long q3), .second, .val (.long q4), .second, iv p0, rv w_COMMIT, rv b2, .unset, .unset] [(.long q3), (.long q2), (.long q1), (.long q0), (.ref b2)])) _
    refine XS.lload X28.here hx rfl (hb hby at_51) rfl ?_
    show Steps p.tables e below (T28.setTop (mkF m 53 #[.val (.long q0), .second, .val (.long q1), .second, .val (.long q2), .second, .val (.long q3), .second, .val (.long q4), .second, iv p0, rv w_COMMIT, rv b2, .unset, .unset] [(.long q4), (.long q3), (.long q2), (.long q1), (.long q0), (.ref b2)])) _
    refine st39.trans ?_
    show Steps p.tables e below (T39.setTop (mkF m 56 #[.val (.long q0), .second, .val (.long q1), .second, .val (.long q2), .second, .val (.long q3), .second, .val (.long q4), .second, iv p0, rv w_COMMIT, rv b2, .unset, .unset] [])) _
    refine XS.aload X39.here hx rfl (hb hby at_56) rfl rfl ?_
    show Steps p.tables e below (T39.setTop (mkF m 58 #[.val (.long q0), .second, .val (.long q1), .second, .val (.long q2), .second, .val (.long q3), .second, .val (.long q4), .second, iv p0, rv w_COMMIT, rv b2, .unset, .unset] [(.ref b2)])) _
    refine st50.trans ?_
    show Steps p.tables e below (T50.setTop (mkF m 61 #[.val (.long q0), .second, .val (.long q1), .second, .val (.long q2), .second, .val (.long q3), .second, .val (.long q4), .second, iv p0, rv w_COMMIT, rv b2, .unset, .unset] [(.long q0)])) _
    refine XS.lloadN X50.here hx rfl (hb hby at_61) rfl ?_
    show Steps p.tables e below (T50.setTop (mkF m 62 #[.val (.long q0), .second, .val (.long q1), .second, .val (.long q2), .second, .val (.long q3), .second, .val (.long q4), .second, iv p0, rv w_COMMIT, rv b2, .unset, .unset] [(.long q0), (.long q0)])) _
    refine XS.lcmp X50.here hx rfl (hb hby at_62) rfl ?_
    show Steps p.tables e below (T50.setTop (mkF m 63 #[.val (.long q0), .second, .val (.long q1), .second, .val (.long q2), .second, .val (.long q3), .second, .val (.long q4), .second, iv p0, rv w_COMMIT, rv b2, .unset, .unset] [(.int (lcmpW q0 q0))])) _
    refine XS.ifNo X50.here hx rfl (hb hby at_63) rfl ((if0 _ _).trans (teq ((lw_eq _ _).mpr rfl)).2) ?_
    show Steps p.tables e below (T50.setTop (mkF m 66 #[.val (.long q0), .second, .val (.long q1), .second, .val (.long q2), .second, .val (.long q3), .second, .val (.long q4), .second, iv p0, rv w_COMMIT, rv b2, .unset, .unset] [])) _
    refine XS.aload X50.here hx rfl (hb hby at_66) rfl rfl ?_
    show Steps p.tables e below (T50.setTop (mkF m 68 #[.val (.long q0), .second, .val (.long q1), .second, .val (.long q2), .second, .val (.long q3), .second, .val (.long q4), .second, iv p0, rv w_COMMIT, rv b2, .unset, .unset] [(.ref b2)])) _
    refine st51.trans ?_
    show Steps p.tables e below (T51.setTop (mkF m 71 #[.val (.long q0), .second, .val (.long q1), .second, .val (.long q2), .second, .val (.long q3), .second, .val (.long q4), .second, iv p0, rv w_COMMIT, rv b2, .unset, .unset] [(.long q1)])) _
    refine XS.lloadN X51.here hx rfl (hb hby at_71) rfl ?_
    show Steps p.tables e below (T51.setTop (mkF m 72 #[.val (.long q0), .second, .val (.long q1), .second, .val (.long q2), .second, .val (.long q3), .second, .val (.long q4), .second, iv p0, rv w_COMMIT, rv b2, .unset, .unset] [(.long q1), (.long q1)])) _
    refine XS.lcmp X51.here hx rfl (hb hby at_72) rfl ?_
    show Steps p.tables e below (T51.setTop (mkF m 73 #[.val (.long q0), .second, .val (.long q1), .second, .val (.long q2), .second, .val (.long q3), .second, .val (.long q4), .second, iv p0, rv w_COMMIT, rv b2, .unset, .unset] [(.int (lcmpW q1 q1))])) _
    refine XS.ifNo X51.here hx rfl (hb hby at_73) rfl ((if0 _ _).trans (teq ((lw_eq _ _).mpr rfl)).2) ?_
    show Steps p.tables e below (T51.setTop (mkF m 76 #[.val (.long q0), .second, .val (.long q1), .second, .val (.long q2), .second, .val (.long q3), .second, .val (.long q4), .second, iv p0, rv w_COMMIT, rv b2, .unset, .unset] [])) _
    refine XS.aload X51.here hx rfl (hb hby at_76) rfl rfl ?_
    show Steps p.tables e below (T51.setTop (mkF m 78 #[.val (.long q0), .second, .val (.long q1), .second, .val (.long q2), .second, .val (.long q3), .second, .val (.long q4), .second, iv p0, rv w_COMMIT, rv b2, .unset, .unset] [(.ref b2)])) _
    refine st52.trans ?_
    show Steps p.tables e below (T52.setTop (mkF m 81 #[.val (.long q0), .second, .val (.long q1), .second, .val (.long q2), .second, .val (.long q3), .second, .val (.long q4), .second, iv p0, rv w_COMMIT, rv b2, .unset, .unset] [(.long q2)])) _
    refine XS.lload X52.here hx rfl (hb hby at_81) rfl ?_
    show Steps p.tables e below (T52.setTop (mkF m 83 #[.val (.long q0), .second, .val (.long q1), .second, .val (.long q2), .second, .val (.long q3), .second, .val (.long q4), .second, iv p0, rv w_COMMIT, rv b2, .unset, .unset] [(.long q2), (.long q2)])) _
    refine XS.lcmp X52.here hx rfl (hb hby at_83) rfl ?_
    show Steps p.tables e below (T52.setTop (mkF m 84 #[.val (.long q0), .second, .val (.long q1), .second, .val (.long q2), .second, .val (.long q3), .second, .val (.long q4), .second, iv p0, rv w_COMMIT, rv b2, .unset, .unset] [(.int (lcmpW q2 q2))])) _
    refine XS.ifNo X52.here hx rfl (hb hby at_84) rfl ((if0 _ _).trans (teq ((lw_eq _ _).mpr rfl)).2) ?_
    show Steps p.tables e below (T52.setTop (mkF m 87 #[.val (.long q0), .second, .val (.long q1), .second, .val (.long q2), .second, .val (.long q3), .second, .val (.long q4), .second, iv p0, rv w_COMMIT, rv b2, .unset, .unset] [])) _
    refine XS.aload X52.here hx rfl (hb hby at_87) rfl rfl ?_
    show Steps p.tables e below (T52.setTop (mkF m 89 #[.val (.long q0), .second, .val (.long q1), .second, .val (.long q2), .second, .val (.long q3), .second, .val (.long q4), .second, iv p0, rv w_COMMIT, rv b2, .unset, .unset] [(.ref b2)])) _
    refine st53.trans ?_
    show Steps p.tables e below (T53.setTop (mkF m 92 #[.val (.long q0), .second, .val (.long q1), .second, .val (.long q2), .second, .val (.long q3), .second, .val (.long q4), .second, iv p0, rv w_COMMIT, rv b2, .unset, .unset] [(.long q3)])) _
    refine XS.lload X53.here hx rfl (hb hby at_92) rfl ?_
    show Steps p.tables e below (T53.setTop (mkF m 94 #[.val (.long q0), .second, .val (.long q1), .second, .val (.long q2), .second, .val (.long q3), .second, .val (.long q4), .second, iv p0, rv w_COMMIT, rv b2, .unset, .unset] [(.long q3), (.long q3)])) _
    refine XS.lcmp X53.here hx rfl (hb hby at_94) rfl ?_
    show Steps p.tables e below (T53.setTop (mkF m 95 #[.val (.long q0), .second, .val (.long q1), .second, .val (.long q2), .second, .val (.long q3), .second, .val (.long q4), .second, iv p0, rv w_COMMIT, rv b2, .unset, .unset] [(.int (lcmpW q3 q3))])) _
    refine XS.ifNo X53.here hx rfl (hb hby at_95) rfl ((if0 _ _).trans (teq ((lw_eq _ _).mpr rfl)).2) ?_
    show Steps p.tables e below (T53.setTop (mkF m 98 #[.val (.long q0), .second, .val (.long q1), .second, .val (.long q2), .second, .val (.long q3), .second, .val (.long q4), .second, iv p0, rv w_COMMIT, rv b2, .unset, .unset] [])) _
    refine XS.aload X53.here hx rfl (hb hby at_98) rfl rfl ?_
    show Steps p.tables e below (T53.setTop (mkF m 100 #[.val (.long q0), .second, .val (.long q1), .second, .val (.long q2), .second, .val (.long q3), .second, .val (.long q4), .second, iv p0, rv w_COMMIT, rv b2, .unset, .unset] [(.ref b2)])) _
    refine st54.trans ?_
    show Steps p.tables e below (T54.setTop (mkF m 103 #[.val (.long q0), .second, .val (.long q1), .second, .val (.long q2), .second, .val (.long q3), .second, .val (.long q4), .second, iv p0, rv w_COMMIT, rv b2, .unset, .unset] [(.long q4)])) _
    refine XS.lload X54.here hx rfl (hb hby at_103) rfl ?_
    show Steps p.tables e below (T54.setTop (mkF m 105 #[.val (.long q0), .second, .val (.long q1), .second, .val (.long q2), .second, .val (.long q3), .second, .val (.long q4), .second, iv p0, rv w_COMMIT, rv b2, .unset, .unset] [(.long q4), (.long q4)])) _
    refine XS.lcmp X54.here hx rfl (hb hby at_105) rfl ?_
    show Steps p.tables e below (T54.setTop (mkF m 106 #[.val (.long q0), .second, .val (.long q1), .second, .val (.long q2), .second, .val (.long q3), .second, .val (.long q4), .second, iv p0, rv w_COMMIT, rv b2, .unset, .unset] [(.int (lcmpW q4 q4))])) _
    refine XS.ifNo X54.here hx rfl (hb hby at_106) rfl ((if0 _ _).trans (teq ((lw_eq _ _).mpr rfl)).2) ?_
    show Steps p.tables e below (T54.setTop (mkF m 109 #[.val (.long q0), .second, .val (.long q1), .second, .val (.long q2), .second, .val (.long q3), .second, .val (.long q4), .second, iv p0, rv w_COMMIT, rv b2, .unset, .unset] [])) _
    refine XS.iconst X54.here hx rfl (hb hby at_109) ?_
    show Steps p.tables e below (T54.setTop (mkF m 110 #[.val (.long q0), .second, .val (.long q1), .second, .val (.long q2), .second, .val (.long q3), .second, .val (.long q4), .second, iv p0, rv w_COMMIT, rv b2, .unset, .unset] [(.int 1)])) _
    refine XS.goto X54.here hx rfl (pc0 := 110) (pc' := 114) rfl (hb hby at_110) (by decide) (by decide) ?_
    show Steps p.tables e below (T54.setTop (mkF m 114 #[.val (.long q0), .second, .val (.long q1), .second, .val (.long q2), .second, .val (.long q3), .second, .val (.long q4), .second, iv p0, rv w_COMMIT, rv b2, .unset, .unset] [(.int 1)])) _
    refine XS.istore X54.here hx rfl (hb hby at_114) rfl (l' := #[.val (.long q0), .second, .val (.long q1), .second, .val (.long q2), .second, .val (.long q3), .second, .val (.long q4), .second, iv p0, rv w_COMMIT, rv b2, iv 1, .unset]) rfl ?_
    show Steps p.tables e below (T54.setTop (mkF m 116 #[.val (.long q0), .second, .val (.long q1), .second, .val (.long q2), .second, .val (.long q3), .second, .val (.long q4), .second, iv p0, rv w_COMMIT, rv b2, iv 1, .unset] [])) _
    refine XS.aload X54.here hx rfl (hb hby at_116) rfl rfl ?_
    show Steps p.tables e below (T54.setTop (mkF m 118 #[.val (.long q0), .second, .val (.long q1), .second, .val (.long q2), .second, .val (.long q3), .second, .val (.long q4), .second, iv p0, rv w_COMMIT, rv b2, iv 1, .unset] [(.ref b2)])) _
    refine st55 _ ?_
    show Steps p.tables e below (T55.setTop (mkF m 121 #[.val (.long q0), .second, .val (.long q1), .second, .val (.long q2), .second, .val (.long q3), .second, .val (.long q4), .second, iv p0, rv w_COMMIT, rv b2, iv 1, .unset] [(.ref w_INPUT), (.ref b2)])) _
    refine st56.trans ?_
    show Steps p.tables e below (T56.setTop (mkF m 124 #[.val (.long q0), .second, .val (.long q1), .second, .val (.long q2), .second, .val (.long q3), .second, .val (.long q4), .second, iv p0, rv w_COMMIT, rv b2, iv 1, .unset] [(.int 0)])) _
    refine XS.ifNo X56.here hx rfl (hb hby at_124) rfl ((if0 _ _).trans (teq (by decide)).2) ?_
    show Steps p.tables e below (T56.setTop (mkF m 127 #[.val (.long q0), .second, .val (.long q1), .second, .val (.long q2), .second, .val (.long q3), .second, .val (.long q4), .second, iv p0, rv w_COMMIT, rv b2, iv 1, .unset] [])) _
    refine XS.aload X56.here hx rfl (hb hby at_127) rfl rfl ?_
    show Steps p.tables e below (T56.setTop (mkF m 129 #[.val (.long q0), .second, .val (.long q1), .second, .val (.long q2), .second, .val (.long q3), .second, .val (.long q4), .second, iv p0, rv w_COMMIT, rv b2, iv 1, .unset] [(.ref b2)])) _
    refine XS.aload X56.here hx rfl (hb hby at_129) rfl rfl ?_
    show Steps p.tables e below (T56.setTop (mkF m 131 #[.val (.long q0), .second, .val (.long q1), .second, .val (.long q2), .second, .val (.long q3), .second, .val (.long q4), .second, iv p0, rv w_COMMIT, rv b2, iv 1, .unset] [(.ref w_COMMIT), (.ref b2)])) _
    refine st57.trans ?_
    show Steps p.tables e below (T57.setTop (mkF m 134 #[.val (.long q0), .second, .val (.long q1), .second, .val (.long q2), .second, .val (.long q3), .second, .val (.long q4), .second, iv p0, rv w_COMMIT, rv b2, iv 1, .unset] [(.int 0)])) _
    refine XS.ifNo X57.here hx rfl (hb hby at_134) rfl ((if0 _ _).trans (teq (by decide)).2) ?_
    show Steps p.tables e below (T57.setTop (mkF m 137 #[.val (.long q0), .second, .val (.long q1), .second, .val (.long q2), .second, .val (.long q3), .second, .val (.long q4), .second, iv p0, rv w_COMMIT, rv b2, iv 1, .unset] [])) _
    refine XS.iconst X57.here hx rfl (hb hby at_137) ?_
    show Steps p.tables e below (T57.setTop (mkF m 138 #[.val (.long q0), .second, .val (.long q1), .second, .val (.long q2), .second, .val (.long q3), .second, .val (.long q4), .second, iv p0, rv w_COMMIT, rv b2, iv 1, .unset] [(.int 1)])) _
    refine XS.goto X57.here hx rfl (pc0 := 138) (pc' := 142) rfl (hb hby at_138) (by decide) (by decide) ?_
    show Steps p.tables e below (T57.setTop (mkF m 142 #[.val (.long q0), .second, .val (.long q1), .second, .val (.long q2), .second, .val (.long q3), .second, .val (.long q4), .second, iv p0, rv w_COMMIT, rv b2, iv 1, .unset] [(.int 1)])) _
    refine XS.istore X57.here hx rfl (hb hby at_142) rfl (l' := #[.val (.long q0), .second, .val (.long q1), .second, .val (.long q2), .second, .val (.long q3), .second, .val (.long q4), .second, iv p0, rv w_COMMIT, rv b2, iv 1, iv 1]) rfl ?_
    show Steps p.tables e below (T57.setTop (mkF m 144 #[.val (.long q0), .second, .val (.long q1), .second, .val (.long q2), .second, .val (.long q3), .second, .val (.long q4), .second, iv p0, rv w_COMMIT, rv b2, iv 1, iv 1] [])) _
    refine XS.iload X57.here hx rfl (hb hby at_144) rfl ?_
    show Steps p.tables e below (T57.setTop (mkF m 146 #[.val (.long q0), .second, .val (.long q1), .second, .val (.long q2), .second, .val (.long q3), .second, .val (.long q4), .second, iv p0, rv w_COMMIT, rv b2, iv 1, iv 1] [(.int 1)])) _
    refine XS.ifNo X57.here hx rfl (hb hby at_146) rfl ((if0 _ _).trans (feq (by decide)).1) ?_
    show Steps p.tables e below (T57.setTop (mkF m 149 #[.val (.long q0), .second, .val (.long q1), .second, .val (.long q2), .second, .val (.long q3), .second, .val (.long q4), .second, iv p0, rv w_COMMIT, rv b2, iv 1, iv 1] [])) _
    refine XS.iload X57.here hx rfl (hb hby at_149) rfl ?_
    show Steps p.tables e below (T57.setTop (mkF m 151 #[.val (.long q0), .second, .val (.long q1), .second, .val (.long q2), .second, .val (.long q3), .second, .val (.long q4), .second, iv p0, rv w_COMMIT, rv b2, iv 1, iv 1] [(.int 1)])) _
    refine XS.ifNo X57.here hx rfl (hb hby at_151) rfl ((if0 _ _).trans (feq (by decide)).1) ?_
    show Steps p.tables e below (T57.setTop (mkF m 154 #[.val (.long q0), .second, .val (.long q1), .second, .val (.long q2), .second, .val (.long q3), .second, .val (.long q4), .second, iv p0, rv w_COMMIT, rv b2, iv 1, iv 1] [])) _
    refine XS.iconst X57.here hx rfl (hb hby at_154) ?_
    show Steps p.tables e below (T57.setTop (mkF m 155 #[.val (.long q0), .second, .val (.long q1), .second, .val (.long q2), .second, .val (.long q3), .second, .val (.long q4), .second, iv p0, rv w_COMMIT, rv b2, iv 1, iv 1] [(.int 1)])) _
    refine XS.goto X57.here hx rfl (pc0 := 155) (pc' := 159) rfl (hb hby at_155) (by decide) (by decide) ?_
    show Steps p.tables e below (T57.setTop (mkF m 159 #[.val (.long q0), .second, .val (.long q1), .second, .val (.long q2), .second, .val (.long q3), .second, .val (.long q4), .second, iv p0, rv w_COMMIT, rv b2, iv 1, iv 1] [(.int 1)])) _
    exact retN X57 hx (t := .boolean) Bd.returns (by simp) (hb hby at_159) hr
  · show own_law4_Q Z w_INPUT w_ANIMATION w_INSETS_ANIMATION w_TRAVERSAL w_COMMIT q0 q1 q2 q3 q4 p0 h0 n0 _ T57.heap _
    rw [e57]
    exact ⟨rfl, N57, trivial⟩
def own_law_Q (h0 : Heap) (n0 : Nat) (v : Option Value) (h : Heap) (L : List Loc) : Prop := v = some (.int 1) ∧ Fr n0 L
theorem own_law (l : Launch) (Z : State) (a0 : Array Value) (hw : ∀ d ∈ tables_1, d.before a0 Z = true) (ws : List Jvm.Cond) (w_INPUT : Addr) (w_ANIMATION : Addr) (w_INSETS_ANIMATION : Addr) (w_TRAVERSAL : Addr) (w_COMMIT : Addr) (q0 : Int64) (q1 : Int64) (q2 : Int64) (q3 : Int64) (q4 : Int64) (p0 : Int32) (h0 : Heap) (n0 : Nat) (O0 : Old Z n0 h0) (U_INPUT : own_En Z Z.heap "com/example/vsyncopate/vsyncopate/frame/FramePhase" "INPUT" "Lcom/example/vsyncopate/vsyncopate/frame/FramePhase;" w_INPUT (0 : Int32)) (U_ANIMATION : own_En Z Z.heap "com/example/vsyncopate/vsyncopate/frame/FramePhase" "ANIMATION" "Lcom/example/vsyncopate/vsyncopate/frame/FramePhase;" w_ANIMATION (1 : Int32)) (U_INSETS_ANIMATION : own_En Z Z.heap "com/example/vsyncopate/vsyncopate/frame/FramePhase" "INSETS_ANIMATION" "Lcom/example/vsyncopate/vsyncopate/frame/FramePhase;" w_INSETS_ANIMATION (2 : Int32)) (U_TRAVERSAL : own_En Z Z.heap "com/example/vsyncopate/vsyncopate/frame/FramePhase" "TRAVERSAL" "Lcom/example/vsyncopate/vsyncopate/frame/FramePhase;" w_TRAVERSAL (3 : Int32)) (U_COMMIT : own_En Z Z.heap "com/example/vsyncopate/vsyncopate/frame/FramePhase" "COMMIT" "Lcom/example/vsyncopate/vsyncopate/frame/FramePhase;" w_COMMIT (4 : Int32)) (S_PC : Sta Z Z.heap "com/example/vsyncopate/vsyncopate/frame/FrameTiming" "PHASE_COUNT" "I" (.int 5)) :
    MetFree l x (head1 (Jvm.Cond.code x code maxLocals ret :: ws) room_1) (fun a U => a = #[(.long q0), (.long q1), (.long q2), (.long q3), (.long q4), (.int p0)] ∧ Z.Warmed39 U.vm ∧ U.heap = h0) (fun _ _ _ _ _ => True) (fun _ U o U' => ∃ v L, o = .returned v ∧ own_law_Q h0 n0 v U'.heap L ∧ FrameEnd U o U' L 16 128) := by
  have weak : ∀ {P Q : Option Value → Heap → List Loc → Prop}, (∀ v h L, P v h L → Q v h L) → MetFree l x (head1 (Jvm.Cond.code x code maxLocals ret :: ws) room_1) (fun a U => a = #[(.long q0), (.long q1), (.long q2), (.long q3), (.long q4), (.int p0)] ∧ Z.Warmed39 U.vm ∧ U.heap = h0) (fun _ _ _ _ _ => True) (fun _ U o U' => ∃ v L, o = .returned v ∧ P v U'.heap L ∧ FrameEnd U o U' L 16 128) → MetFree l x (head1 (Jvm.Cond.code x code maxLocals ret :: ws) room_1) (fun a U => a = #[(.long q0), (.long q1), (.long q2), (.long q3), (.long q4), (.int p0)] ∧ Z.Warmed39 U.vm ∧ U.heap = h0) (fun _ _ _ _ _ => True) (fun _ U o U' => ∃ v L, o = .returned v ∧ Q v U'.heap L ∧ FrameEnd U o U' L 16 128) := by
    intro P Q hPQ hM p e ha hc hk s m args below hf happ hP hK
    obtain ⟨n, o, h1, h2, h3, v, L, h4, h5, h6⟩ := hM p e ha hc hk s m args below hf happ hP hK
    exact ⟨n, o, h1, h2, h3, v, L, h4, hPQ _ _ _ h5, h6⟩
  rcases own_rem5 p0 with hk | hk | hk | hk | hk
  · exact weak (fun _ _ _ q => ⟨q.1, q.2.1⟩) (own_law0 l Z a0 hw ws w_INPUT w_ANIMATION w_INSETS_ANIMATION w_TRAVERSAL w_COMMIT q0 q1 q2 q3 q4 p0 h0 n0 O0 U_INPUT U_ANIMATION U_INSETS_ANIMATION U_TRAVERSAL U_COMMIT S_PC hk)
  · exact weak (fun _ _ _ q => ⟨q.1, q.2.1⟩) (own_law1 l Z a0 hw ws w_INPUT w_ANIMATION w_INSETS_ANIMATION w_TRAVERSAL w_COMMIT q0 q1 q2 q3 q4 p0 h0 n0 O0 U_INPUT U_ANIMATION U_INSETS_ANIMATION U_TRAVERSAL U_COMMIT S_PC hk)
  · exact weak (fun _ _ _ q => ⟨q.1, q.2.1⟩) (own_law2 l Z a0 hw ws w_INPUT w_ANIMATION w_INSETS_ANIMATION w_TRAVERSAL w_COMMIT q0 q1 q2 q3 q4 p0 h0 n0 O0 U_INPUT U_ANIMATION U_INSETS_ANIMATION U_TRAVERSAL U_COMMIT S_PC hk)
  · exact weak (fun _ _ _ q => ⟨q.1, q.2.1⟩) (own_law3 l Z a0 hw ws w_INPUT w_ANIMATION w_INSETS_ANIMATION w_TRAVERSAL w_COMMIT q0 q1 q2 q3 q4 p0 h0 n0 O0 U_INPUT U_ANIMATION U_INSETS_ANIMATION U_TRAVERSAL U_COMMIT S_PC hk)
  · exact weak (fun _ _ _ q => ⟨q.1, q.2.1⟩) (own_law4 l Z a0 hw ws w_INPUT w_ANIMATION w_INSETS_ANIMATION w_TRAVERSAL w_COMMIT q0 q1 q2 q3 q4 p0 h0 n0 O0 U_INPUT U_ANIMATION U_INSETS_ANIMATION U_TRAVERSAL U_COMMIT S_PC hk)
set_option maxRecDepth 65536 in
set_option maxHeartbeats 40000000 in
theorem comes_1 {Post : Tables → Env → Array Value → State → Outcome → State → Prop} (hpost : ∀ tb e args s v u, (limb_1_1.after args s (.returned v) u = true ∧ limb_1_2.after args s (.returned v) u = true ∧ True) → FrameEnd s (.returned v) u (Jvm.fieldLocs frame_1_writes args s ++ Jvm.arrayLocs frame_1_arrays args s ++ Jvm.staticLocs frame_1_statics s) 16 128 → Post tb e args s (.returned v) u) :
    ArmFor flags0 classFile x code maxLocals ret World_1 tables_1 room_1 Calls_1 rest_1 Pre_1 Post := by
  intro l hfl _ _ p e ha hc hk s m args below hf hA hF happ hP
  obtain ⟨hcalls, hrest, hpre⟩ := hP
  obtain ⟨-, -, -, hnamed, -, -, -, hat⟩ := (Spec.applies_iff hf).mp happ
  obtain ⟨hg, hn⟩ := and_e (Cond.before_iff.mp (show (Jvm.Cond.and given_1 narrow_1).before args s = true from hpre))
  obtain ⟨hq1, hq2⟩ := and_e hg
  obtain ⟨hq3, hq4⟩ := and_e hq2
  obtain ⟨hq5, hq6⟩ := and_e hq4
  obtain ⟨hq7, hq8⟩ := and_e hq6
  obtain ⟨hq9, hq10⟩ := and_e hq8
  obtain ⟨hq11, hq12⟩ := and_e hq10
  obtain ⟨w0, w1, w2, w3, w4, w5, rfl⟩ : ∃ w0 w1 w2 w3 w4 w5 : Value, args = #[w0, w1, w2, w3, w4, w5] := by
    have hs : args.size = 6 := by simpa [Cond.value, given_1] using hq1
    obtain ⟨L⟩ := args
    match L, hs with
    | [w0, w1, w2, w3, w4, w5], _ => exact ⟨w0, w1, w2, w3, w4, w5, rfl⟩
  have hw := fun d (hd : d ∈ tables_1) => atoms_spec (ws := Jvm.Cond.code x code maxLocals ret :: tables_1) hat d (List.mem_cons_of_mem _ hd)
  have hfit : Fit s := fun {y c} hc i hi => by
    obtain ⟨ha, rfl⟩ := Array.getElem?_eq_some_iff.mp hc
    have q := List.all_eq_true.mp ((Array.all_eq_true_iff_forall_mem.mp hF) _ (Array.getElem_mem ha)) i (List.mem_range.mpr hi)
    simpa [Array.getElem?_eq_getElem hi] using q
  obtain ⟨i0, ei0⟩ := isL_v hq3
  obtain rfl : w0 = (.long i0) := Option.some.inj ei0
  obtain ⟨i1, ei1⟩ := isL_v hq5
  obtain rfl : w1 = (.long i1) := Option.some.inj ei1
  obtain ⟨i2, ei2⟩ := isL_v hq7
  obtain rfl : w2 = (.long i2) := Option.some.inj ei2
  obtain ⟨i3, ei3⟩ := isL_v hq9
  obtain rfl : w3 = (.long i3) := Option.some.inj ei3
  obtain ⟨i4, ei4⟩ := isL_v hq11
  obtain rfl : w4 = (.long i4) := Option.some.inj ei4
  obtain ⟨i5, ei5⟩ := is_v hq12
  obtain rfl : w5 = (.int i5) := Option.some.inj ei5
  obtain ⟨hq13, hq14⟩ := and_e hn
  obtain ⟨hq15, hq16⟩ := and_e hq14
  obtain ⟨hq17, hq18⟩ := and_e hq16
  obtain ⟨hq19, hq20⟩ := and_e hq18
  obtain ⟨hq21, hq22⟩ := and_e hq20
  obtain ⟨hq23, hq24⟩ := and_e hq22
  obtain ⟨hq25, hq26⟩ := and_e hq24
  obtain ⟨hq27, hq28⟩ := and_e hq26
  obtain ⟨hq29, hq30⟩ := and_e hq28
  obtain ⟨hq31, hq32⟩ := and_e hq30
  obtain ⟨w_INPUT, ev_INPUT⟩ := exa_v hq19
  have S_INPUT : Sta s s.heap "com/example/vsyncopate/vsyncopate/frame/FramePhase" "INPUT" "Lcom/example/vsyncopate/vsyncopate/frame/FramePhase;" (.ref w_INPUT) := Sta.start ev_INPUT (Or.inr ⟨(hw _ (own_m 6 rfl)), (hw _ (own_m 82 rfl))⟩)
  have E_INPUT : Exa s s.heap w_INPUT "com/example/vsyncopate/vsyncopate/frame/FramePhase" := Exa.start ev_INPUT hq19
  have R_INPUT : Fld s s.heap w_INPUT "java/lang/Enum" "ordinal" "I" (.int (0 : Int32)) := Fld.start ((fld_at ev_INPUT).symm.trans (own_eqI hq21))
  have U_INPUT := And.intro S_INPUT (And.intro E_INPUT R_INPUT)
  obtain ⟨w_ANIMATION, ev_ANIMATION⟩ := exa_v hq27
  have S_ANIMATION : Sta s s.heap "com/example/vsyncopate/vsyncopate/frame/FramePhase" "ANIMATION" "Lcom/example/vsyncopate/vsyncopate/frame/FramePhase;" (.ref w_ANIMATION) := Sta.start ev_ANIMATION (Or.inr ⟨(hw _ (own_m 6 rfl)), (hw _ (own_m 91 rfl))⟩)
  have E_ANIMATION : Exa s s.heap w_ANIMATION "com/example/vsyncopate/vsyncopate/frame/FramePhase" := Exa.start ev_ANIMATION hq27
  have R_ANIMATION : Fld s s.heap w_ANIMATION "java/lang/Enum" "ordinal" "I" (.int (1 : Int32)) := Fld.start ((fld_at ev_ANIMATION).symm.trans (own_eqI hq29))
  have U_ANIMATION := And.intro S_ANIMATION (And.intro E_ANIMATION R_ANIMATION)
  obtain ⟨w_INSETS_ANIMATION, ev_INSETS_ANIMATION⟩ := exa_v hq13
  have S_INSETS_ANIMATION : Sta s s.heap "com/example/vsyncopate/vsyncopate/frame/FramePhase" "INSETS_ANIMATION" "Lcom/example/vsyncopate/vsyncopate/frame/FramePhase;" (.ref w_INSETS_ANIMATION) := Sta.start ev_INSETS_ANIMATION (Or.inr ⟨(hw _ (own_m 6 rfl)), (hw _ (own_m 7 rfl))⟩)
  have E_INSETS_ANIMATION : Exa s s.heap w_INSETS_ANIMATION "com/example/vsyncopate/vsyncopate/frame/FramePhase" := Exa.start ev_INSETS_ANIMATION hq13
  have R_INSETS_ANIMATION : Fld s s.heap w_INSETS_ANIMATION "java/lang/Enum" "ordinal" "I" (.int (2 : Int32)) := Fld.start ((fld_at ev_INSETS_ANIMATION).symm.trans (own_eqI hq17))
  have U_INSETS_ANIMATION := And.intro S_INSETS_ANIMATION (And.intro E_INSETS_ANIMATION R_INSETS_ANIMATION)
  obtain ⟨w_TRAVERSAL, ev_TRAVERSAL⟩ := exa_v hq31
  have S_TRAVERSAL : Sta s s.heap "com/example/vsyncopate/vsyncopate/frame/FramePhase" "TRAVERSAL" "Lcom/example/vsyncopate/vsyncopate/frame/FramePhase;" (.ref w_TRAVERSAL) := Sta.start ev_TRAVERSAL (Or.inr ⟨(hw _ (own_m 6 rfl)), (hw _ (own_m 93 rfl))⟩)
  have E_TRAVERSAL : Exa s s.heap w_TRAVERSAL "com/example/vsyncopate/vsyncopate/frame/FramePhase" := Exa.start ev_TRAVERSAL hq31
  have R_TRAVERSAL : Fld s s.heap w_TRAVERSAL "java/lang/Enum" "ordinal" "I" (.int (3 : Int32)) := Fld.start ((fld_at ev_TRAVERSAL).symm.trans (own_eqI hq32))
  have U_TRAVERSAL := And.intro S_TRAVERSAL (And.intro E_TRAVERSAL R_TRAVERSAL)
  obtain ⟨w_COMMIT, ev_COMMIT⟩ := exa_v hq23
  have S_COMMIT : Sta s s.heap "com/example/vsyncopate/vsyncopate/frame/FramePhase" "COMMIT" "Lcom/example/vsyncopate/vsyncopate/frame/FramePhase;" (.ref w_COMMIT) := Sta.start ev_COMMIT (Or.inr ⟨(hw _ (own_m 6 rfl)), (hw _ (own_m 89 rfl))⟩)
  have E_COMMIT : Exa s s.heap w_COMMIT "com/example/vsyncopate/vsyncopate/frame/FramePhase" := Exa.start ev_COMMIT hq23
  have R_COMMIT : Fld s s.heap w_COMMIT "java/lang/Enum" "ordinal" "I" (.int (4 : Int32)) := Fld.start ((fld_at ev_COMMIT).symm.trans (own_eqI hq25))
  have U_COMMIT := And.intro S_COMMIT (And.intro E_COMMIT R_COMMIT)
  have S_PC : Sta s s.heap "com/example/vsyncopate/vsyncopate/frame/FrameTiming" "PHASE_COUNT" "I" (.int (5 : Int32)) := Sta.start (own_eqI hq15) (Or.inr ⟨(hw _ (own_m 10 rfl)), (hw _ (own_m 18 rfl))⟩)
  obtain ⟨n, o, h1, h2, h3, _, L, rfl, ⟨rfl, N⟩, hq⟩ := own_law l s _ hw tables_1 w_INPUT w_ANIMATION w_INSETS_ANIMATION w_TRAVERSAL w_COMMIT i0 i1 i2 i3 i4 i5 s.heap s.heap.size (Old.start s) U_INPUT U_ANIMATION U_INSETS_ANIMATION U_TRAVERSAL U_COMMIT S_PC p e ha hc hk s m _ below hf ((Spec.applies_iff_loose hf).mp happ).1 ⟨rfl, State.Warmed39.refl s, rfl⟩ trivial
  refine ⟨n, _, h1, h2, h3, hpost _ _ _ _ _ _ ⟨Cond.after_iff.mpr rfl, Cond.after_iff.mpr (eq_i res_at (Term.int_eval (1)) rfl), trivial⟩ ⟨hq.1, hq.2.1, (hq.2.2.sift fun y hy => Or.inr (N y hy)).mono (by decide) (by decide)⟩⟩
theorem main_1_1 : Claimed_1_1 := comes_1 fun _ _ _ _ _ _ h hF => ⟨h.1, hF⟩
theorem main_1_2 : Claimed_1_2 := comes_1 fun _ _ _ _ _ _ h hF => ⟨h.2.1, hF⟩
end Jvm.Pilot.@@N@@
namespace Jvm.Pilot.@@N@@
open Jvm Jvm.ClassFile Sem Op Lib Jvm.Free Jvm.Stand Jvm.Pilot.@@N@@.Jvm.D
/-! MADE BY PROGRAM (witnessworld.py) out of the Statement's table words and the real class files: 15 classes; the members and pool entries that the words name. The judged class is class 1, her method 2. -/
namespace start1
open Jvm.ClassFile
def u (s : String) : CpInfo := .utf8 (stringToUtf16 s)
/-- a pool by its gaps: so many unusable entries, then the entry; so many at the end -/
def gap : Nat → List CpInfo → List CpInfo
  | 0, r => r
  | n + 1, r => .unusable :: gap n r
def poolList (es : List (Nat × CpInfo)) (last : Nat) : List CpInfo := es.foldr (fun e r => gap e.1 (e.2 :: r)) (gap last [])
def pool (es : List (Nat × CpInfo)) (last : Nat) : Array CpInfo := ⟨poolList es last⟩
def fileOf (pool : Array CpInfo) (this : Nat) (attrs : Array Attribute := #[]) (ms : Array MethodInfo := #[]) (fl : Nat := 33) (sup : Nat := 0) (ifs : Array Nat := #[]) (fds : Array FieldInfo := #[]) : ClassFile where
  minorVersion := 0
  majorVersion := 65
  constantPool := pool
  accessFlags := fl
  thisClass := this
  superClass := sup
  interfaces := ifs
  fields := fds
  methods := ms
  attributes := attrs
def plain (name : String) (sup : Option ClassId) : Class where
  name := name
  kind := .ordinary
  loader := none
  accessFlags := 33
  super := sup
  interfaces := #[]
  cf := none
  fields := #[]
  methods := #[]
  instanceTypes := #[]
  staticTypes := #[]
  resolved := #[]
  callSites := []
  init := .initialized
  statics := none
  mirror := none

def pool0 : Array CpInfo := pool [(5, u "<init>"), (0, u "()V"), (1, .class_ 10), (1, u "java/lang/Object")] 113

def k0c0 : Code := { maxStack := 0, maxLocals := 1, code := object_method_1_code, exceptionTable := #[], attributes := #[] }
def k0m0 : Method := { name := "<init>", desc := "()V", sig := { parameters := [], returnType := none }, accessFlags := 1, code := some k0c0 }
/-- java/lang/Object -/
def k0 : Class := { plain "java/lang/Object" none with
  accessFlags := 33
  interfaces := #[]
  cf := some (fileOf pool0 8 #[] #[{ accessFlags := 1, nameIndex := 5, descriptorIndex := 6, attributes := #[] }] 33 0 #[] #[])
  fields := #[]
  methods := #[k0m0]
  instanceTypes := #[]
  staticTypes := #[]
  resolved := Array.replicate 124 none
  statics := none }

def pool1 : Array CpInfo := pool [(2, .class_ 4), (0, .nameAndType 5 6), (0, u "java/lang/Object"), (0, u "<init>"), (0, u "()V"), (0, .fieldref 8 9), (0, .class_ 10), (0, .nameAndType 11 12), (0, u "com/example/vsyncopate/vsyncopate/frame/FramePhase"), (0, u "INPUT"), (0, u "Lcom/example/vsyncopate/vsyncopate/frame/FramePhase;"), (0, .fieldref 8 14), (0, .nameAndType 15 12), (0, u "ANIMATION"), (0, .fieldref 8 17), (0, .nameAndType 18 12), (0, u "INSETS_ANIMATION"), (0, .fieldref 8 20), (0, .nameAndType 21 12), (0, u "TRAVERSAL"), (0, .fieldref 8 23), (0, .nameAndType 24 12), (0, u "COMMIT"), (0, .integer 2147483647), (0, .methodref 27 28), (0, .class_ 29), (0, .nameAndType 30 31), (0, u "com/example/vsyncopate/vsyncopate/frame/FrameTimingFrameBeginsPinLaw"), (0, u "pick"), (0, u "(I)Lcom/example/vsyncopate/vsyncopate/frame/FramePhase;"), (0, .class_ 33), (0, u "com/example/vsyncopate/vsyncopate/frame/FrameTiming"), (0, .methodref 32 3), (0, .methodref 32 36), (0, .nameAndType 37 38), (0, u "frameBegins"), (0, u "(JJJJJ)V"), (0, .methodref 32 40), (0, .nameAndType 41 42), (0, u "phaseBegins"), (0, u "(Lcom/example/vsyncopate/vsyncopate/frame/FramePhase;J)V"), (0, .methodref 32 44), (0, .nameAndType 45 46), (0, u "frameNumber"), (0, u "()J"), (0, .methodref 32 48), (0, .nameAndType 49 46), (0, u "pulseTimeNanos"), (0, .methodref 32 51), (0, .nameAndType 52 46), (0, u "frameTimeNanos"), (0, .methodref 32 54), (0, .nameAndType 55 46), (0, u "skippedFrames"), (0, .methodref 32 57), (0, .nameAndType 58 46), (0, u "beganNanos"), (0, .methodref 32 60), (0, .nameAndType 61 62), (0, u "phaseBegan"), (0, u "(Lcom/example/vsyncopate/vsyncopate/frame/FramePhase;)Z"), (3, u "law"), (0, u "(JJJJJI)Z")] 2

def k1m0 : Method := { name := "<init>", desc := "()V", sig := { parameters := [], returnType := none }, accessFlags := 2, code := none }
def k1c1 : Code := { maxStack := 2, maxLocals := 1, code := method_2_code, exceptionTable := #[], attributes := #[] }
def k1m1 : Method := { name := "pick", desc := "(I)Lcom/example/vsyncopate/vsyncopate/frame/FramePhase;", sig := { parameters := [.int], returnType := some (.object "com/example/vsyncopate/vsyncopate/frame/FramePhase") }, accessFlags := 10, code := some k1c1 }
def k1c2 : Code := { maxStack := 11, maxLocals := 15, code := code, exceptionTable := #[], attributes := #[] }
def k1m2 : Method := { name := "law", desc := "(JJJJJI)Z", sig := { parameters := [.long, .long, .long, .long, .long, .int], returnType := some .boolean }, accessFlags := 9, code := some k1c2 }
/-- com/example/vsyncopate/vsyncopate/frame/FrameTimingFrameBeginsPinLaw -/
def k1 : Class := { plain "com/example/vsyncopate/vsyncopate/frame/FrameTimingFrameBeginsPinLaw" (some 0) with
  accessFlags := 49
  interfaces := #[]
  cf := some (fileOf pool1 27 #[] #[{ accessFlags := 2, nameIndex := 5, descriptorIndex := 6, attributes := #[] }, { accessFlags := 10, nameIndex := 30, descriptorIndex := 31, attributes := #[] }, { accessFlags := 9, nameIndex := 66, descriptorIndex := 67, attributes := #[] }] 49 2 #[] #[])
  fields := #[]
  methods := #[k1m0, k1m1, k1m2]
  instanceTypes := #[]
  staticTypes := #[]
  resolved := Array.replicate 70 none
  statics := none }

def pool2 : Array CpInfo := pool [(1, .class_ 2), (0, u "java/lang/constant/Constable"), (0, .class_ 4), (0, u "java/lang/Object")] 6

/-- java/lang/constant/Constable -/
def k2 : Class := { plain "java/lang/constant/Constable" (some 0) with
  accessFlags := 1537
  interfaces := #[]
  cf := some (fileOf pool2 1 #[] #[] 1537 3 #[] #[])
  fields := #[]
  methods := #[]
  instanceTypes := #[]
  staticTypes := #[]
  resolved := Array.replicate 11 none
  statics := none }

def pool3 : Array CpInfo := pool [(1, .class_ 2), (0, u "java/lang/Comparable"), (0, .class_ 4), (0, u "java/lang/Object")] 7

/-- java/lang/Comparable -/
def k3 : Class := { plain "java/lang/Comparable" (some 0) with
  accessFlags := 1537
  interfaces := #[]
  cf := some (fileOf pool3 1 #[] #[] 1537 3 #[] #[])
  fields := #[]
  methods := #[]
  instanceTypes := #[]
  staticTypes := #[]
  resolved := Array.replicate 12 none
  statics := none }

def pool4 : Array CpInfo := pool [(1, .class_ 2), (0, u "java/io/Serializable"), (0, .class_ 4), (0, u "java/lang/Object")] 2

/-- java/io/Serializable -/
def k4 : Class := { plain "java/io/Serializable" (some 0) with
  accessFlags := 1537
  interfaces := #[]
  cf := some (fileOf pool4 1 #[] #[] 1537 3 #[] #[])
  fields := #[]
  methods := #[]
  instanceTypes := #[]
  staticTypes := #[]
  resolved := Array.replicate 7 none
  statics := none }

def pool5 : Array CpInfo := pool [(2, .class_ 4), (1, u "java/lang/Enum"), (0, u "name"), (0, u "Ljava/lang/String;"), (0, .fieldref 2 8), (0, .nameAndType 9 10), (0, u "ordinal"), (0, u "I"), (1, .class_ 14), (1, u "java/lang/Object"), (4, u "hash"), (86, .class_ 108), (1, u "java/lang/Enum$EnumDesc"), (2, .class_ 112), (0, u "java/lang/constant/Constable"), (0, .class_ 114), (0, u "java/lang/Comparable"), (0, .class_ 116), (0, u "java/io/Serializable"), (9, u "()I")] 77

def k5c0 : Code := { maxStack := 1, maxLocals := 1, code := jdk_37_method_2_code, exceptionTable := #[], attributes := #[] }
def k5m0 : Method := { name := "ordinal", desc := "()I", sig := { parameters := [], returnType := some .int }, accessFlags := 17, code := some k5c0 }
/-- java/lang/Enum -/
def k5 : Class := { plain "java/lang/Enum" (some 0) with
  accessFlags := 1057
  interfaces := #[2, 3, 4]
  cf := some (fileOf pool5 2 #[.nestMembers #[106]] #[{ accessFlags := 17, nameIndex := 9, descriptorIndex := 126, attributes := #[] }] 1057 12 #[111, 113, 115] #[{ accessFlags := 18, nameIndex := 5, descriptorIndex := 6, attributes := #[] }, { accessFlags := 18, nameIndex := 9, descriptorIndex := 10, attributes := #[] }, { accessFlags := 2, nameIndex := 19, descriptorIndex := 10, attributes := #[] }])
  fields := #[{ name := "name", type := (.object "java/lang/String"), accessFlags := 18, slot := 0, constantValue := 0 }, { name := "ordinal", type := .int, accessFlags := 18, slot := 1, constantValue := 0 }, { name := "hash", type := .int, accessFlags := 2, slot := 2, constantValue := 0 }]
  methods := #[k5m0]
  instanceTypes := #[(.object "java/lang/String"), .int, .int]
  staticTypes := #[]
  resolved := Array.replicate 204 none
  statics := none }

def pool6 : Array CpInfo := pool [(1, .class_ 2), (0, u "com/example/vsyncopate/vsyncopate/frame/FramePhase"), (2, u "INPUT"), (0, u "Lcom/example/vsyncopate/vsyncopate/frame/FramePhase;"), (2, u "ANIMATION"), (2, u "INSETS_ANIMATION"), (2, u "TRAVERSAL"), (2, u "COMMIT"), (2, u "$VALUES"), (0, u "[Lcom/example/vsyncopate/vsyncopate/frame/FramePhase;"), (6, .class_ 31), (1, u "java/lang/Enum")] 27

/-- com/example/vsyncopate/vsyncopate/frame/FramePhase -/
def k6 : Class := { plain "com/example/vsyncopate/vsyncopate/frame/FramePhase" (some 5) with
  accessFlags := 16433
  interfaces := #[]
  cf := some (fileOf pool6 1 #[] #[] 16433 29 #[] #[{ accessFlags := 16409, nameIndex := 5, descriptorIndex := 6, attributes := #[] }, { accessFlags := 16409, nameIndex := 9, descriptorIndex := 6, attributes := #[] }, { accessFlags := 16409, nameIndex := 12, descriptorIndex := 6, attributes := #[] }, { accessFlags := 16409, nameIndex := 15, descriptorIndex := 6, attributes := #[] }, { accessFlags := 16409, nameIndex := 18, descriptorIndex := 6, attributes := #[] }, { accessFlags := 4122, nameIndex := 21, descriptorIndex := 22, attributes := #[] }])
  fields := #[{ name := "INPUT", type := (.object "com/example/vsyncopate/vsyncopate/frame/FramePhase"), accessFlags := 16409, slot := 0, constantValue := 0 }, { name := "ANIMATION", type := (.object "com/example/vsyncopate/vsyncopate/frame/FramePhase"), accessFlags := 16409, slot := 1, constantValue := 0 }, { name := "INSETS_ANIMATION", type := (.object "com/example/vsyncopate/vsyncopate/frame/FramePhase"), accessFlags := 16409, slot := 2, constantValue := 0 }, { name := "TRAVERSAL", type := (.object "com/example/vsyncopate/vsyncopate/frame/FramePhase"), accessFlags := 16409, slot := 3, constantValue := 0 }, { name := "COMMIT", type := (.object "com/example/vsyncopate/vsyncopate/frame/FramePhase"), accessFlags := 16409, slot := 4, constantValue := 0 }, { name := "$VALUES", type := (.array (.object "com/example/vsyncopate/vsyncopate/frame/FramePhase")), accessFlags := 4122, slot := 5, constantValue := 0 }]
  methods := #[]
  instanceTypes := #[(.object "java/lang/String"), .int, .int]
  staticTypes := #[(.object "com/example/vsyncopate/vsyncopate/frame/FramePhase"), (.object "com/example/vsyncopate/vsyncopate/frame/FramePhase"), (.object "com/example/vsyncopate/vsyncopate/frame/FramePhase"), (.object "com/example/vsyncopate/vsyncopate/frame/FramePhase"), (.object "com/example/vsyncopate/vsyncopate/frame/FramePhase"), (.array (.object "com/example/vsyncopate/vsyncopate/frame/FramePhase"))]
  resolved := Array.replicate 59 none
  statics := some 0 }

def pool7 : Array CpInfo := pool [(1, .methodref 2 3), (0, .class_ 4), (0, .nameAndType 5 6), (0, u "java/lang/Object"), (0, u "<init>"), (0, u "()V"), (0, .fieldref 8 9), (0, .class_ 10), (0, .nameAndType 11 12), (0, u "com/example/vsyncopate/vsyncopate/frame/FrameTiming"), (0, u "PHASE_COUNT"), (0, u "I"), (0, .fieldref 8 14), (0, .nameAndType 15 16), (0, u "phaseBeganNanos"), (0, u "[J"), (0, .fieldref 8 18), (0, .nameAndType 19 20), (0, u "phaseCallbacks"), (0, u "[I"), (0, .fieldref 8 22), (0, .nameAndType 23 24), (0, u "frameNumber"), (0, u "J"), (0, .fieldref 8 26), (0, .nameAndType 27 24), (0, u "pulseTimeNanos"), (0, .fieldref 8 29), (0, .nameAndType 30 24), (0, u "frameTimeNanos"), (0, .fieldref 8 32), (0, .nameAndType 33 24), (0, u "skippedFrames"), (0, .fieldref 8 35), (0, .nameAndType 36 24), (0, u "beganNanos"), (0, .methodref 38 39), (0, .class_ 40), (0, .nameAndType 41 42), (0, u "com/example/vsyncopate/vsyncopate/frame/FramePhase"), (0, u "ordinal"), (0, u "()I"), (0, .fieldref 8 44), (0, .nameAndType 45 12), (0, u "phasesBegun"), (6, u "endedNanos"), (2, u "phaseBegan"), (0, u "(Lcom/example/vsyncopate/vsyncopate/frame/FramePhase;)Z"), (21, u "()J"), (5, u "frameBegins"), (0, u "(JJJJJ)V"), (0, u "phaseBegins"), (0, u "(Lcom/example/vsyncopate/vsyncopate/frame/FramePhase;J)V")] 21

def k7c0 : Code := { maxStack := 2, maxLocals := 1, code := prog_20_method_1_code, exceptionTable := #[], attributes := #[] }
def k7m0 : Method := { name := "<init>", desc := "()V", sig := { parameters := [], returnType := none }, accessFlags := 0, code := some k7c0 }
def k7c1 : Code := { maxStack := 2, maxLocals := 1, code := prog_20_method_2_code, exceptionTable := #[], attributes := #[] }
def k7m1 : Method := { name := "frameNumber", desc := "()J", sig := { parameters := [], returnType := some .long }, accessFlags := 1, code := some k7c1 }
def k7c2 : Code := { maxStack := 2, maxLocals := 1, code := prog_20_method_3_code, exceptionTable := #[], attributes := #[] }
def k7m2 : Method := { name := "pulseTimeNanos", desc := "()J", sig := { parameters := [], returnType := some .long }, accessFlags := 1, code := some k7c2 }
def k7c3 : Code := { maxStack := 2, maxLocals := 1, code := prog_20_method_4_code, exceptionTable := #[], attributes := #[] }
def k7m3 : Method := { name := "frameTimeNanos", desc := "()J", sig := { parameters := [], returnType := some .long }, accessFlags := 1, code := some k7c3 }
def k7c4 : Code := { maxStack := 2, maxLocals := 1, code := prog_20_method_5_code, exceptionTable := #[], attributes := #[] }
def k7m4 : Method := { name := "skippedFrames", desc := "()J", sig := { parameters := [], returnType := some .long }, accessFlags := 1, code := some k7c4 }
def k7c5 : Code := { maxStack := 2, maxLocals := 1, code := prog_20_method_6_code, exceptionTable := #[], attributes := #[] }
def k7m5 : Method := { name := "beganNanos", desc := "()J", sig := { parameters := [], returnType := some .long }, accessFlags := 1, code := some k7c5 }
def k7c6 : Code := { maxStack := 2, maxLocals := 2, code := prog_20_method_7_code, exceptionTable := #[], attributes := #[] }
def k7m6 : Method := { name := "phaseBegan", desc := "(Lcom/example/vsyncopate/vsyncopate/frame/FramePhase;)Z", sig := { parameters := [(.object "com/example/vsyncopate/vsyncopate/frame/FramePhase")], returnType := some .boolean }, accessFlags := 1, code := some k7c6 }
def k7c7 : Code := { maxStack := 3, maxLocals := 11, code := prog_20_method_12_code, exceptionTable := #[], attributes := #[] }
def k7m7 : Method := { name := "frameBegins", desc := "(JJJJJ)V", sig := { parameters := [.long, .long, .long, .long, .long], returnType := none }, accessFlags := 0, code := some k7c7 }
def k7c8 : Code := { maxStack := 4, maxLocals := 4, code := prog_20_method_13_code, exceptionTable := #[], attributes := #[] }
def k7m8 : Method := { name := "phaseBegins", desc := "(Lcom/example/vsyncopate/vsyncopate/frame/FramePhase;J)V", sig := { parameters := [(.object "com/example/vsyncopate/vsyncopate/frame/FramePhase"), .long], returnType := none }, accessFlags := 0, code := some k7c8 }
/-- com/example/vsyncopate/vsyncopate/frame/FrameTiming -/
def k7 : Class := { plain "com/example/vsyncopate/vsyncopate/frame/FrameTiming" (some 0) with
  accessFlags := 49
  interfaces := #[]
  cf := some (fileOf pool7 8 #[] #[{ accessFlags := 0, nameIndex := 5, descriptorIndex := 6, attributes := #[] }, { accessFlags := 1, nameIndex := 23, descriptorIndex := 78, attributes := #[] }, { accessFlags := 1, nameIndex := 27, descriptorIndex := 78, attributes := #[] }, { accessFlags := 1, nameIndex := 30, descriptorIndex := 78, attributes := #[] }, { accessFlags := 1, nameIndex := 33, descriptorIndex := 78, attributes := #[] }, { accessFlags := 1, nameIndex := 36, descriptorIndex := 78, attributes := #[] }, { accessFlags := 1, nameIndex := 55, descriptorIndex := 56, attributes := #[] }, { accessFlags := 0, nameIndex := 84, descriptorIndex := 85, attributes := #[] }, { accessFlags := 0, nameIndex := 86, descriptorIndex := 87, attributes := #[] }] 49 2 #[] #[{ accessFlags := 26, nameIndex := 11, descriptorIndex := 12, attributes := #[] }, { accessFlags := 18, nameIndex := 15, descriptorIndex := 16, attributes := #[] }, { accessFlags := 18, nameIndex := 19, descriptorIndex := 20, attributes := #[] }, { accessFlags := 2, nameIndex := 45, descriptorIndex := 12, attributes := #[] }, { accessFlags := 2, nameIndex := 23, descriptorIndex := 24, attributes := #[] }, { accessFlags := 2, nameIndex := 27, descriptorIndex := 24, attributes := #[] }, { accessFlags := 2, nameIndex := 30, descriptorIndex := 24, attributes := #[] }, { accessFlags := 2, nameIndex := 33, descriptorIndex := 24, attributes := #[] }, { accessFlags := 2, nameIndex := 36, descriptorIndex := 24, attributes := #[] }, { accessFlags := 2, nameIndex := 52, descriptorIndex := 24, attributes := #[] }])
  fields := #[{ name := "PHASE_COUNT", type := .int, accessFlags := 26, slot := 0, constantValue := 0 }, { name := "phaseBeganNanos", type := (.array .long), accessFlags := 18, slot := 0, constantValue := 0 }, { name := "phaseCallbacks", type := (.array .int), accessFlags := 18, slot := 1, constantValue := 0 }, { name := "phasesBegun", type := .int, accessFlags := 2, slot := 2, constantValue := 0 }, { name := "frameNumber", type := .long, accessFlags := 2, slot := 3, constantValue := 0 }, { name := "pulseTimeNanos", type := .long, accessFlags := 2, slot := 4, constantValue := 0 }, { name := "frameTimeNanos", type := .long, accessFlags := 2, slot := 5, constantValue := 0 }, { name := "skippedFrames", type := .long, accessFlags := 2, slot := 6, constantValue := 0 }, { name := "beganNanos", type := .long, accessFlags := 2, slot := 7, constantValue := 0 }, { name := "endedNanos", type := .long, accessFlags := 2, slot := 8, constantValue := 0 }]
  methods := #[k7m0, k7m1, k7m2, k7m3, k7m4, k7m5, k7m6, k7m7, k7m8]
  instanceTypes := #[(.array .long), (.array .int), .int, .long, .long, .long, .long, .long, .long]
  staticTypes := #[.int]
  resolved := Array.replicate 109 none
  statics := some 1 }

def pool8 : Array CpInfo := pool [(1, u "java/lang/Cloneable"), (0, .class_ 1), (0, u "java/lang/Object"), (0, .class_ 3)] 3

/-- java/lang/Cloneable -/
def k8 : Class := { plain "java/lang/Cloneable" (some 0) with
  accessFlags := 1537
  interfaces := #[]
  cf := some (fileOf pool8 2 #[] #[] 1537 4 #[] #[])
  fields := #[]
  methods := #[]
  instanceTypes := #[]
  staticTypes := #[]
  resolved := Array.replicate 8 none
  statics := none }

/-- the primitive byte -/
def k9 : Class := { plain "byte" none with kind := .primitive 'B', accessFlags := 0x411 }
/-- [B -/
def k10 : Class := { plain "[B" (some 0) with kind := .array 9 .byte, interfaces := #[8, 4], accessFlags := 1041 }

/-- the primitive int -/
def k11 : Class := { plain "int" none with kind := .primitive 'I', accessFlags := 0x411 }
/-- [I -/
def k12 : Class := { plain "[I" (some 0) with kind := .array 11 .int, interfaces := #[8, 4], accessFlags := 1041 }

/-- the primitive long -/
def k13 : Class := { plain "long" none with kind := .primitive 'J', accessFlags := 0x411 }
/-- [J -/
def k14 : Class := { plain "[J" (some 0) with kind := .array 13 .long, interfaces := #[8, 4], accessFlags := 1041 }

def heap : Heap := #[{ cls := 6, slots := #[.ref 3, .ref 5, .ref 2, .ref 6, .ref 4, .null], vm := .statics 6 },
  { cls := 7, slots := #[.int 5], vm := .statics 7 },
  { cls := 6, slots := #[.null, .int 2, .int 0], vm := .none },
  { cls := 6, slots := #[.null, .int 0, .int 0], vm := .none },
  { cls := 6, slots := #[.null, .int 4, .int 0], vm := .none },
  { cls := 6, slots := #[.null, .int 1, .int 0], vm := .none },
  { cls := 6, slots := #[.null, .int 3, .int 0], vm := .none }]
def classes : Array Class := #[k0, k1, k2, k3, k4, k5, k6, k7, k8, k9, k10, k11, k12, k13, k14]
def interned : List (Array UInt16 × Addr) := []
def slotsUsed : Nat := 22
def theMethod : MethodId := ⟨1, 2⟩
def args0 : Array Value := #[.long 5, .long 6, .long 7, .long 8, .long 9, .int 10]
def aboutOver (below : List Frame) : State where
  vm := { classes := classes, interned := interned.toArray }
  heap := heap
  slotsUsed := slotsUsed
  threads := #[{ frames := .invoking theMethod args0 :: below }]
def below0 : List Frame := [.native { method := ⟨0, 0⟩, args := #[] }]
def about1 : State := aboutOver below0
def p0 : Program := .bare "" "" ""
def e0 : Env := launch0.env 0 0 0
theorem w_frames : about1.frames = Frame.invoking theMethod args0 :: below0 := rfl
set_option maxRecDepth 65536 in
theorem w_args : argsFit about1.vm theMethod args0 = true := by decide +kernel
set_option maxRecDepth 65536 in
theorem w_heap : heapFits about1 = true := by decide +kernel
set_option maxRecDepth 65536 in
theorem w_runnable : about1.curStatus? = some .runnable := by decide +kernel
set_option maxRecDepth 65536 in
theorem w_alone : about1.alone = true := by decide +kernel
set_option maxRecDepth 65536 in
theorem w_named : about1.methodNamed? x = some theMethod := by decide +kernel
set_option maxRecDepth 65536 in
theorem w_hears : about1.hears theMethod below0 = true := by decide +kernel
set_option maxRecDepth 65536 in
theorem w_ripe : about1.ripe theMethod args0 below0 = true := by decide +kernel
theorem w_running : about1.status = .running := rfl
set_option maxRecDepth 65536 in
theorem w_room : about1.hasRoom e0.platform room_1 = true :=
  launch0.hasRoom_least _ room_1 (by decide +kernel) (by decide +kernel) (by decide +kernel) (by decide +kernel) (by decide +kernel) (by decide +kernel)
theorem allAtoms_all (ts : List Jvm.Cond) (a : Array Jvm.Value) (st : Jvm.State) : (allAtoms ts).before a st = ts.all (fun c => c.before a st) := by
  induction ts with
  | nil => rfl
  | cons c t ih =>
    show (Jvm.Cond.and c (allAtoms t)).before a st = _
    rw [Jvm.Cond.before_and, ih, List.all_cons]
def words1 : List Jvm.Cond := Jvm.Cond.code x code maxLocals ret :: tables_1
/-- a 'code' word, met by the world's own term for the bytes: nothing is compared byte by byte -/
theorem code_word {y : MethodName} {bytes : ByteArray} {mx : Nat} {rt : Option FieldType} {a : Array Value} {s : State} {m : MethodId} {meth : Method} {c : Code} (h1 : s.methodNamed? y = some m) (h2 : s.vm.method? m = some meth) (h3 : meth.code = some c) (h4 : c.code = bytes)
    (h5 : (c.maxLocals == mx && c.exceptionTable.isEmpty && decide (c.maxStack ≤ mostOperands) && decide (meth.sig.returnType = rt) && !meth.locks && decide (parseMethodDescriptor y.desc = some meth.sig)) = true) : (Jvm.Cond.code y bytes mx rt).before a s = true := by
  simp only [Bool.and_eq_true, beq_iff_eq, Bool.not_eq_true', decide_eq_true_eq] at h5
  obtain ⟨⟨⟨⟨⟨g1, g2⟩, g3⟩, g4⟩, g5⟩, g6⟩ := h5
  simp [Cond.before, Cond.holds, Cond.value, h1, h2, h3, h4, g1, g2, g3, g4, g5, g6]
def isCode : Jvm.Cond → Bool
  | .code _ _ _ _ => true
  | _ => false
theorem all_split {L : List Jvm.Cond} {P : Jvm.Cond → Bool} (h1 : L.all (fun c => isCode c || P c) = true) (h2 : ∀ c ∈ L.filter isCode, P c = true) : L.all P = true := by
  refine List.all_eq_true.mpr fun c hc => ?_
  have h := List.all_eq_true.mp h1 c hc
  rcases Bool.eq_false_or_eq_true (isCode c) with hi | hi
  · exact h2 c (List.mem_filter.mpr ⟨hc, hi⟩)
  · simpa [hi] using h
set_option maxRecDepth 65536 in
theorem w_c0 : (Jvm.Cond.code x code maxLocals ret).before args0 about1 = true := code_word (m := ⟨1, 2⟩) (meth := k1m2) (c := k1c2) (by decide +kernel) rfl rfl rfl (by decide +kernel)
set_option maxRecDepth 65536 in
theorem w_c1 : (Jvm.Cond.code ({ cls := "com/example/vsyncopate/vsyncopate/frame/FrameTimingFrameBeginsPinLaw", name := "pick", desc := "(I)Lcom/example/vsyncopate/vsyncopate/frame/FramePhase;" } : Jvm.MethodName) method_2_code (1 : Nat) (Option.some (Jvm.ClassFile.FieldType.object "com/example/vsyncopate/vsyncopate/frame/FramePhase"))).before args0 about1 = true := code_word (m := ⟨1, 1⟩) (meth := k1m1) (c := k1c1) (by decide +kernel) rfl rfl rfl (by decide +kernel)
set_option maxRecDepth 65536 in
theorem w_c2 : (Jvm.Cond.code ({ cls := "com/example/vsyncopate/vsyncopate/frame/FrameTiming", name := "<init>", desc := "()V" } : Jvm.MethodName) prog_20_method_1_code (1 : Nat) (Option.none : Option Jvm.ClassFile.FieldType)).before args0 about1 = true := code_word (m := ⟨7, 0⟩) (meth := k7m0) (c := k7c0) (by decide +kernel) rfl rfl rfl (by decide +kernel)
set_option maxRecDepth 65536 in
theorem w_c3 : (Jvm.Cond.code ({ cls := "java/lang/Object", name := "<init>", desc := "()V" } : Jvm.MethodName) object_method_1_code (1 : Nat) (Option.none : Option Jvm.ClassFile.FieldType)).before args0 about1 = true := code_word (m := ⟨0, 0⟩) (meth := k0m0) (c := k0c0) (by decide +kernel) rfl rfl rfl (by decide +kernel)
set_option maxRecDepth 65536 in
theorem w_c4 : (Jvm.Cond.code ({ cls := "com/example/vsyncopate/vsyncopate/frame/FrameTiming", name := "frameBegins", desc := "(JJJJJ)V" } : Jvm.MethodName) prog_20_method_12_code (11 : Nat) (Option.none : Option Jvm.ClassFile.FieldType)).before args0 about1 = true := code_word (m := ⟨7, 7⟩) (meth := k7m7) (c := k7c7) (by decide +kernel) rfl rfl rfl (by decide +kernel)
set_option maxRecDepth 65536 in
theorem w_c5 : (Jvm.Cond.code ({ cls := "com/example/vsyncopate/vsyncopate/frame/FrameTiming", name := "phaseBegins", desc := "(Lcom/example/vsyncopate/vsyncopate/frame/FramePhase;J)V" } : Jvm.MethodName) prog_20_method_13_code (4 : Nat) (Option.none : Option Jvm.ClassFile.FieldType)).before args0 about1 = true := code_word (m := ⟨7, 8⟩) (meth := k7m8) (c := k7c8) (by decide +kernel) rfl rfl rfl (by decide +kernel)
set_option maxRecDepth 65536 in
theorem w_c6 : (Jvm.Cond.code ({ cls := "java/lang/Enum", name := "ordinal", desc := "()I" } : Jvm.MethodName) jdk_37_method_2_code (1 : Nat) (Option.some Jvm.ClassFile.FieldType.int)).before args0 about1 = true := code_word (m := ⟨5, 0⟩) (meth := k5m0) (c := k5c0) (by decide +kernel) rfl rfl rfl (by decide +kernel)
set_option maxRecDepth 65536 in
theorem w_c7 : (Jvm.Cond.code ({ cls := "com/example/vsyncopate/vsyncopate/frame/FrameTiming", name := "frameNumber", desc := "()J" } : Jvm.MethodName) prog_20_method_2_code (1 : Nat) (Option.some Jvm.ClassFile.FieldType.long)).before args0 about1 = true := code_word (m := ⟨7, 1⟩) (meth := k7m1) (c := k7c1) (by decide +kernel) rfl rfl rfl (by decide +kernel)
set_option maxRecDepth 65536 in
theorem w_c8 : (Jvm.Cond.code ({ cls := "com/example/vsyncopate/vsyncopate/frame/FrameTiming", name := "pulseTimeNanos", desc := "()J" } : Jvm.MethodName) prog_20_method_3_code (1 : Nat) (Option.some Jvm.ClassFile.FieldType.long)).before args0 about1 = true := code_word (m := ⟨7, 2⟩) (meth := k7m2) (c := k7c2) (by decide +kernel) rfl rfl rfl (by decide +kernel)
set_option maxRecDepth 65536 in
theorem w_c9 : (Jvm.Cond.code ({ cls := "com/example/vsyncopate/vsyncopate/frame/FrameTiming", name := "frameTimeNanos", desc := "()J" } : Jvm.MethodName) prog_20_method_4_code (1 : Nat) (Option.some Jvm.ClassFile.FieldType.long)).before args0 about1 = true := code_word (m := ⟨7, 3⟩) (meth := k7m3) (c := k7c3) (by decide +kernel) rfl rfl rfl (by decide +kernel)
set_option maxRecDepth 65536 in
theorem w_c10 : (Jvm.Cond.code ({ cls := "com/example/vsyncopate/vsyncopate/frame/FrameTiming", name := "skippedFrames", desc := "()J" } : Jvm.MethodName) prog_20_method_5_code (1 : Nat) (Option.some Jvm.ClassFile.FieldType.long)).before args0 about1 = true := code_word (m := ⟨7, 4⟩) (meth := k7m4) (c := k7c4) (by decide +kernel) rfl rfl rfl (by decide +kernel)
set_option maxRecDepth 65536 in
theorem w_c11 : (Jvm.Cond.code ({ cls := "com/example/vsyncopate/vsyncopate/frame/FrameTiming", name := "beganNanos", desc := "()J" } : Jvm.MethodName) prog_20_method_6_code (1 : Nat) (Option.some Jvm.ClassFile.FieldType.long)).before args0 about1 = true := code_word (m := ⟨7, 5⟩) (meth := k7m5) (c := k7c5) (by decide +kernel) rfl rfl rfl (by decide +kernel)
set_option maxRecDepth 65536 in
theorem w_c12 : (Jvm.Cond.code ({ cls := "com/example/vsyncopate/vsyncopate/frame/FrameTiming", name := "phaseBegan", desc := "(Lcom/example/vsyncopate/vsyncopate/frame/FramePhase;)Z" } : Jvm.MethodName) prog_20_method_7_code (2 : Nat) (Option.some Jvm.ClassFile.FieldType.boolean)).before args0 about1 = true := code_word (m := ⟨7, 6⟩) (meth := k7m6) (c := k7c6) (by decide +kernel) rfl rfl rfl (by decide +kernel)
def codes1 : List Jvm.Cond := [Jvm.Cond.code x code maxLocals ret, Jvm.Cond.code ({ cls := "com/example/vsyncopate/vsyncopate/frame/FrameTimingFrameBeginsPinLaw", name := "pick", desc := "(I)Lcom/example/vsyncopate/vsyncopate/frame/FramePhase;" } : Jvm.MethodName) method_2_code (1 : Nat) (Option.some (Jvm.ClassFile.FieldType.object "com/example/vsyncopate/vsyncopate/frame/FramePhase")), Jvm.Cond.code ({ cls := "com/example/vsyncopate/vsyncopate/frame/FrameTiming", name := "<init>", desc := "()V" } : Jvm.MethodName) prog_20_method_1_code (1 : Nat) (Option.none : Option Jvm.ClassFile.FieldType), Jvm.Cond.code ({ cls := "java/lang/Object", name := "<init>", desc := "()V" } : Jvm.MethodName) object_method_1_code (1 : Nat) (Option.none : Option Jvm.ClassFile.FieldType), Jvm.Cond.code ({ cls := "com/example/vsyncopate/vsyncopate/frame/FrameTiming", name := "frameBegins", desc := "(JJJJJ)V" } : Jvm.MethodName) prog_20_method_12_code (11 : Nat) (Option.none : Option Jvm.ClassFile.FieldType), Jvm.Cond.code ({ cls := "com/example/vsyncopate/vsyncopate/frame/FrameTiming", name := "phaseBegins", desc := "(Lcom/example/vsyncopate/vsyncopate/frame/FramePhase;J)V" } : Jvm.MethodName) prog_20_method_13_code (4 : Nat) (Option.none : Option Jvm.ClassFile.FieldType), Jvm.Cond.code ({ cls := "java/lang/Enum", name := "ordinal", desc := "()I" } : Jvm.MethodName) jdk_37_method_2_code (1 : Nat) (Option.some Jvm.ClassFile.FieldType.int), Jvm.Cond.code ({ cls := "com/example/vsyncopate/vsyncopate/frame/FrameTiming", name := "frameNumber", desc := "()J" } : Jvm.MethodName) prog_20_method_2_code (1 : Nat) (Option.some Jvm.ClassFile.FieldType.long), Jvm.Cond.code ({ cls := "com/example/vsyncopate/vsyncopate/frame/FrameTiming", name := "pulseTimeNanos", desc := "()J" } : Jvm.MethodName) prog_20_method_3_code (1 : Nat) (Option.some Jvm.ClassFile.FieldType.long), Jvm.Cond.code ({ cls := "com/example/vsyncopate/vsyncopate/frame/FrameTiming", name := "frameTimeNanos", desc := "()J" } : Jvm.MethodName) prog_20_method_4_code (1 : Nat) (Option.some Jvm.ClassFile.FieldType.long), Jvm.Cond.code ({ cls := "com/example/vsyncopate/vsyncopate/frame/FrameTiming", name := "skippedFrames", desc := "()J" } : Jvm.MethodName) prog_20_method_5_code (1 : Nat) (Option.some Jvm.ClassFile.FieldType.long), Jvm.Cond.code ({ cls := "com/example/vsyncopate/vsyncopate/frame/FrameTiming", name := "beganNanos", desc := "()J" } : Jvm.MethodName) prog_20_method_6_code (1 : Nat) (Option.some Jvm.ClassFile.FieldType.long), Jvm.Cond.code ({ cls := "com/example/vsyncopate/vsyncopate/frame/FrameTiming", name := "phaseBegan", desc := "(Lcom/example/vsyncopate/vsyncopate/frame/FramePhase;)Z" } : Jvm.MethodName) prog_20_method_7_code (2 : Nat) (Option.some Jvm.ClassFile.FieldType.boolean)]
set_option maxRecDepth 65536 in
theorem codes_eq : words1.filter isCode = codes1 := rfl
theorem w_codes : ∀ c ∈ words1.filter isCode, c.before args0 about1 = true := by
  rw [codes_eq]
  intro c hc
  simp only [codes1, List.mem_cons, List.not_mem_nil, or_false] at hc
  rcases hc with rfl | rfl | rfl | rfl | rfl | rfl | rfl | rfl | rfl | rfl | rfl | rfl | rfl
  · exact w_c0
  · exact w_c1
  · exact w_c2
  · exact w_c3
  · exact w_c4
  · exact w_c5
  · exact w_c6
  · exact w_c7
  · exact w_c8
  · exact w_c9
  · exact w_c10
  · exact w_c11
  · exact w_c12
set_option maxRecDepth 65536 in
theorem w_t1 : (words1.take 24).all (fun c => isCode c || c.before args0 about1) = true := by decide +kernel
set_option maxRecDepth 65536 in
theorem w_t2 : ((words1.drop 24).take 24).all (fun c => isCode c || c.before args0 about1) = true := by decide +kernel
set_option maxRecDepth 65536 in
theorem w_t3 : (((words1.drop 24).drop 24).take 24).all (fun c => isCode c || c.before args0 about1) = true := by decide +kernel
set_option maxRecDepth 65536 in
theorem w_t4 : (((words1.drop 24).drop 24).drop 24).all (fun c => isCode c || c.before args0 about1) = true := by decide +kernel
theorem w_tables : (allAtoms (Jvm.Cond.code x code maxLocals ret :: tables_1)).before args0 about1 = true := by
  rw [allAtoms_all]
  show words1.all (fun c => c.before args0 about1) = true
  refine all_split ?_ w_codes
  rw [← List.take_append_drop 24 words1, List.all_append, w_t1, ← List.take_append_drop 24 (words1.drop 24), List.all_append, w_t2, ← List.take_append_drop 24 ((words1.drop 24).drop 24), List.all_append, w_t3, w_t4]
  rfl
set_option maxRecDepth 65536 in
theorem w_case : (Jvm.Cond.and given_1 narrow_1).before args0 about1 = true := by decide +kernel
theorem w_applies : (headSpec (Jvm.Cond.code x code maxLocals ret :: tables_1) room_1).applies x e0.platform about1 = true :=
  (Spec.applies_iff w_frames).mpr ⟨w_running, w_runnable, w_alone, w_named, w_hears, w_ripe, w_room, w_tables⟩
theorem atStart : AtStart classFile x code maxLocals ret World_1 tables_1 room_1 Calls_1 rest_1 Pre_1 launch0 p0 e0 about1 theMethod args0 below0 :=
  ⟨lists_1, trivial, launch0.admits_env _ _ _, launch0.least_env, fairChoices_fair.cas, fairChoices_fair.clock, w_frames, w_args, w_heap, w_applies, trivial, trivial, w_case⟩
end start1
theorem witness_1 : WitnessClaimed_1 := ⟨start1.p0, start1.e0, start1.about1, start1.theMethod, start1.args0, start1.below0, start1.atStart⟩
end Jvm.Pilot.@@N@@
