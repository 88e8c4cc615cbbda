import JvmDerived
import JvmDerived.Pilot.@@N@@Statement
import JvmDerived.Pilot.@@N@@Code
set_option linter.unusedVariables false
set_option linter.unusedSimpArgs false
namespace Jvm.RoadKit
open Sem ClassFile Op Lib Jvm.Stand Jvm.Free Jvm.LawKit
section New
variable {p : Program} {l : Launch} {e : Env} {R : Room} {s : State} {m : MethodId} {args : Array Value} {below : List Frame} {meth : Method} {c : Code} {T : State} {locs : List Loc} {cells slots : Nat}
theorem retI (X : Stand p l e R s m args below meth c T locs cells slots) (hx : p.tables.exec = Jvm.exec) {pc : Nat} {Ls : Array Slot} {z : Int32} {rest : List Value} (hret : meth.sig.returnType = some .int) (hd : decode c.code pc = .ok (.ireturn, 1)) {fs : List Frame}
    (hl : ∀ (f : JFrame) (acts : List Action), f.method = m → f.locked = none → f.entered = [] → (doReturn e (T.setTop f) acts (some (.int z))).1 = T.setFrames fs) : Steps p.tables e below (T.setTop (mkF m pc Ls (.int z :: rest))) (T.setFrames fs) := by
  have hm' : T.vm.method? m = some meth := X.method'
  have hn : narrow .int (.int z) = .int z := rfl
  show Steps p.tables e below (T.setTop { method := m, pc := pc, locals := Ls, stack := _ :: rest, locked := none }) _
  jvm_step X.here [X.here.top, hx, hd, hm', hret, hn]
  first | (intro acts; rw [hl _ acts rfl rfl rfl]) | rw [hl _ _ rfl rfl rfl]
  exact Steps.refl _
end New
end Jvm.RoadKit
namespace Jvm.Pilot.@@N@@
open Jvm Jvm.ClassFile Sem Op Lib Jvm.Free Jvm.Stand Jvm.LawKit Jvm.RoadKit Bundle Jvm.Pilot.@@N@@.Jvm.D
theorem own_top {tb : Tables} {e : Env} {below : List Frame} {T t : State} {m : MethodId} {pc : Nat} {Ls : Array Slot} {v v' : Value} {rest : List Value} (q : v = v') (k : Steps tb e below (T.setTop (mkF m pc Ls (v' :: rest))) t) : Steps tb e below (T.setTop (mkF m pc Ls (v :: rest))) t := q ▸ k
theorem own_le {Z : State} {n0 : Nat} {h : Heap} (O : Old Z n0 h) : n0 ≤ h.size := O.1 ▸ O.2.1
theorem own_eqI {args : Array Value} {first s : State} {o : Option Outcome} {idx : List Nat} {t : Term} {k : Int32} (h : (Jvm.Cond.eq t (.int k)).value args first o s idx = some true) : t.eval args first o idx s = some (.int k) := by
  cases ht : t.eval args first o idx s with
  | none => simp [Cond.value, Term.eval, ht] at h
  | some x => cases x <;> simp [Cond.value, Term.eval, ht] at h ⊢; exact h
theorem own_eqJ {args : Array Value} {first s : State} {o : Option Outcome} {idx : List Nat} {t : Term} {k : Int64} (h : (Jvm.Cond.eq t (.long k)).value args first o s idx = some true) : t.eval args first o idx s = some (.long k) := by
  cases ht : t.eval args first o idx s with
  | none => simp [Cond.value, Term.eval, ht] at h
  | some x => cases x <;> simp [Cond.value, Term.eval, ht] at h ⊢; exact h
theorem own_eqR {args : Array Value} {first s : State} {o : Option Outcome} {idx : List Nat} {t u : Term} {b : Addr} (h : (Jvm.Cond.eq t u).value args first o s idx = some true) (hu : u.eval args first o idx s = some (.ref b)) : t.eval args first o idx s = some (.ref b) := by
  cases ht : t.eval args first o idx s with
  | none => simp [Cond.value, ht] at h
  | some x => cases x <;> simp [Cond.value, ht, hu] at h ⊢; exact h
def own_En (Z : State) (h : Heap) (C f d : String) (w : Addr) (k : Int32) : Prop := Sta Z h C f d (.ref w) ∧ Exa Z h w C ∧ Fld Z h w "java/lang/Enum" "ordinal" "I" (.int k)
theorem own_d1_0 : decode method_2_code 0 = .ok (.iload_n 0, 1) := by decide +kernel
theorem own_d1_1 : decode method_2_code 1 = .ok (.ifCond .ne 7, 3) := by decide +kernel
theorem own_d1_4 : decode method_2_code 4 = .ok (.getstatic 7, 3) := by decide +kernel
theorem own_d1_7 : decode method_2_code 7 = .ok (.areturn, 1) := by decide +kernel
theorem own_d1_8 : decode method_2_code 8 = .ok (.iload_n 0, 1) := by decide +kernel
theorem own_d1_9 : decode method_2_code 9 = .ok (.iconst 1, 1) := by decide +kernel
theorem own_d1_10 : decode method_2_code 10 = .ok (.if_icmp .ne 7, 3) := by decide +kernel
theorem own_d1_13 : decode method_2_code 13 = .ok (.getstatic 13, 3) := by decide +kernel
theorem own_d1_16 : decode method_2_code 16 = .ok (.areturn, 1) := by decide +kernel
theorem own_d1_17 : decode method_2_code 17 = .ok (.iload_n 0, 1) := by decide +kernel
theorem own_d1_18 : decode method_2_code 18 = .ok (.iconst 2, 1) := by decide +kernel
theorem own_d1_19 : decode method_2_code 19 = .ok (.if_icmp .ne 7, 3) := by decide +kernel
theorem own_d1_22 : decode method_2_code 22 = .ok (.getstatic 16, 3) := by decide +kernel
theorem own_d1_25 : decode method_2_code 25 = .ok (.areturn, 1) := by decide +kernel
theorem own_d1_26 : decode method_2_code 26 = .ok (.iload_n 0, 1) := by decide +kernel
theorem own_d1_27 : decode method_2_code 27 = .ok (.iconst 3, 1) := by decide +kernel
theorem own_d1_28 : decode method_2_code 28 = .ok (.if_icmp .ne 7, 3) := by decide +kernel
theorem own_d1_31 : decode method_2_code 31 = .ok (.getstatic 19, 3) := by decide +kernel
theorem own_d1_34 : decode method_2_code 34 = .ok (.areturn, 1) := by decide +kernel
theorem own_d1_35 : decode method_2_code 35 = .ok (.iload_n 0, 1) := by decide +kernel
theorem own_d1_36 : decode method_2_code 36 = .ok (.iconst 4, 1) := by decide +kernel
theorem own_d1_37 : decode method_2_code 37 = .ok (.if_icmp .ne 7, 3) := by decide +kernel
theorem own_d1_40 : decode method_2_code 40 = .ok (.getstatic 22, 3) := by decide +kernel
theorem own_d1_43 : decode method_2_code 43 = .ok (.areturn, 1) := by decide +kernel
theorem own_d1_44 : decode method_2_code 44 = .ok (.iload_n 0, 1) := by decide +kernel
theorem own_d1_45 : decode method_2_code 45 = .ok (.iconst 5, 1) := by decide +kernel
theorem own_d1_46 : decode method_2_code 46 = .ok (.if_icmp .ne 7, 3) := by decide +kernel
theorem own_d1_49 : decode method_2_code 49 = .ok (.getstatic 25, 3) := by decide +kernel
theorem own_d1_52 : decode method_2_code 52 = .ok (.areturn, 1) := by decide +kernel
theorem own_d1_53 : decode method_2_code 53 = .ok (.iload_n 0, 1) := by decide +kernel
theorem own_d1_54 : decode method_2_code 54 = .ok (.bipush 6, 2) := by decide +kernel
theorem own_d1_56 : decode method_2_code 56 = .ok (.if_icmp .ne 7, 3) := by decide +kernel
theorem own_d1_59 : decode method_2_code 59 = .ok (.getstatic 28, 3) := by decide +kernel
theorem own_d1_62 : decode method_2_code 62 = .ok (.areturn, 1) := by decide +kernel
theorem own_d1_63 : decode method_2_code 63 = .ok (.iload_n 0, 1) := by decide +kernel
theorem own_d1_64 : decode method_2_code 64 = .ok (.bipush 7, 2) := by decide +kernel
theorem own_d1_66 : decode method_2_code 66 = .ok (.if_icmp .ne 7, 3) := by decide +kernel
theorem own_d1_69 : decode method_2_code 69 = .ok (.getstatic 31, 3) := by decide +kernel
theorem own_d1_72 : decode method_2_code 72 = .ok (.areturn, 1) := by decide +kernel
theorem own_d1_73 : decode method_2_code 73 = .ok (.iload_n 0, 1) := by decide +kernel
theorem own_d1_74 : decode method_2_code 74 = .ok (.bipush 8, 2) := by decide +kernel
theorem own_d1_76 : decode method_2_code 76 = .ok (.if_icmp .ne 7, 3) := by decide +kernel
theorem own_d1_79 : decode method_2_code 79 = .ok (.getstatic 34, 3) := by decide +kernel
theorem own_d1_82 : decode method_2_code 82 = .ok (.areturn, 1) := by decide +kernel
theorem own_d1_83 : decode method_2_code 83 = .ok (.iload_n 0, 1) := by decide +kernel
theorem own_d1_84 : decode method_2_code 84 = .ok (.bipush 9, 2) := by decide +kernel
theorem own_d1_86 : decode method_2_code 86 = .ok (.if_icmp .ne 7, 3) := by decide +kernel
theorem own_d1_89 : decode method_2_code 89 = .ok (.getstatic 37, 3) := by decide +kernel
theorem own_d1_92 : decode method_2_code 92 = .ok (.areturn, 1) := by decide +kernel
theorem own_d1_93 : decode method_2_code 93 = .ok (.iload_n 0, 1) := by decide +kernel
theorem own_d1_94 : decode method_2_code 94 = .ok (.bipush 10, 2) := by decide +kernel
theorem own_d1_96 : decode method_2_code 96 = .ok (.if_icmp .ne 7, 3) := by decide +kernel
theorem own_d1_99 : decode method_2_code 99 = .ok (.getstatic 40, 3) := by decide +kernel
theorem own_d1_102 : decode method_2_code 102 = .ok (.areturn, 1) := by decide +kernel
theorem own_d1_103 : decode method_2_code 103 = .ok (.iload_n 0, 1) := by decide +kernel
theorem own_d1_104 : decode method_2_code 104 = .ok (.bipush 11, 2) := by decide +kernel
theorem own_d1_106 : decode method_2_code 106 = .ok (.if_icmp .ne 7, 3) := by decide +kernel
theorem own_d1_109 : decode method_2_code 109 = .ok (.getstatic 43, 3) := by decide +kernel
theorem own_d1_112 : decode method_2_code 112 = .ok (.areturn, 1) := by decide +kernel
theorem own_d1_113 : decode method_2_code 113 = .ok (.getstatic 46, 3) := by decide +kernel
theorem own_d1_116 : decode method_2_code 116 = .ok (.areturn, 1) := by decide +kernel
theorem own_d2_0 : decode prog_124_method_7_code 0 = .ok (.aload_n 0, 1) := by decide +kernel
theorem own_d2_1 : decode prog_124_method_7_code 1 = .ok (.getstatic 7, 3) := by decide +kernel
theorem own_d2_4 : decode prog_124_method_7_code 4 = .ok (.if_acmp .eq 31, 3) := by decide +kernel
theorem own_d2_7 : decode prog_124_method_7_code 7 = .ok (.aload_n 0, 1) := by decide +kernel
theorem own_d2_8 : decode prog_124_method_7_code 8 = .ok (.getstatic 10, 3) := by decide +kernel
theorem own_d2_11 : decode prog_124_method_7_code 11 = .ok (.if_acmp .eq 24, 3) := by decide +kernel
theorem own_d2_14 : decode prog_124_method_7_code 14 = .ok (.aload_n 0, 1) := by decide +kernel
theorem own_d2_15 : decode prog_124_method_7_code 15 = .ok (.getstatic 13, 3) := by decide +kernel
theorem own_d2_18 : decode prog_124_method_7_code 18 = .ok (.if_acmp .eq 17, 3) := by decide +kernel
theorem own_d2_21 : decode prog_124_method_7_code 21 = .ok (.aload_n 0, 1) := by decide +kernel
theorem own_d2_22 : decode prog_124_method_7_code 22 = .ok (.getstatic 16, 3) := by decide +kernel
theorem own_d2_25 : decode prog_124_method_7_code 25 = .ok (.if_acmp .eq 10, 3) := by decide +kernel
theorem own_d2_28 : decode prog_124_method_7_code 28 = .ok (.aload_n 0, 1) := by decide +kernel
theorem own_d2_29 : decode prog_124_method_7_code 29 = .ok (.getstatic 28, 3) := by decide +kernel
theorem own_d2_32 : decode prog_124_method_7_code 32 = .ok (.if_acmp .ne 7, 3) := by decide +kernel
theorem own_d2_35 : decode prog_124_method_7_code 35 = .ok (.iconst 1, 1) := by decide +kernel
theorem own_d2_36 : decode prog_124_method_7_code 36 = .ok (.goto 4, 3) := by decide +kernel
theorem own_d2_39 : decode prog_124_method_7_code 39 = .ok (.iconst 0, 1) := by decide +kernel
theorem own_d2_40 : decode prog_124_method_7_code 40 = .ok (.ireturn, 1) := by decide +kernel
theorem own_pn0 : plainName "com/example/traversal/traversal/model/BasicType" = true := by first | (simp [plainName, overriddenIn]; done) | decide +kernel
theorem own_pn1 : plainName "com/example/traversal/traversal/model/BasicTypeIsIntegralPinLaw" = true := by first | (simp [plainName, overriddenIn]; done) | decide +kernel
theorem own_pd0 : parseMethodDescriptor "(I)Lcom/example/traversal/traversal/model/BasicType;" = some ⟨[.int], some (.object "com/example/traversal/traversal/model/BasicType")⟩ := by decide +kernel
theorem own_pd1 : parseMethodDescriptor "()Z" = some ⟨[], some .boolean⟩ := by decide +kernel
theorem own_rem13 (x : Int32) : ((x &&& (2147483647 : Int32)) % (13 : Int32)) = (0 : Int32) ∨ ((x &&& (2147483647 : Int32)) % (13 : Int32)) = (1 : Int32) ∨ ((x &&& (2147483647 : Int32)) % (13 : Int32)) = (2 : Int32) ∨ ((x &&& (2147483647 : Int32)) % (13 : Int32)) = (3 : Int32) ∨ ((x &&& (2147483647 : Int32)) % (13 : Int32)) = (4 : Int32) ∨ ((x &&& (2147483647 : Int32)) % (13 : Int32)) = (5 : Int32) ∨ ((x &&& (2147483647 : Int32)) % (13 : Int32)) = (6 : Int32) ∨ ((x &&& (2147483647 : Int32)) % (13 : Int32)) = (7 : Int32) ∨ ((x &&& (2147483647 : Int32)) % (13 : Int32)) = (8 : Int32) ∨ ((x &&& (2147483647 : Int32)) % (13 : Int32)) = (9 : Int32) ∨ ((x &&& (2147483647 : Int32)) % (13 : Int32)) = (10 : Int32) ∨ ((x &&& (2147483647 : Int32)) % (13 : Int32)) = (11 : Int32) ∨ ((x &&& (2147483647 : Int32)) % (13 : Int32)) = (12 : Int32) := by
  have h1 : (x &&& (2147483647 : Int32)).toInt = x.toInt % (2 ^ 31 : Nat) := c_mask x 2147483647 31 (by decide) (by decide)
  have h2 := (c_irem (x &&& (2147483647 : Int32)) (13 : Int32) 13 (by decide)).1 (by omega)
  generalize ((x &&& (2147483647 : Int32)) % (13 : Int32)) = k at h2 ⊢
  simp only [← Int32.toInt_inj, show (0 : Int32).toInt = 0 from by decide, show (1 : Int32).toInt = 1 from by decide, show (2 : Int32).toInt = 2 from by decide, show (3 : Int32).toInt = 3 from by decide, show (4 : Int32).toInt = 4 from by decide, show (5 : Int32).toInt = 5 from by decide, show (6 : Int32).toInt = 6 from by decide, show (7 : Int32).toInt = 7 from by decide, show (8 : Int32).toInt = 8 from by decide, show (9 : Int32).toInt = 9 from by decide, show (10 : Int32).toInt = 10 from by decide, show (11 : Int32).toInt = 11 from by decide, show (12 : Int32).toInt = 12 from by decide]
  omega
theorem own_m_STRING_ef (m : MethodId) (w_STRING : Addr) : entryFrame m #[(.ref w_STRING)] 1 = mkF m 0 #[rv w_STRING] [] := by first | (simp [entryFrame, mkF, argsToLocals, Value.category]; done) | rfl
def own_m_STRING_Q (Z : State) (w_STRING : Addr) (w_INTEGER : Addr) (w_LONG : Addr) (w_SHORT : Addr) (w_BYTE : Addr) (w_DOUBLE : Addr) (w_FLOAT : Addr) (w_BIG_DECIMAL : Addr) (w_BIG_INTEGER : Addr) (w_BOOLEAN : Addr) (w_LOCAL_DATE : Addr) (w_LOCAL_TIME : Addr) (w_LOCAL_DATE_TIME : Addr) (h0 : Heap) (n0 : Nat) (v : Option Value) (h : Heap) (L : List Loc) : Prop := v = some (.int 0) ∧ Fr n0 L ∧ h = h0
set_option maxRecDepth 65536 in
set_option maxHeartbeats 40000000 in
theorem own_m_STRING (l : Launch) (Z : State) (a0 : Array Value) (hw : ∀ d ∈ tables_1, d.before a0 Z = true) (ws : List Jvm.Cond) (w_STRING : Addr) (w_INTEGER : Addr) (w_LONG : Addr) (w_SHORT : Addr) (w_BYTE : Addr) (w_DOUBLE : Addr) (w_FLOAT : Addr) (w_BIG_DECIMAL : Addr) (w_BIG_INTEGER : Addr) (w_BOOLEAN : Addr) (w_LOCAL_DATE : Addr) (w_LOCAL_TIME : Addr) (w_LOCAL_DATE_TIME : Addr) (h0 : Heap) (n0 : Nat) (O0 : Old Z n0 h0) (U_STRING : own_En Z Z.heap "com/example/traversal/traversal/model/BasicType" "STRING" "Lcom/example/traversal/traversal/model/BasicType;" w_STRING (0 : Int32)) (U_INTEGER : own_En Z Z.heap "com/example/traversal/traversal/model/BasicType" "INTEGER" "Lcom/example/traversal/traversal/model/BasicType;" w_INTEGER (1 : Int32)) (U_LONG : own_En Z Z.heap "com/example/traversal/traversal/model/BasicType" "LONG" "Lcom/example/traversal/traversal/model/BasicType;" w_LONG (2 : Int32)) (U_SHORT : own_En Z Z.heap "com/example/traversal/traversal/model/BasicType" "SHORT" "Lcom/example/traversal/traversal/model/BasicType;" w_SHORT (3 : Int32)) (U_BYTE : own_En Z Z.heap "com/example/traversal/traversal/model/BasicType" "BYTE" "Lcom/example/traversal/traversal/model/BasicType;" w_BYTE (4 : Int32)) (U_DOUBLE : own_En Z Z.heap "com/example/traversal/traversal/model/BasicType" "DOUBLE" "Lcom/example/traversal/traversal/model/BasicType;" w_DOUBLE (5 : Int32)) (U_FLOAT : own_En Z Z.heap "com/example/traversal/traversal/model/BasicType" "FLOAT" "Lcom/example/traversal/traversal/model/BasicType;" w_FLOAT (6 : Int32)) (U_BIG_DECIMAL : own_En Z Z.heap "com/example/traversal/traversal/model/BasicType" "BIG_DECIMAL" "Lcom/example/traversal/traversal/model/BasicType;" w_BIG_DECIMAL (7 : Int32)) (U_BIG_INTEGER : own_En Z Z.heap "com/example/traversal/traversal/model/BasicType" "BIG_INTEGER" "Lcom/example/traversal/traversal/model/BasicType;" w_BIG_INTEGER (8 : Int32)) (U_BOOLEAN : own_En Z Z.heap "com/example/traversal/traversal/model/BasicType" "BOOLEAN" "Lcom/example/traversal/traversal/model/BasicType;" w_BOOLEAN (9 : Int32)) (U_LOCAL_DATE : own_En Z Z.heap "com/example/traversal/traversal/model/BasicType" "LOCAL_DATE" "Lcom/example/traversal/traversal/model/BasicType;" w_LOCAL_DATE (10 : Int32)) (U_LOCAL_TIME : own_En Z Z.heap "com/example/traversal/traversal/model/BasicType" "LOCAL_TIME" "Lcom/example/traversal/traversal/model/BasicType;" w_LOCAL_TIME (11 : Int32)) (U_LOCAL_DATE_TIME : own_En Z Z.heap "com/example/traversal/traversal/model/BasicType" "LOCAL_DATE_TIME" "Lcom/example/traversal/traversal/model/BasicType;" w_LOCAL_DATE_TIME (12 : Int32)) :
    MetFree l (⟨"com/example/traversal/traversal/model/BasicType", "isIntegral", "()Z"⟩ : MethodName) (head1 (Jvm.Cond.code (⟨"com/example/traversal/traversal/model/BasicType", "isIntegral", "()Z"⟩ : MethodName) prog_124_method_7_code 1 (some .boolean) :: ws) ({ frames := 0, cells := 0, slots := 0, locals := 0 } : Room)) (fun a U => a = #[(.ref w_STRING)] ∧ Z.Warmed39 U.vm ∧ U.heap = h0) (fun _ _ _ _ _ => True) (fun _ U o U' => ∃ v L, o = .returned v ∧ own_m_STRING_Q Z w_STRING w_INTEGER w_LONG w_SHORT w_BYTE w_DOUBLE w_FLOAT w_BIG_DECIMAL w_BIG_INTEGER w_BOOLEAN w_LOCAL_DATE w_LOCAL_TIME w_LOCAL_DATE_TIME h0 n0 v U'.heap L ∧ FrameEnd U o U' L ({ frames := 0, cells := 0, slots := 0, locals := 0 } : Room).cells ({ frames := 0, cells := 0, slots := 0, locals := 0 } : Room).slots) := by
  refine MetFree.of_bodySF (plainFor_of_name own_pn0) hisR ?_
  intro p e s m args below meth c s₁ Bd hml0 hP hK
  obtain ⟨rfl, hZ, hh⟩ := hP
  have hx := Bd.exec
  have hby := Bd.bytes
  have hml : c.maxLocals = 1 := hml0
  have hown : s.vm.findClass "com/example/traversal/traversal/model/BasicType" = some m.cls := findClass_of_methodNamed Bd.named
  have hnm := (name_of_methodNamed Bd.named Bd.method).1
  have X0 : Stand p l e ({ frames := 0, cells := 0, slots := 0, locals := 0 } : Room) s m #[(.ref w_STRING)] below meth c s₁ [] 0 0 := Stand.of_body Bd
  have e0 : s₁.heap = h0 := by rw [← hh, Bd.state]; rfl
  have N0 := Fr.nil n0
  have pre0 : ∀ t, Steps p.tables e below (s₁.setTop (mkF m 0 #[rv w_STRING] [])) t → Steps p.tables e below (s₁.setTop (entryFrame m #[(.ref w_STRING)] 1)) t := fun t k => castTop (own_m_STRING_ef m w_STRING) k
  obtain ⟨T1, X1, e1, st1⟩ := getS2 X0 hx hZ hown (host := "") (Or.inl (hw _ (List.mem_of_getElem? (i := 13) rfl))) Via.refl e0 (U_INTEGER.1.ext O0.2) (g := (mkF m 1 #[rv w_STRING] [(.ref w_STRING)])) rfl (hb hby own_d2_1)
  obtain ⟨T2, X2, e2, st2⟩ := getS2 X1 hx hZ hown (host := "") (Or.inl (hw _ (List.mem_of_getElem? (i := 15) rfl))) Via.refl e1 (U_LONG.1.ext O0.2) (g := (mkF m 8 #[rv w_STRING] [(.ref w_STRING)])) rfl (hb hby own_d2_8)
  obtain ⟨T3, X3, e3, st3⟩ := getS2 X2 hx hZ hown (host := "") (Or.inl (hw _ (List.mem_of_getElem? (i := 17) rfl))) Via.refl e2 (U_SHORT.1.ext O0.2) (g := (mkF m 15 #[rv w_STRING] [(.ref w_STRING)])) rfl (hb hby own_d2_15)
  obtain ⟨T4, X4, e4, st4⟩ := getS2 X3 hx hZ hown (host := "") (Or.inl (hw _ (List.mem_of_getElem? (i := 19) rfl))) Via.refl e3 (U_BYTE.1.ext O0.2) (g := (mkF m 22 #[rv w_STRING] [(.ref w_STRING)])) rfl (hb hby own_d2_22)
  obtain ⟨T5, X5, e5, st5⟩ := getS2 X4 hx hZ hown (host := "") (Or.inl (hw _ (List.mem_of_getElem? (i := 21) rfl))) Via.refl e4 (U_BIG_INTEGER.1.ext O0.2) (g := (mkF m 29 #[rv w_STRING] [(.ref w_STRING)])) rfl (hb hby own_d2_29)
  obtain ⟨fs, hr, hrun, hended, hW, hsame⟩ := X5.leave (v := some (.int 0)) (fun h => by rw [Bd.returns] at h; cases h)
  refine ⟨_, _, pre0 _ ?_, hrun, hended, _, _, rfl, ?_, ⟨_, rfl⟩, hW, hsame.mono (by decide) (by decide)⟩
  · show Steps p.tables e below (s₁.setTop (mkF m 0 #[rv w_STRING] [])) _
    refine XS.aloadN X0.here hx rfl (hb hby own_d2_0) rfl rfl ?_
    show Steps p.tables e below (s₁.setTop (mkF m 1 #[rv w_STRING] [(.ref w_STRING)])) _
    refine st1 _ ?_
    show Steps p.tables e below (T1.setTop (mkF m 4 #[rv w_STRING] [(.ref w_INTEGER), (.ref w_STRING)])) _
    refine Jvm.RoadKit.acmp (g := (mkF m 4 #[rv w_STRING] [(.ref w_INTEGER), (.ref w_STRING)])) X1 hx rfl rfl rfl (pc0 := 4) (pc' := 7) (same := false) rfl (hb hby own_d2_4) rfl (decide_eq_false fun q => (Fld.ne U_STRING.2.2 U_INTEGER.2.2 (by decide)) (Value.ref.inj q)) (by decide) (by decide) ?_
    show Steps p.tables e below (T1.setTop (mkF m 7 #[rv w_STRING] [])) _
    refine XS.aloadN X1.here hx rfl (hb hby own_d2_7) rfl rfl ?_
    show Steps p.tables e below (T1.setTop (mkF m 8 #[rv w_STRING] [(.ref w_STRING)])) _
    refine st2 _ ?_
    show Steps p.tables e below (T2.setTop (mkF m 11 #[rv w_STRING] [(.ref w_LONG), (.ref w_STRING)])) _
    refine Jvm.RoadKit.acmp (g := (mkF m 11 #[rv w_STRING] [(.ref w_LONG), (.ref w_STRING)])) X2 hx rfl rfl rfl (pc0 := 11) (pc' := 14) (same := false) rfl (hb hby own_d2_11) rfl (decide_eq_false fun q => (Fld.ne U_STRING.2.2 U_LONG.2.2 (by decide)) (Value.ref.inj q)) (by decide) (by decide) ?_
    show Steps p.tables e below (T2.setTop (mkF m 14 #[rv w_STRING] [])) _
    refine XS.aloadN X2.here hx rfl (hb hby own_d2_14) rfl rfl ?_
    show Steps p.tables e below (T2.setTop (mkF m 15 #[rv w_STRING] [(.ref w_STRING)])) _
    refine st3 _ ?_
    show Steps p.tables e below (T3.setTop (mkF m 18 #[rv w_STRING] [(.ref w_SHORT), (.ref w_STRING)])) _
    refine Jvm.RoadKit.acmp (g := (mkF m 18 #[rv w_STRING] [(.ref w_SHORT), (.ref w_STRING)])) X3 hx rfl rfl rfl (pc0 := 18) (pc' := 21) (same := false) rfl (hb hby own_d2_18) rfl (decide_eq_false fun q => (Fld.ne U_STRING.2.2 U_SHORT.2.2 (by decide)) (Value.ref.inj q)) (by decide) (by decide) ?_
    show Steps p.tables e below (T3.setTop (mkF m 21 #[rv w_STRING] [])) _
    refine XS.aloadN X3.here hx rfl (hb hby own_d2_21) rfl rfl ?_
    show Steps p.tables e below (T3.setTop (mkF m 22 #[rv w_STRING] [(.ref w_STRING)])) _
    refine st4 _ ?_
    show Steps p.tables e below (T4.setTop (mkF m 25 #[rv w_STRING] [(.ref w_BYTE), (.ref w_STRING)])) _
    refine Jvm.RoadKit.acmp (g := (mkF m 25 #[rv w_STRING] [(.ref w_BYTE), (.ref w_STRING)])) X4 hx rfl rfl rfl (pc0 := 25) (pc' := 28) (same := false) rfl (hb hby own_d2_25) rfl (decide_eq_false fun q => (Fld.ne U_STRING.2.2 U_BYTE.2.2 (by decide)) (Value.ref.inj q)) (by decide) (by decide) ?_
    show Steps p.tables e below (T4.setTop (mkF m 28 #[rv w_STRING] [])) _
    refine XS.aloadN X4.here hx rfl (hb hby own_d2_28) rfl rfl ?_
    show Steps p.tables e below (T4.setTop (mkF m 29 #[rv w_STRING] [(.ref w_STRING)])) _
    refine st5 _ ?_
    show Steps p.tables e below (T5.setTop (mkF m 32 #[rv w_STRING] [(.ref w_BIG_INTEGER), (.ref w_STRING)])) _
    refine Jvm.RoadKit.acmp (g := (mkF m 32 #[rv w_STRING] [(.ref w_BIG_INTEGER), (.ref w_STRING)])) X5 hx rfl rfl rfl (pc0 := 32) (pc' := 39) (same := false) rfl (hb hby own_d2_32) rfl (decide_eq_false fun q => (Fld.ne U_STRING.2.2 U_BIG_INTEGER.2.2 (by decide)) (Value.ref.inj q)) (by decide) (by decide) ?_
    show Steps p.tables e below (T5.setTop (mkF m 39 #[rv w_STRING] [])) _
    refine XS.iconst X5.here hx rfl (hb hby own_d2_39) ?_
    show Steps p.tables e below (T5.setTop (mkF m 40 #[rv w_STRING] [(.int 0)])) _
    exact retN X5 hx (t := .boolean) Bd.returns (by simp) (hb hby own_d2_40) hr
  · show own_m_STRING_Q Z w_STRING w_INTEGER w_LONG w_SHORT w_BYTE w_DOUBLE w_FLOAT w_BIG_DECIMAL w_BIG_INTEGER w_BOOLEAN w_LOCAL_DATE w_LOCAL_TIME w_LOCAL_DATE_TIME h0 n0 _ T5.heap _
    rw [e5]
    exact ⟨rfl, N0, rfl⟩
theorem own_m_INTEGER_ef (m : MethodId) (w_INTEGER : Addr) : entryFrame m #[(.ref w_INTEGER)] 1 = mkF m 0 #[rv w_INTEGER] [] := by first | (simp [entryFrame, mkF, argsToLocals, Value.category]; done) | rfl
def own_m_INTEGER_Q (Z : State) (w_STRING : Addr) (w_INTEGER : Addr) (w_LONG : Addr) (w_SHORT : Addr) (w_BYTE : Addr) (w_DOUBLE : Addr) (w_FLOAT : Addr) (w_BIG_DECIMAL : Addr) (w_BIG_INTEGER : Addr) (w_BOOLEAN : Addr) (w_LOCAL_DATE : Addr) (w_LOCAL_TIME : Addr) (w_LOCAL_DATE_TIME : Addr) (h0 : Heap) (n0 : Nat) (v : Option Value) (h : Heap) (L : List Loc) : Prop := v = some (.int 1) ∧ Fr n0 L ∧ h = h0
set_option maxRecDepth 65536 in
set_option maxHeartbeats 40000000 in
theorem own_m_INTEGER (l : Launch) (Z : State) (a0 : Array Value) (hw : ∀ d ∈ tables_1, d.before a0 Z = true) (ws : List Jvm.Cond) (w_STRING : Addr) (w_INTEGER : Addr) (w_LONG : Addr) (w_SHORT : Addr) (w_BYTE : Addr) (w_DOUBLE : Addr) (w_FLOAT : Addr) (w_BIG_DECIMAL : Addr) (w_BIG_INTEGER : Addr) (w_BOOLEAN : Addr) (w_LOCAL_DATE : Addr) (w_LOCAL_TIME : Addr) (w_LOCAL_DATE_TIME : Addr) (h0 : Heap) (n0 : Nat) (O0 : Old Z n0 h0) (U_STRING : own_En Z Z.heap "com/example/traversal/traversal/model/BasicType" "STRING" "Lcom/example/traversal/traversal/model/BasicType;" w_STRING (0 : Int32)) (U_INTEGER : own_En Z Z.heap "com/example/traversal/traversal/model/BasicType" "INTEGER" "Lcom/example/traversal/traversal/model/BasicType;" w_INTEGER (1 : Int32)) (U_LONG : own_En Z Z.heap "com/example/traversal/traversal/model/BasicType" "LONG" "Lcom/example/traversal/traversal/model/BasicType;" w_LONG (2 : Int32)) (U_SHORT : own_En Z Z.heap "com/example/traversal/traversal/model/BasicType" "SHORT" "Lcom/example/traversal/traversal/model/BasicType;" w_SHORT (3 : Int32)) (U_BYTE : own_En Z Z.heap "com/example/traversal/traversal/model/BasicType" "BYTE" "Lcom/example/traversal/traversal/model/BasicType;" w_BYTE (4 : Int32)) (U_DOUBLE : own_En Z Z.heap "com/example/traversal/traversal/model/BasicType" "DOUBLE" "Lcom/example/traversal/traversal/model/BasicType;" w_DOUBLE (5 : Int32)) (U_FLOAT : own_En Z Z.heap "com/example/traversal/traversal/model/BasicType" "FLOAT" "Lcom/example/traversal/traversal/model/BasicType;" w_FLOAT (6 : Int32)) (U_BIG_DECIMAL : own_En Z Z.heap "com/example/traversal/traversal/model/BasicType" "BIG_DECIMAL" "Lcom/example/traversal/traversal/model/BasicType;" w_BIG_DECIMAL (7 : Int32)) (U_BIG_INTEGER : own_En Z Z.heap "com/example/traversal/traversal/model/BasicType" "BIG_INTEGER" "Lcom/example/traversal/traversal/model/BasicType;" w_BIG_INTEGER (8 : Int32)) (U_BOOLEAN : own_En Z Z.heap "com/example/traversal/traversal/model/BasicType" "BOOLEAN" "Lcom/example/traversal/traversal/model/BasicType;" w_BOOLEAN (9 : Int32)) (U_LOCAL_DATE : own_En Z Z.heap "com/example/traversal/traversal/model/BasicType" "LOCAL_DATE" "Lcom/example/traversal/traversal/model/BasicType;" w_LOCAL_DATE (10 : Int32)) (U_LOCAL_TIME : own_En Z Z.heap "com/example/traversal/traversal/model/BasicType" "LOCAL_TIME" "Lcom/example/traversal/traversal/model/BasicType;" w_LOCAL_TIME (11 : Int32)) (U_LOCAL_DATE_TIME : own_En Z Z.heap "com/example/traversal/traversal/model/BasicType" "LOCAL_DATE_TIME" "Lcom/example/traversal/traversal/model/BasicType;" w_LOCAL_DATE_TIME (12 : Int32)) :
    MetFree l (⟨"com/example/traversal/traversal/model/BasicType", "isIntegral", "()Z"⟩ : MethodName) (head1 (Jvm.Cond.code (⟨"com/example/traversal/traversal/model/BasicType", "isIntegral", "()Z"⟩ : MethodName) prog_124_method_7_code 1 (some .boolean) :: ws) ({ frames := 0, cells := 0, slots := 0, locals := 0 } : Room)) (fun a U => a = #[(.ref w_INTEGER)] ∧ Z.Warmed39 U.vm ∧ U.heap = h0) (fun _ _ _ _ _ => True) (fun _ U o U' => ∃ v L, o = .returned v ∧ own_m_INTEGER_Q Z w_STRING w_INTEGER w_LONG w_SHORT w_BYTE w_DOUBLE w_FLOAT w_BIG_DECIMAL w_BIG_INTEGER w_BOOLEAN w_LOCAL_DATE w_LOCAL_TIME w_LOCAL_DATE_TIME h0 n0 v U'.heap L ∧ FrameEnd U o U' L ({ frames := 0, cells := 0, slots := 0, locals := 0 } : Room).cells ({ frames := 0, cells := 0, slots := 0, locals := 0 } : Room).slots) := by
  refine MetFree.of_bodySF (plainFor_of_name own_pn0) hisR ?_
  intro p e s m args below meth c s₁ Bd hml0 hP hK
  obtain ⟨rfl, hZ, hh⟩ := hP
  have hx := Bd.exec
  have hby := Bd.bytes
  have hml : c.maxLocals = 1 := hml0
  have hown : s.vm.findClass "com/example/traversal/traversal/model/BasicType" = some m.cls := findClass_of_methodNamed Bd.named
  have hnm := (name_of_methodNamed Bd.named Bd.method).1
  have X0 : Stand p l e ({ frames := 0, cells := 0, slots := 0, locals := 0 } : Room) s m #[(.ref w_INTEGER)] below meth c s₁ [] 0 0 := Stand.of_body Bd
  have e0 : s₁.heap = h0 := by rw [← hh, Bd.state]; rfl
  have N0 := Fr.nil n0
  have pre0 : ∀ t, Steps p.tables e below (s₁.setTop (mkF m 0 #[rv w_INTEGER] [])) t → Steps p.tables e below (s₁.setTop (entryFrame m #[(.ref w_INTEGER)] 1)) t := fun t k => castTop (own_m_INTEGER_ef m w_INTEGER) k
  obtain ⟨T1, X1, e1, st1⟩ := getS2 X0 hx hZ hown (host := "") (Or.inl (hw _ (List.mem_of_getElem? (i := 13) rfl))) Via.refl e0 (U_INTEGER.1.ext O0.2) (g := (mkF m 1 #[rv w_INTEGER] [(.ref w_INTEGER)])) rfl (hb hby own_d2_1)
  obtain ⟨fs, hr, hrun, hended, hW, hsame⟩ := X1.leave (v := some (.int 1)) (fun h => by rw [Bd.returns] at h; cases h)
  refine ⟨_, _, pre0 _ ?_, hrun, hended, _, _, rfl, ?_, ⟨_, rfl⟩, hW, hsame.mono (by decide) (by decide)⟩
  · show Steps p.tables e below (s₁.setTop (mkF m 0 #[rv w_INTEGER] [])) _
    refine XS.aloadN X0.here hx rfl (hb hby own_d2_0) rfl rfl ?_
    show Steps p.tables e below (s₁.setTop (mkF m 1 #[rv w_INTEGER] [(.ref w_INTEGER)])) _
    refine st1 _ ?_
    show Steps p.tables e below (T1.setTop (mkF m 4 #[rv w_INTEGER] [(.ref w_INTEGER), (.ref w_INTEGER)])) _
    refine Jvm.RoadKit.acmp (g := (mkF m 4 #[rv w_INTEGER] [(.ref w_INTEGER), (.ref w_INTEGER)])) X1 hx rfl rfl rfl (pc0 := 4) (pc' := 35) (same := true) rfl (hb hby own_d2_4) rfl (decide_eq_true rfl) (by decide) (by decide) ?_
    show Steps p.tables e below (T1.setTop (mkF m 35 #[rv w_INTEGER] [])) _
    refine XS.iconst X1.here hx rfl (hb hby own_d2_35) ?_
    show Steps p.tables e below (T1.setTop (mkF m 36 #[rv w_INTEGER] [(.int 1)])) _
    refine XS.goto X1.here hx rfl (pc0 := 36) (pc' := 40) rfl (hb hby own_d2_36) (by decide) (by decide) ?_
    show Steps p.tables e below (T1.setTop (mkF m 40 #[rv w_INTEGER] [(.int 1)])) _
    exact retN X1 hx (t := .boolean) Bd.returns (by simp) (hb hby own_d2_40) hr
  · show own_m_INTEGER_Q Z w_STRING w_INTEGER w_LONG w_SHORT w_BYTE w_DOUBLE w_FLOAT w_BIG_DECIMAL w_BIG_INTEGER w_BOOLEAN w_LOCAL_DATE w_LOCAL_TIME w_LOCAL_DATE_TIME h0 n0 _ T1.heap _
    rw [e1]
    exact ⟨rfl, N0, rfl⟩
theorem own_m_LONG_ef (m : MethodId) (w_LONG : Addr) : entryFrame m #[(.ref w_LONG)] 1 = mkF m 0 #[rv w_LONG] [] := by first | (simp [entryFrame, mkF, argsToLocals, Value.category]; done) | rfl
def own_m_LONG_Q (Z : State) (w_STRING : Addr) (w_INTEGER : Addr) (w_LONG : Addr) (w_SHORT : Addr) (w_BYTE : Addr) (w_DOUBLE : Addr) (w_FLOAT : Addr) (w_BIG_DECIMAL : Addr) (w_BIG_INTEGER : Addr) (w_BOOLEAN : Addr) (w_LOCAL_DATE : Addr) (w_LOCAL_TIME : Addr) (w_LOCAL_DATE_TIME : Addr) (h0 : Heap) (n0 : Nat) (v : Option Value) (h : Heap) (L : List Loc) : Prop := v = some (.int 1) ∧ Fr n0 L ∧ h = h0
set_option maxRecDepth 65536 in
set_option maxHeartbeats 40000000 in
theorem own_m_LONG (l : Launch) (Z : State) (a0 : Array Value) (hw : ∀ d ∈ tables_1, d.before a0 Z = true) (ws : List Jvm.Cond) (w_STRING : Addr) (w_INTEGER : Addr) (w_LONG : Addr) (w_SHORT : Addr) (w_BYTE : Addr) (w_DOUBLE : Addr) (w_FLOAT : Addr) (w_BIG_DECIMAL : Addr) (w_BIG_INTEGER : Addr) (w_BOOLEAN : Addr) (w_LOCAL_DATE : Addr) (w_LOCAL_TIME : Addr) (w_LOCAL_DATE_TIME : Addr) (h0 : Heap) (n0 : Nat) (O0 : Old Z n0 h0) (U_STRING : own_En Z Z.heap "com/example/traversal/traversal/model/BasicType" "STRING" "Lcom/example/traversal/traversal/model/BasicType;" w_STRING (0 : Int32)) (U_INTEGER : own_En Z Z.heap "com/example/traversal/traversal/model/BasicType" "INTEGER" "Lcom/example/traversal/traversal/model/BasicType;" w_INTEGER (1 : Int32)) (U_LONG : own_En Z Z.heap "com/example/traversal/traversal/model/BasicType" "LONG" "Lcom/example/traversal/traversal/model/BasicType;" w_LONG (2 : Int32)) (U_SHORT : own_En Z Z.heap "com/example/traversal/traversal/model/BasicType" "SHORT" "Lcom/example/traversal/traversal/model/BasicType;" w_SHORT (3 : Int32)) (U_BYTE : own_En Z Z.heap "com/example/traversal/traversal/model/BasicType" "BYTE" "Lcom/example/traversal/traversal/model/BasicType;" w_BYTE (4 : Int32)) (U_DOUBLE : own_En Z Z.heap "com/example/traversal/traversal/model/BasicType" "DOUBLE" "Lcom/example/traversal/traversal/model/BasicType;" w_DOUBLE (5 : Int32)) (U_FLOAT : own_En Z Z.heap "com/example/traversal/traversal/model/BasicType" "FLOAT" "Lcom/example/traversal/traversal/model/BasicType;" w_FLOAT (6 : Int32)) (U_BIG_DECIMAL : own_En Z Z.heap "com/example/traversal/traversal/model/BasicType" "BIG_DECIMAL" "Lcom/example/traversal/traversal/model/BasicType;" w_BIG_DECIMAL (7 : Int32)) (U_BIG_INTEGER : own_En Z Z.heap "com/example/traversal/traversal/model/BasicType" "BIG_INTEGER" "Lcom/example/traversal/traversal/model/BasicType;" w_BIG_INTEGER (8 : Int32)) (U_BOOLEAN : own_En Z Z.heap "com/example/traversal/traversal/model/BasicType" "BOOLEAN" "Lcom/example/traversal/traversal/model/BasicType;" w_BOOLEAN (9 : Int32)) (U_LOCAL_DATE : own_En Z Z.heap "com/example/traversal/traversal/model/BasicType" "LOCAL_DATE" "Lcom/example/traversal/traversal/model/BasicType;" w_LOCAL_DATE (10 : Int32)) (U_LOCAL_TIME : own_En Z Z.heap "com/example/traversal/traversal/model/BasicType" "LOCAL_TIME" "Lcom/example/traversal/traversal/model/BasicType;" w_LOCAL_TIME (11 : Int32)) (U_LOCAL_DATE_TIME : own_En Z Z.heap "com/example/traversal/traversal/model/BasicType" "LOCAL_DATE_TIME" "Lcom/example/traversal/traversal/model/BasicType;" w_LOCAL_DATE_TIME (12 : Int32)) :
    MetFree l (⟨"com/example/traversal/traversal/model/BasicType", "isIntegral", "()Z"⟩ : MethodName) (head1 (Jvm.Cond.code (⟨"com/example/traversal/traversal/model/BasicType", "isIntegral", "()Z"⟩ : MethodName) prog_124_method_7_code 1 (some .boolean) :: ws) ({ frames := 0, cells := 0, slots := 0, locals := 0 } : Room)) (fun a U => a = #[(.ref w_LONG)] ∧ Z.Warmed39 U.vm ∧ U.heap = h0) (fun _ _ _ _ _ => True) (fun _ U o U' => ∃ v L, o = .returned v ∧ own_m_LONG_Q Z w_STRING w_INTEGER w_LONG w_SHORT w_BYTE w_DOUBLE w_FLOAT w_BIG_DECIMAL w_BIG_INTEGER w_BOOLEAN w_LOCAL_DATE w_LOCAL_TIME w_LOCAL_DATE_TIME h0 n0 v U'.heap L ∧ FrameEnd U o U' L ({ frames := 0, cells := 0, slots := 0, locals := 0 } : Room).cells ({ frames := 0, cells := 0, slots := 0, locals := 0 } : Room).slots) := by
  refine MetFree.of_bodySF (plainFor_of_name own_pn0) hisR ?_
  intro p e s m args below meth c s₁ Bd hml0 hP hK
  obtain ⟨rfl, hZ, hh⟩ := hP
  have hx := Bd.exec
  have hby := Bd.bytes
  have hml : c.maxLocals = 1 := hml0
  have hown : s.vm.findClass "com/example/traversal/traversal/model/BasicType" = some m.cls := findClass_of_methodNamed Bd.named
  have hnm := (name_of_methodNamed Bd.named Bd.method).1
  have X0 : Stand p l e ({ frames := 0, cells := 0, slots := 0, locals := 0 } : Room) s m #[(.ref w_LONG)] below meth c s₁ [] 0 0 := Stand.of_body Bd
  have e0 : s₁.heap = h0 := by rw [← hh, Bd.state]; rfl
  have N0 := Fr.nil n0
  have pre0 : ∀ t, Steps p.tables e below (s₁.setTop (mkF m 0 #[rv w_LONG] [])) t → Steps p.tables e below (s₁.setTop (entryFrame m #[(.ref w_LONG)] 1)) t := fun t k => castTop (own_m_LONG_ef m w_LONG) k
  obtain ⟨T1, X1, e1, st1⟩ := getS2 X0 hx hZ hown (host := "") (Or.inl (hw _ (List.mem_of_getElem? (i := 13) rfl))) Via.refl e0 (U_INTEGER.1.ext O0.2) (g := (mkF m 1 #[rv w_LONG] [(.ref w_LONG)])) rfl (hb hby own_d2_1)
  obtain ⟨T2, X2, e2, st2⟩ := getS2 X1 hx hZ hown (host := "") (Or.inl (hw _ (List.mem_of_getElem? (i := 15) rfl))) Via.refl e1 (U_LONG.1.ext O0.2) (g := (mkF m 8 #[rv w_LONG] [(.ref w_LONG)])) rfl (hb hby own_d2_8)
  obtain ⟨fs, hr, hrun, hended, hW, hsame⟩ := X2.leave (v := some (.int 1)) (fun h => by rw [Bd.returns] at h; cases h)
  refine ⟨_, _, pre0 _ ?_, hrun, hended, _, _, rfl, ?_, ⟨_, rfl⟩, hW, hsame.mono (by decide) (by decide)⟩
  · show Steps p.tables e below (s₁.setTop (mkF m 0 #[rv w_LONG] [])) _
    refine XS.aloadN X0.here hx rfl (hb hby own_d2_0) rfl rfl ?_
    show Steps p.tables e below (s₁.setTop (mkF m 1 #[rv w_LONG] [(.ref w_LONG)])) _
    refine st1 _ ?_
    show Steps p.tables e below (T1.setTop (mkF m 4 #[rv w_LONG] [(.ref w_INTEGER), (.ref w_LONG)])) _
    refine Jvm.RoadKit.acmp (g := (mkF m 4 #[rv w_LONG] [(.ref w_INTEGER), (.ref w_LONG)])) X1 hx rfl rfl rfl (pc0 := 4) (pc' := 7) (same := false) rfl (hb hby own_d2_4) rfl (decide_eq_false fun q => (Ne.symm (Fld.ne U_INTEGER.2.2 U_LONG.2.2 (by decide))) (Value.ref.inj q)) (by decide) (by decide) ?_
    show Steps p.tables e below (T1.setTop (mkF m 7 #[rv w_LONG] [])) _
    refine XS.aloadN X1.here hx rfl (hb hby own_d2_7) rfl rfl ?_
    show Steps p.tables e below (T1.setTop (mkF m 8 #[rv w_LONG] [(.ref w_LONG)])) _
    refine st2 _ ?_
    show Steps p.tables e below (T2.setTop (mkF m 11 #[rv w_LONG] [(.ref w_LONG), (.ref w_LONG)])) _
    refine Jvm.RoadKit.acmp (g := (mkF m 11 #[rv w_LONG] [(.ref w_LONG), (.ref w_LONG)])) X2 hx rfl rfl rfl (pc0 := 11) (pc' := 35) (same := true) rfl (hb hby own_d2_11) rfl (decide_eq_true rfl) (by decide) (by decide) ?_
    show Steps p.tables e below (T2.setTop (mkF m 35 #[rv w_LONG] [])) _
    refine XS.iconst X2.here hx rfl (hb hby own_d2_35) ?_
    show Steps p.tables e below (T2.setTop (mkF m 36 #[rv w_LONG] [(.int 1)])) _
    refine XS.goto X2.here hx rfl (pc0 := 36) (pc' := 40) rfl (hb hby own_d2_36) (by decide) (by decide) ?_
    show Steps p.tables e below (T2.setTop (mkF m 40 #[rv w_LONG] [(.int 1)])) _
    exact retN X2 hx (t := .boolean) Bd.returns (by simp) (hb hby own_d2_40) hr
  · show own_m_LONG_Q Z w_STRING w_INTEGER w_LONG w_SHORT w_BYTE w_DOUBLE w_FLOAT w_BIG_DECIMAL w_BIG_INTEGER w_BOOLEAN w_LOCAL_DATE w_LOCAL_TIME w_LOCAL_DATE_TIME h0 n0 _ T2.heap _
    rw [e2]
    exact ⟨rfl, N0, rfl⟩
theorem own_m_SHORT_ef (m : MethodId) (w_SHORT : Addr) : entryFrame m #[(.ref w_SHORT)] 1 = mkF m 0 #[rv w_SHORT] [] := by first | (simp [entryFrame, mkF, argsToLocals, Value.category]; done) | rfl
def own_m_SHORT_Q (Z : State) (w_STRING : Addr) (w_INTEGER : Addr) (w_LONG : Addr) (w_SHORT : Addr) (w_BYTE : Addr) (w_DOUBLE : Addr) (w_FLOAT : Addr) (w_BIG_DECIMAL : Addr) (w_BIG_INTEGER : Addr) (w_BOOLEAN : Addr) (w_LOCAL_DATE : Addr) (w_LOCAL_TIME : Addr) (w_LOCAL_DATE_TIME : Addr) (h0 : Heap) (n0 : Nat) (v : Option Value) (h : Heap) (L : List Loc) : Prop := v = some (.int 1) ∧ Fr n0 L ∧ h = h0
set_option maxRecDepth 65536 in
set_option maxHeartbeats 40000000 in
theorem own_m_SHORT (l : Launch) (Z : State) (a0 : Array Value) (hw : ∀ d ∈ tables_1, d.before a0 Z = true) (ws : List Jvm.Cond) (w_STRING : Addr) (w_INTEGER : Addr) (w_LONG : Addr) (w_SHORT : Addr) (w_BYTE : Addr) (w_DOUBLE : Addr) (w_FLOAT : Addr) (w_BIG_DECIMAL : Addr) (w_BIG_INTEGER : Addr) (w_BOOLEAN : Addr) (w_LOCAL_DATE : Addr) (w_LOCAL_TIME : Addr) (w_LOCAL_DATE_TIME : Addr) (h0 : Heap) (n0 : Nat) (O0 : Old Z n0 h0) (U_STRING : own_En Z Z.heap "com/example/traversal/traversal/model/BasicType" "STRING" "Lcom/example/traversal/traversal/model/BasicType;" w_STRING (0 : Int32)) (U_INTEGER : own_En Z Z.heap "com/example/traversal/traversal/model/BasicType" "INTEGER" "Lcom/example/traversal/traversal/model/BasicType;" w_INTEGER (1 : Int32)) (U_LONG : own_En Z Z.heap "com/example/traversal/traversal/model/BasicType" "LONG" "Lcom/example/traversal/traversal/model/BasicType;" w_LONG (2 : Int32)) (U_SHORT : own_En Z Z.heap "com/example/traversal/traversal/model/BasicType" "SHORT" "Lcom/example/traversal/traversal/model/BasicType;" w_SHORT (3 : Int32)) (U_BYTE : own_En Z Z.heap "com/example/traversal/traversal/model/BasicType" "BYTE" "Lcom/example/traversal/traversal/model/BasicType;" w_BYTE (4 : Int32)) (U_DOUBLE : own_En Z Z.heap "com/example/traversal/traversal/model/BasicType" "DOUBLE" "Lcom/example/traversal/traversal/model/BasicType;" w_DOUBLE (5 : Int32)) (U_FLOAT : own_En Z Z.heap "com/example/traversal/traversal/model/BasicType" "FLOAT" "Lcom/example/traversal/traversal/model/BasicType;" w_FLOAT (6 : Int32)) (U_BIG_DECIMAL : own_En Z Z.heap "com/example/traversal/traversal/model/BasicType" "BIG_DECIMAL" "Lcom/example/traversal/traversal/model/BasicType;" w_BIG_DECIMAL (7 : Int32)) (U_BIG_INTEGER : own_En Z Z.heap "com/example/traversal/traversal/model/BasicType" "BIG_INTEGER" "Lcom/example/traversal/traversal/model/BasicType;" w_BIG_INTEGER (8 : Int32)) (U_BOOLEAN : own_En Z Z.heap "com/example/traversal/traversal/model/BasicType" "BOOLEAN" "Lcom/example/traversal/traversal/model/BasicType;" w_BOOLEAN (9 : Int32)) (U_LOCAL_DATE : own_En Z Z.heap "com/example/traversal/traversal/model/BasicType" "LOCAL_DATE" "Lcom/example/traversal/traversal/model/BasicType;" w_LOCAL_DATE (10 : Int32)) (U_LOCAL_TIME : own_En Z Z.heap "com/example/traversal/traversal/model/BasicType" "LOCAL_TIME" "Lcom/example/traversal/traversal/model/BasicType;" w_LOCAL_TIME (11 : Int32)) (U_LOCAL_DATE_TIME : own_En Z Z.heap "com/example/traversal/traversal/model/BasicType" "LOCAL_DATE_TIME" "Lcom/example/traversal/traversal/model/BasicType;" w_LOCAL_DATE_TIME (12 : Int32)) :
    MetFree l (⟨"com/example/traversal/traversal/model/BasicType", "isIntegral", "()Z"⟩ : MethodName) (head1 (Jvm.Cond.code (⟨"com/example/traversal/traversal/model/BasicType", "isIntegral", "()Z"⟩ : MethodName) prog_124_method_7_code 1 (some .boolean) :: ws) ({ frames := 0, cells := 0, slots := 0, locals := 0 } : Room)) (fun a U => a = #[(.ref w_SHORT)] ∧ Z.Warmed39 U.vm ∧ U.heap = h0) (fun _ _ _ _ _ => True) (fun _ U o U' => ∃ v L, o = .returned v ∧ own_m_SHORT_Q Z w_STRING w_INTEGER w_LONG w_SHORT w_BYTE w_DOUBLE w_FLOAT w_BIG_DECIMAL w_BIG_INTEGER w_BOOLEAN w_LOCAL_DATE w_LOCAL_TIME w_LOCAL_DATE_TIME h0 n0 v U'.heap L ∧ FrameEnd U o U' L ({ frames := 0, cells := 0, slots := 0, locals := 0 } : Room).cells ({ frames := 0, cells := 0, slots := 0, locals := 0 } : Room).slots) := by
  refine MetFree.of_bodySF (plainFor_of_name own_pn0) hisR ?_
  intro p e s m args below meth c s₁ Bd hml0 hP hK
  obtain ⟨rfl, hZ, hh⟩ := hP
  have hx := Bd.exec
  have hby := Bd.bytes
  have hml : c.maxLocals = 1 := hml0
  have hown : s.vm.findClass "com/example/traversal/traversal/model/BasicType" = some m.cls := findClass_of_methodNamed Bd.named
  have hnm := (name_of_methodNamed Bd.named Bd.method).1
  have X0 : Stand p l e ({ frames := 0, cells := 0, slots := 0, locals := 0 } : Room) s m #[(.ref w_SHORT)] below meth c s₁ [] 0 0 := Stand.of_body Bd
  have e0 : s₁.heap = h0 := by rw [← hh, Bd.state]; rfl
  have N0 := Fr.nil n0
  have pre0 : ∀ t, Steps p.tables e below (s₁.setTop (mkF m 0 #[rv w_SHORT] [])) t → Steps p.tables e below (s₁.setTop (entryFrame m #[(.ref w_SHORT)] 1)) t := fun t k => castTop (own_m_SHORT_ef m w_SHORT) k
  obtain ⟨T1, X1, e1, st1⟩ := getS2 X0 hx hZ hown (host := "") (Or.inl (hw _ (List.mem_of_getElem? (i := 13) rfl))) Via.refl e0 (U_INTEGER.1.ext O0.2) (g := (mkF m 1 #[rv w_SHORT] [(.ref w_SHORT)])) rfl (hb hby own_d2_1)
  obtain ⟨T2, X2, e2, st2⟩ := getS2 X1 hx hZ hown (host := "") (Or.inl (hw _ (List.mem_of_getElem? (i := 15) rfl))) Via.refl e1 (U_LONG.1.ext O0.2) (g := (mkF m 8 #[rv w_SHORT] [(.ref w_SHORT)])) rfl (hb hby own_d2_8)
  obtain ⟨T3, X3, e3, st3⟩ := getS2 X2 hx hZ hown (host := "") (Or.inl (hw _ (List.mem_of_getElem? (i := 17) rfl))) Via.refl e2 (U_SHORT.1.ext O0.2) (g := (mkF m 15 #[rv w_SHORT] [(.ref w_SHORT)])) rfl (hb hby own_d2_15)
  obtain ⟨fs, hr, hrun, hended, hW, hsame⟩ := X3.leave (v := some (.int 1)) (fun h => by rw [Bd.returns] at h; cases h)
  refine ⟨_, _, pre0 _ ?_, hrun, hended, _, _, rfl, ?_, ⟨_, rfl⟩, hW, hsame.mono (by decide) (by decide)⟩
  · show Steps p.tables e below (s₁.setTop (mkF m 0 #[rv w_SHORT] [])) _
    refine XS.aloadN X0.here hx rfl (hb hby own_d2_0) rfl rfl ?_
    show Steps p.tables e below (s₁.setTop (mkF m 1 #[rv w_SHORT] [(.ref w_SHORT)])) _
    refine st1 _ ?_
    show Steps p.tables e below (T1.setTop (mkF m 4 #[rv w_SHORT] [(.ref w_INTEGER), (.ref w_SHORT)])) _
    refine Jvm.RoadKit.acmp (g := (mkF m 4 #[rv w_SHORT] [(.ref w_INTEGER), (.ref w_SHORT)])) X1 hx rfl rfl rfl (pc0 := 4) (pc' := 7) (same := false) rfl (hb hby own_d2_4) rfl (decide_eq_false fun q => (Ne.symm (Fld.ne U_INTEGER.2.2 U_SHORT.2.2 (by decide))) (Value.ref.inj q)) (by decide) (by decide) ?_
    show Steps p.tables e below (T1.setTop (mkF m 7 #[rv w_SHORT] [])) _
    refine XS.aloadN X1.here hx rfl (hb hby own_d2_7) rfl rfl ?_
    show Steps p.tables e below (T1.setTop (mkF m 8 #[rv w_SHORT] [(.ref w_SHORT)])) _
    refine st2 _ ?_
    show Steps p.tables e below (T2.setTop (mkF m 11 #[rv w_SHORT] [(.ref w_LONG), (.ref w_SHORT)])) _
    refine Jvm.RoadKit.acmp (g := (mkF m 11 #[rv w_SHORT] [(.ref w_LONG), (.ref w_SHORT)])) X2 hx rfl rfl rfl (pc0 := 11) (pc' := 14) (same := false) rfl (hb hby own_d2_11) rfl (decide_eq_false fun q => (Ne.symm (Fld.ne U_LONG.2.2 U_SHORT.2.2 (by decide))) (Value.ref.inj q)) (by decide) (by decide) ?_
    show Steps p.tables e below (T2.setTop (mkF m 14 #[rv w_SHORT] [])) _
    refine XS.aloadN X2.here hx rfl (hb hby own_d2_14) rfl rfl ?_
    show Steps p.tables e below (T2.setTop (mkF m 15 #[rv w_SHORT] [(.ref w_SHORT)])) _
    refine st3 _ ?_
    show Steps p.tables e below (T3.setTop (mkF m 18 #[rv w_SHORT] [(.ref w_SHORT), (.ref w_SHORT)])) _
    refine Jvm.RoadKit.acmp (g := (mkF m 18 #[rv w_SHORT] [(.ref w_SHORT), (.ref w_SHORT)])) X3 hx rfl rfl rfl (pc0 := 18) (pc' := 35) (same := true) rfl (hb hby own_d2_18) rfl (decide_eq_true rfl) (by decide) (by decide) ?_
    show Steps p.tables e below (T3.setTop (mkF m 35 #[rv w_SHORT] [])) _
    refine XS.iconst X3.here hx rfl (hb hby own_d2_35) ?_
    show Steps p.tables e below (T3.setTop (mkF m 36 #[rv w_SHORT] [(.int 1)])) _
    refine XS.goto X3.here hx rfl (pc0 := 36) (pc' := 40) rfl (hb hby own_d2_36) (by decide) (by decide) ?_
    show Steps p.tables e below (T3.setTop (mkF m 40 #[rv w_SHORT] [(.int 1)])) _
    exact retN X3 hx (t := .boolean) Bd.returns (by simp) (hb hby own_d2_40) hr
  · show own_m_SHORT_Q Z w_STRING w_INTEGER w_LONG w_SHORT w_BYTE w_DOUBLE w_FLOAT w_BIG_DECIMAL w_BIG_INTEGER w_BOOLEAN w_LOCAL_DATE w_LOCAL_TIME w_LOCAL_DATE_TIME h0 n0 _ T3.heap _
    rw [e3]
    exact ⟨rfl, N0, rfl⟩
theorem own_m_BYTE_ef (m : MethodId) (w_BYTE : Addr) : entryFrame m #[(.ref w_BYTE)] 1 = mkF m 0 #[rv w_BYTE] [] := by first | (simp [entryFrame, mkF, argsToLocals, Value.category]; done) | rfl
def own_m_BYTE_Q (Z : State) (w_STRING : Addr) (w_INTEGER : Addr) (w_LONG : Addr) (w_SHORT : Addr) (w_BYTE : Addr) (w_DOUBLE : Addr) (w_FLOAT : Addr) (w_BIG_DECIMAL : Addr) (w_BIG_INTEGER : Addr) (w_BOOLEAN : Addr) (w_LOCAL_DATE : Addr) (w_LOCAL_TIME : Addr) (w_LOCAL_DATE_TIME : Addr) (h0 : Heap) (n0 : Nat) (v : Option Value) (h : Heap) (L : List Loc) : Prop := v = some (.int 1) ∧ Fr n0 L ∧ h = h0
set_option maxRecDepth 65536 in
set_option maxHeartbeats 40000000 in
theorem own_m_BYTE (l : Launch) (Z : State) (a0 : Array Value) (hw : ∀ d ∈ tables_1, d.before a0 Z = true) (ws : List Jvm.Cond) (w_STRING : Addr) (w_INTEGER : Addr) (w_LONG : Addr) (w_SHORT : Addr) (w_BYTE : Addr) (w_DOUBLE : Addr) (w_FLOAT : Addr) (w_BIG_DECIMAL : Addr) (w_BIG_INTEGER : Addr) (w_BOOLEAN : Addr) (w_LOCAL_DATE : Addr) (w_LOCAL_TIME : Addr) (w_LOCAL_DATE_TIME : Addr) (h0 : Heap) (n0 : Nat) (O0 : Old Z n0 h0) (U_STRING : own_En Z Z.heap "com/example/traversal/traversal/model/BasicType" "STRING" "Lcom/example/traversal/traversal/model/BasicType;" w_STRING (0 : Int32)) (U_INTEGER : own_En Z Z.heap "com/example/traversal/traversal/model/BasicType" "INTEGER" "Lcom/example/traversal/traversal/model/BasicType;" w_INTEGER (1 : Int32)) (U_LONG : own_En Z Z.heap "com/example/traversal/traversal/model/BasicType" "LONG" "Lcom/example/traversal/traversal/model/BasicType;" w_LONG (2 : Int32)) (U_SHORT : own_En Z Z.heap "com/example/traversal/traversal/model/BasicType" "SHORT" "Lcom/example/traversal/traversal/model/BasicType;" w_SHORT (3 : Int32)) (U_BYTE : own_En Z Z.heap "com/example/traversal/traversal/model/BasicType" "BYTE" "Lcom/example/traversal/traversal/model/BasicType;" w_BYTE (4 : Int32)) (U_DOUBLE : own_En Z Z.heap "com/example/traversal/traversal/model/BasicType" "DOUBLE" "Lcom/example/traversal/traversal/model/BasicType;" w_DOUBLE (5 : Int32)) (U_FLOAT : own_En Z Z.heap "com/example/traversal/traversal/model/BasicType" "FLOAT" "Lcom/example/traversal/traversal/model/BasicType;" w_FLOAT (6 : Int32)) (U_BIG_DECIMAL : own_En Z Z.heap "com/example/traversal/traversal/model/BasicType" "BIG_DECIMAL" "Lcom/example/traversal/traversal/model/BasicType;" w_BIG_DECIMAL (7 : Int32)) (U_BIG_INTEGER : own_En Z Z.heap "com/example/traversal/traversal/model/BasicType" "BIG_INTEGER" "Lcom/example/traversal/traversal/model/BasicType;" w_BIG_INTEGER (8 : Int32)) (U_BOOLEAN : own_En Z Z.heap "com/example/traversal/traversal/model/BasicType" "BOOLEAN" "Lcom/example/traversal/traversal/model/BasicType;" w_BOOLEAN (9 : Int32)) (U_LOCAL_DATE : own_En Z Z.heap "com/example/traversal/traversal/model/BasicType" "LOCAL_DATE" "Lcom/example/traversal/traversal/model/BasicType;" w_LOCAL_DATE (10 : Int32)) (U_LOCAL_TIME : own_En Z Z.heap "com/example/traversal/traversal/model/BasicType" "LOCAL_TIME" "Lcom/example/traversal/traversal/model/BasicType;" w_LOCAL_TIME (11 : Int32)) (U_LOCAL_DATE_TIME : own_En Z Z.heap "com/example/traversal/traversal/model/BasicType" "LOCAL_DATE_TIME" "Lcom/example/traversal/traversal/model/BasicType;" w_LOCAL_DATE_TIME (12 : Int32)) :
    MetFree l (⟨"com/example/traversal/traversal/model/BasicType", "isIntegral", "()Z"⟩ : MethodName) (head1 (Jvm.Cond.code (⟨"com/example/traversal/traversal/model/BasicType", "isIntegral", "()Z"⟩ : MethodName) prog_124_method_7_code 1 (some .boolean) :: ws) ({ frames := 0, cells := 0, slots := 0, locals := 0 } : Room)) (fun a U => a = #[(.ref w_BYTE)] ∧ Z.Warmed39 U.vm ∧ U.heap = h0) (fun _ _ _ _ _ => True) (fun _ U o U' => ∃ v L, o = .returned v ∧ own_m_BYTE_Q Z w_STRING w_INTEGER w_LONG w_SHORT w_BYTE w_DOUBLE w_FLOAT w_BIG_DECIMAL w_BIG_INTEGER w_BOOLEAN w_LOCAL_DATE w_LOCAL_TIME w_LOCAL_DATE_TIME h0 n0 v U'.heap L ∧ FrameEnd U o U' L ({ frames := 0, cells := 0, slots := 0, locals := 0 } : Room).cells ({ frames := 0, cells := 0, slots := 0, locals := 0 } : Room).slots) := by
  refine MetFree.of_bodySF (plainFor_of_name own_pn0) hisR ?_
  intro p e s m args below meth c s₁ Bd hml0 hP hK
  obtain ⟨rfl, hZ, hh⟩ := hP
  have hx := Bd.exec
  have hby := Bd.bytes
  have hml : c.maxLocals = 1 := hml0
  have hown : s.vm.findClass "com/example/traversal/traversal/model/BasicType" = some m.cls := findClass_of_methodNamed Bd.named
  have hnm := (name_of_methodNamed Bd.named Bd.method).1
  have X0 : Stand p l e ({ frames := 0, cells := 0, slots := 0, locals := 0 } : Room) s m #[(.ref w_BYTE)] below meth c s₁ [] 0 0 := Stand.of_body Bd
  have e0 : s₁.heap = h0 := by rw [← hh, Bd.state]; rfl
  have N0 := Fr.nil n0
  have pre0 : ∀ t, Steps p.tables e below (s₁.setTop (mkF m 0 #[rv w_BYTE] [])) t → Steps p.tables e below (s₁.setTop (entryFrame m #[(.ref w_BYTE)] 1)) t := fun t k => castTop (own_m_BYTE_ef m w_BYTE) k
  obtain ⟨T1, X1, e1, st1⟩ := getS2 X0 hx hZ hown (host := "") (Or.inl (hw _ (List.mem_of_getElem? (i := 13) rfl))) Via.refl e0 (U_INTEGER.1.ext O0.2) (g := (mkF m 1 #[rv w_BYTE] [(.ref w_BYTE)])) rfl (hb hby own_d2_1)
  obtain ⟨T2, X2, e2, st2⟩ := getS2 X1 hx hZ hown (host := "") (Or.inl (hw _ (List.mem_of_getElem? (i := 15) rfl))) Via.refl e1 (U_LONG.1.ext O0.2) (g := (mkF m 8 #[rv w_BYTE] [(.ref w_BYTE)])) rfl (hb hby own_d2_8)
  obtain ⟨T3, X3, e3, st3⟩ := getS2 X2 hx hZ hown (host := "") (Or.inl (hw _ (List.mem_of_getElem? (i := 17) rfl))) Via.refl e2 (U_SHORT.1.ext O0.2) (g := (mkF m 15 #[rv w_BYTE] [(.ref w_BYTE)])) rfl (hb hby own_d2_15)
  obtain ⟨T4, X4, e4, st4⟩ := getS2 X3 hx hZ hown (host := "") (Or.inl (hw _ (List.mem_of_getElem? (i := 19) rfl))) Via.refl e3 (U_BYTE.1.ext O0.2) (g := (mkF m 22 #[rv w_BYTE] [(.ref w_BYTE)])) rfl (hb hby own_d2_22)
  obtain ⟨fs, hr, hrun, hended, hW, hsame⟩ := X4.leave (v := some (.int 1)) (fun h => by rw [Bd.returns] at h; cases h)
  refine ⟨_, _, pre0 _ ?_, hrun, hended, _, _, rfl, ?_, ⟨_, rfl⟩, hW, hsame.mono (by decide) (by decide)⟩
  · show Steps p.tables e below (s₁.setTop (mkF m 0 #[rv w_BYTE] [])) _
    refine XS.aloadN X0.here hx rfl (hb hby own_d2_0) rfl rfl ?_
    show Steps p.tables e below (s₁.setTop (mkF m 1 #[rv w_BYTE] [(.ref w_BYTE)])) _
    refine st1 _ ?_
    show Steps p.tables e below (T1.setTop (mkF m 4 #[rv w_BYTE] [(.ref w_INTEGER), (.ref w_BYTE)])) _
    refine Jvm.RoadKit.acmp (g := (mkF m 4 #[rv w_BYTE] [(.ref w_INTEGER), (.ref w_BYTE)])) X1 hx rfl rfl rfl (pc0 := 4) (pc' := 7) (same := false) rfl (hb hby own_d2_4) rfl (decide_eq_false fun q => (Ne.symm (Fld.ne U_INTEGER.2.2 U_BYTE.2.2 (by decide))) (Value.ref.inj q)) (by decide) (by decide) ?_
    show Steps p.tables e below (T1.setTop (mkF m 7 #[rv w_BYTE] [])) _
    refine XS.aloadN X1.here hx rfl (hb hby own_d2_7) rfl rfl ?_
    show Steps p.tables e below (T1.setTop (mkF m 8 #[rv w_BYTE] [(.ref w_BYTE)])) _
    refine st2 _ ?_
    show Steps p.tables e below (T2.setTop (mkF m 11 #[rv w_BYTE] [(.ref w_LONG), (.ref w_BYTE)])) _
    refine Jvm.RoadKit.acmp (g := (mkF m 11 #[rv w_BYTE] [(.ref w_LONG), (.ref w_BYTE)])) X2 hx rfl rfl rfl (pc0 := 11) (pc' := 14) (same := false) rfl (hb hby own_d2_11) rfl (decide_eq_false fun q => (Ne.symm (Fld.ne U_LONG.2.2 U_BYTE.2.2 (by decide))) (Value.ref.inj q)) (by decide) (by decide) ?_
    show Steps p.tables e below (T2.setTop (mkF m 14 #[rv w_BYTE] [])) _
    refine XS.aloadN X2.here hx rfl (hb hby own_d2_14) rfl rfl ?_
    show Steps p.tables e below (T2.setTop (mkF m 15 #[rv w_BYTE] [(.ref w_BYTE)])) _
    refine st3 _ ?_
    show Steps p.tables e below (T3.setTop (mkF m 18 #[rv w_BYTE] [(.ref w_SHORT), (.ref w_BYTE)])) _
    refine Jvm.RoadKit.acmp (g := (mkF m 18 #[rv w_BYTE] [(.ref w_SHORT), (.ref w_BYTE)])) X3 hx rfl rfl rfl (pc0 := 18) (pc' := 21) (same := false) rfl (hb hby own_d2_18) rfl (decide_eq_false fun q => (Ne.symm (Fld.ne U_SHORT.2.2 U_BYTE.2.2 (by decide))) (Value.ref.inj q)) (by decide) (by decide) ?_
    show Steps p.tables e below (T3.setTop (mkF m 21 #[rv w_BYTE] [])) _
    refine XS.aloadN X3.here hx rfl (hb hby own_d2_21) rfl rfl ?_
    show Steps p.tables e below (T3.setTop (mkF m 22 #[rv w_BYTE] [(.ref w_BYTE)])) _
    refine st4 _ ?_
    show Steps p.tables e below (T4.setTop (mkF m 25 #[rv w_BYTE] [(.ref w_BYTE), (.ref w_BYTE)])) _
    refine Jvm.RoadKit.acmp (g := (mkF m 25 #[rv w_BYTE] [(.ref w_BYTE), (.ref w_BYTE)])) X4 hx rfl rfl rfl (pc0 := 25) (pc' := 35) (same := true) rfl (hb hby own_d2_25) rfl (decide_eq_true rfl) (by decide) (by decide) ?_
    show Steps p.tables e below (T4.setTop (mkF m 35 #[rv w_BYTE] [])) _
    refine XS.iconst X4.here hx rfl (hb hby own_d2_35) ?_
    show Steps p.tables e below (T4.setTop (mkF m 36 #[rv w_BYTE] [(.int 1)])) _
    refine XS.goto X4.here hx rfl (pc0 := 36) (pc' := 40) rfl (hb hby own_d2_36) (by decide) (by decide) ?_
    show Steps p.tables e below (T4.setTop (mkF m 40 #[rv w_BYTE] [(.int 1)])) _
    exact retN X4 hx (t := .boolean) Bd.returns (by simp) (hb hby own_d2_40) hr
  · show own_m_BYTE_Q Z w_STRING w_INTEGER w_LONG w_SHORT w_BYTE w_DOUBLE w_FLOAT w_BIG_DECIMAL w_BIG_INTEGER w_BOOLEAN w_LOCAL_DATE w_LOCAL_TIME w_LOCAL_DATE_TIME h0 n0 _ T4.heap _
    rw [e4]
    exact ⟨rfl, N0, rfl⟩
theorem own_m_DOUBLE_ef (m : MethodId) (w_DOUBLE : Addr) : entryFrame m #[(.ref w_DOUBLE)] 1 = mkF m 0 #[rv w_DOUBLE] [] := by first | (simp [entryFrame, mkF, argsToLocals, Value.category]; done) | rfl
def own_m_DOUBLE_Q (Z : State) (w_STRING : Addr) (w_INTEGER : Addr) (w_LONG : Addr) (w_SHORT : Addr) (w_BYTE : Addr) (w_DOUBLE : Addr) (w_FLOAT : Addr) (w_BIG_DECIMAL : Addr) (w_BIG_INTEGER : Addr) (w_BOOLEAN : Addr) (w_LOCAL_DATE : Addr) (w_LOCAL_TIME : Addr) (w_LOCAL_DATE_TIME : Addr) (h0 : Heap) (n0 : Nat) (v : Option Value) (h : Heap) (L : List Loc) : Prop := v = some (.int 0) ∧ Fr n0 L ∧ h = h0
set_option maxRecDepth 65536 in
set_option maxHeartbeats 40000000 in
theorem own_m_DOUBLE (l : Launch) (Z : State) (a0 : Array Value) (hw : ∀ d ∈ tables_1, d.before a0 Z = true) (ws : List Jvm.Cond) (w_STRING : Addr) (w_INTEGER : Addr) (w_LONG : Addr) (w_SHORT : Addr) (w_BYTE : Addr) (w_DOUBLE : Addr) (w_FLOAT : Addr) (w_BIG_DECIMAL : Addr) (w_BIG_INTEGER : Addr) (w_BOOLEAN : Addr) (w_LOCAL_DATE : Addr) (w_LOCAL_TIME : Addr) (w_LOCAL_DATE_TIME : Addr) (h0 : Heap) (n0 : Nat) (O0 : Old Z n0 h0) (U_STRING : own_En Z Z.heap "com/example/traversal/traversal/model/BasicType" "STRING" "Lcom/example/traversal/traversal/model/BasicType;" w_STRING (0 : Int32)) (U_INTEGER : own_En Z Z.heap "com/example/traversal/traversal/model/BasicType" "INTEGER" "Lcom/example/traversal/traversal/model/BasicType;" w_INTEGER (1 : Int32)) (U_LONG : own_En Z Z.heap "com/example/traversal/traversal/model/BasicType" "LONG" "Lcom/example/traversal/traversal/model/BasicType;" w_LONG (2 : Int32)) (U_SHORT : own_En Z Z.heap "com/example/traversal/traversal/model/BasicType" "SHORT" "Lcom/example/traversal/traversal/model/BasicType;" w_SHORT (3 : Int32)) (U_BYTE : own_En Z Z.heap "com/example/traversal/traversal/model/BasicType" "BYTE" "Lcom/example/traversal/traversal/model/BasicType;" w_BYTE (4 : Int32)) (U_DOUBLE : own_En Z Z.heap "com/example/traversal/traversal/model/BasicType" "DOUBLE" "Lcom/example/traversal/traversal/model/BasicType;" w_DOUBLE (5 : Int32)) (U_FLOAT : own_En Z Z.heap "com/example/traversal/traversal/model/BasicType" "FLOAT" "Lcom/example/traversal/traversal/model/BasicType;" w_FLOAT (6 : Int32)) (U_BIG_DECIMAL : own_En Z Z.heap "com/example/traversal/traversal/model/BasicType" "BIG_DECIMAL" "Lcom/example/traversal/traversal/model/BasicType;" w_BIG_DECIMAL (7 : Int32)) (U_BIG_INTEGER : own_En Z Z.heap "com/example/traversal/traversal/model/BasicType" "BIG_INTEGER" "Lcom/example/traversal/traversal/model/BasicType;" w_BIG_INTEGER (8 : Int32)) (U_BOOLEAN : own_En Z Z.heap "com/example/traversal/traversal/model/BasicType" "BOOLEAN" "Lcom/example/traversal/traversal/model/BasicType;" w_BOOLEAN (9 : Int32)) (U_LOCAL_DATE : own_En Z Z.heap "com/example/traversal/traversal/model/BasicType" "LOCAL_DATE" "Lcom/example/traversal/traversal/model/BasicType;" w_LOCAL_DATE (10 : Int32)) (U_LOCAL_TIME : own_En Z Z.heap "com/example/traversal/traversal/model/BasicType" "LOCAL_TIME" "Lcom/example/traversal/traversal/model/BasicType;" w_LOCAL_TIME (11 : Int32)) (U_LOCAL_DATE_TIME : own_En Z Z.heap "com/example/traversal/traversal/model/BasicType" "LOCAL_DATE_TIME" "Lcom/example/traversal/traversal/model/BasicType;" w_LOCAL_DATE_TIME (12 : Int32)) :
    MetFree l (⟨"com/example/traversal/traversal/model/BasicType", "isIntegral", "()Z"⟩ : MethodName) (head1 (Jvm.Cond.code (⟨"com/example/traversal/traversal/model/BasicType", "isIntegral", "()Z"⟩ : MethodName) prog_124_method_7_code 1 (some .boolean) :: ws) ({ frames := 0, cells := 0, slots := 0, locals := 0 } : Room)) (fun a U => a = #[(.ref w_DOUBLE)] ∧ Z.Warmed39 U.vm ∧ U.heap = h0) (fun _ _ _ _ _ => True) (fun _ U o U' => ∃ v L, o = .returned v ∧ own_m_DOUBLE_Q Z w_STRING w_INTEGER w_LONG w_SHORT w_BYTE w_DOUBLE w_FLOAT w_BIG_DECIMAL w_BIG_INTEGER w_BOOLEAN w_LOCAL_DATE w_LOCAL_TIME w_LOCAL_DATE_TIME h0 n0 v U'.heap L ∧ FrameEnd U o U' L ({ frames := 0, cells := 0, slots := 0, locals := 0 } : Room).cells ({ frames := 0, cells := 0, slots := 0, locals := 0 } : Room).slots) := by
  refine MetFree.of_bodySF (plainFor_of_name own_pn0) hisR ?_
  intro p e s m args below meth c s₁ Bd hml0 hP hK
  obtain ⟨rfl, hZ, hh⟩ := hP
  have hx := Bd.exec
  have hby := Bd.bytes
  have hml : c.maxLocals = 1 := hml0
  have hown : s.vm.findClass "com/example/traversal/traversal/model/BasicType" = some m.cls := findClass_of_methodNamed Bd.named
  have hnm := (name_of_methodNamed Bd.named Bd.method).1
  have X0 : Stand p l e ({ frames := 0, cells := 0, slots := 0, locals := 0 } : Room) s m #[(.ref w_DOUBLE)] below meth c s₁ [] 0 0 := Stand.of_body Bd
  have e0 : s₁.heap = h0 := by rw [← hh, Bd.state]; rfl
  have N0 := Fr.nil n0
  have pre0 : ∀ t, Steps p.tables e below (s₁.setTop (mkF m 0 #[rv w_DOUBLE] [])) t → Steps p.tables e below (s₁.setTop (entryFrame m #[(.ref w_DOUBLE)] 1)) t := fun t k => castTop (own_m_DOUBLE_ef m w_DOUBLE) k
  obtain ⟨T1, X1, e1, st1⟩ := getS2 X0 hx hZ hown (host := "") (Or.inl (hw _ (List.mem_of_getElem? (i := 13) rfl))) Via.refl e0 (U_INTEGER.1.ext O0.2) (g := (mkF m 1 #[rv w_DOUBLE] [(.ref w_DOUBLE)])) rfl (hb hby own_d2_1)
  obtain ⟨T2, X2, e2, st2⟩ := getS2 X1 hx hZ hown (host := "") (Or.inl (hw _ (List.mem_of_getElem? (i := 15) rfl))) Via.refl e1 (U_LONG.1.ext O0.2) (g := (mkF m 8 #[rv w_DOUBLE] [(.ref w_DOUBLE)])) rfl (hb hby own_d2_8)
  obtain ⟨T3, X3, e3, st3⟩ := getS2 X2 hx hZ hown (host := "") (Or.inl (hw _ (List.mem_of_getElem? (i := 17) rfl))) Via.refl e2 (U_SHORT.1.ext O0.2) (g := (mkF m 15 #[rv w_DOUBLE] [(.ref w_DOUBLE)])) rfl (hb hby own_d2_15)
  obtain ⟨T4, X4, e4, st4⟩ := getS2 X3 hx hZ hown (host := "") (Or.inl (hw _ (List.mem_of_getElem? (i := 19) rfl))) Via.refl e3 (U_BYTE.1.ext O0.2) (g := (mkF m 22 #[rv w_DOUBLE] [(.ref w_DOUBLE)])) rfl (hb hby own_d2_22)
  obtain ⟨T5, X5, e5, st5⟩ := getS2 X4 hx hZ hown (host := "") (Or.inl (hw _ (List.mem_of_getElem? (i := 21) rfl))) Via.refl e4 (U_BIG_INTEGER.1.ext O0.2) (g := (mkF m 29 #[rv w_DOUBLE] [(.ref w_DOUBLE)])) rfl (hb hby own_d2_29)
  obtain ⟨fs, hr, hrun, hended, hW, hsame⟩ := X5.leave (v := some (.int 0)) (fun h => by rw [Bd.returns] at h; cases h)
  refine ⟨_, _, pre0 _ ?_, hrun, hended, _, _, rfl, ?_, ⟨_, rfl⟩, hW, hsame.mono (by decide) (by decide)⟩
  · show Steps p.tables e below (s₁.setTop (mkF m 0 #[rv w_DOUBLE] [])) _
    refine XS.aloadN X0.here hx rfl (hb hby own_d2_0) rfl rfl ?_
    show Steps p.tables e below (s₁.setTop (mkF m 1 #[rv w_DOUBLE] [(.ref w_DOUBLE)])) _
    refine st1 _ ?_
    show Steps p.tables e below (T1.setTop (mkF m 4 #[rv w_DOUBLE] [(.ref w_INTEGER), (.ref w_DOUBLE)])) _
    refine Jvm.RoadKit.acmp (g := (mkF m 4 #[rv w_DOUBLE] [(.ref w_INTEGER), (.ref w_DOUBLE)])) X1 hx rfl rfl rfl (pc0 := 4) (pc' := 7) (same := false) rfl (hb hby own_d2_4) rfl (decide_eq_false fun q => (Ne.symm (Fld.ne U_INTEGER.2.2 U_DOUBLE.2.2 (by decide))) (Value.ref.inj q)) (by decide) (by decide) ?_
    show Steps p.tables e below (T1.setTop (mkF m 7 #[rv w_DOUBLE] [])) _
    refine XS.aloadN X1.here hx rfl (hb hby own_d2_7) rfl rfl ?_
    show Steps p.tables e below (T1.setTop (mkF m 8 #[rv w_DOUBLE] [(.ref w_DOUBLE)])) _
    refine st2 _ ?_
    show Steps p.tables e below (T2.setTop (mkF m 11 #[rv w_DOUBLE] [(.ref w_LONG), (.ref w_DOUBLE)])) _
    refine Jvm.RoadKit.acmp (g := (mkF m 11 #[rv w_DOUBLE] [(.ref w_LONG), (.ref w_DOUBLE)])) X2 hx rfl rfl rfl (pc0 := 11) (pc' := 14) (same := false) rfl (hb hby own_d2_11) rfl (decide_eq_false fun q => (Ne.symm (Fld.ne U_LONG.2.2 U_DOUBLE.2.2 (by decide))) (Value.ref.inj q)) (by decide) (by decide) ?_
    show Steps p.tables e below (T2.setTop (mkF m 14 #[rv w_DOUBLE] [])) _
    refine XS.aloadN X2.here hx rfl (hb hby own_d2_14) rfl rfl ?_
    show Steps p.tables e below (T2.setTop (mkF m 15 #[rv w_DOUBLE] [(.ref w_DOUBLE)])) _
    refine st3 _ ?_
    show Steps p.tables e below (T3.setTop (mkF m 18 #[rv w_DOUBLE] [(.ref w_SHORT), (.ref w_DOUBLE)])) _
    refine Jvm.RoadKit.acmp (g := (mkF m 18 #[rv w_DOUBLE] [(.ref w_SHORT), (.ref w_DOUBLE)])) X3 hx rfl rfl rfl (pc0 := 18) (pc' := 21) (same := false) rfl (hb hby own_d2_18) rfl (decide_eq_false fun q => (Ne.symm (Fld.ne U_SHORT.2.2 U_DOUBLE.2.2 (by decide))) (Value.ref.inj q)) (by decide) (by decide) ?_
    show Steps p.tables e below (T3.setTop (mkF m 21 #[rv w_DOUBLE] [])) _
    refine XS.aloadN X3.here hx rfl (hb hby own_d2_21) rfl rfl ?_
    show Steps p.tables e below (T3.setTop (mkF m 22 #[rv w_DOUBLE] [(.ref w_DOUBLE)])) _
    refine st4 _ ?_
    show Steps p.tables e below (T4.setTop (mkF m 25 #[rv w_DOUBLE] [(.ref w_BYTE), (.ref w_DOUBLE)])) _
    refine Jvm.RoadKit.acmp (g := (mkF m 25 #[rv w_DOUBLE] [(.ref w_BYTE), (.ref w_DOUBLE)])) X4 hx rfl rfl rfl (pc0 := 25) (pc' := 28) (same := false) rfl (hb hby own_d2_25) rfl (decide_eq_false fun q => (Ne.symm (Fld.ne U_BYTE.2.2 U_DOUBLE.2.2 (by decide))) (Value.ref.inj q)) (by decide) (by decide) ?_
    show Steps p.tables e below (T4.setTop (mkF m 28 #[rv w_DOUBLE] [])) _
    refine XS.aloadN X4.here hx rfl (hb hby own_d2_28) rfl rfl ?_
    show Steps p.tables e below (T4.setTop (mkF m 29 #[rv w_DOUBLE] [(.ref w_DOUBLE)])) _
    refine st5 _ ?_
    show Steps p.tables e below (T5.setTop (mkF m 32 #[rv w_DOUBLE] [(.ref w_BIG_INTEGER), (.ref w_DOUBLE)])) _
    refine Jvm.RoadKit.acmp (g := (mkF m 32 #[rv w_DOUBLE] [(.ref w_BIG_INTEGER), (.ref w_DOUBLE)])) X5 hx rfl rfl rfl (pc0 := 32) (pc' := 39) (same := false) rfl (hb hby own_d2_32) rfl (decide_eq_false fun q => (Fld.ne U_DOUBLE.2.2 U_BIG_INTEGER.2.2 (by decide)) (Value.ref.inj q)) (by decide) (by decide) ?_
    show Steps p.tables e below (T5.setTop (mkF m 39 #[rv w_DOUBLE] [])) _
    refine XS.iconst X5.here hx rfl (hb hby own_d2_39) ?_
    show Steps p.tables e below (T5.setTop (mkF m 40 #[rv w_DOUBLE] [(.int 0)])) _
    exact retN X5 hx (t := .boolean) Bd.returns (by simp) (hb hby own_d2_40) hr
  · show own_m_DOUBLE_Q Z w_STRING w_INTEGER w_LONG w_SHORT w_BYTE w_DOUBLE w_FLOAT w_BIG_DECIMAL w_BIG_INTEGER w_BOOLEAN w_LOCAL_DATE w_LOCAL_TIME w_LOCAL_DATE_TIME h0 n0 _ T5.heap _
    rw [e5]
    exact ⟨rfl, N0, rfl⟩
theorem own_m_FLOAT_ef (m : MethodId) (w_FLOAT : Addr) : entryFrame m #[(.ref w_FLOAT)] 1 = mkF m 0 #[rv w_FLOAT] [] := by first | (simp [entryFrame, mkF, argsToLocals, Value.category]; done) | rfl
def own_m_FLOAT_Q (Z : State) (w_STRING : Addr) (w_INTEGER : Addr) (w_LONG : Addr) (w_SHORT : Addr) (w_BYTE : Addr) (w_DOUBLE : Addr) (w_FLOAT : Addr) (w_BIG_DECIMAL : Addr) (w_BIG_INTEGER : Addr) (w_BOOLEAN : Addr) (w_LOCAL_DATE : Addr) (w_LOCAL_TIME : Addr) (w_LOCAL_DATE_TIME : Addr) (h0 : Heap) (n0 : Nat) (v : Option Value) (h : Heap) (L : List Loc) : Prop := v = some (.int 0) ∧ Fr n0 L ∧ h = h0
set_option maxRecDepth 65536 in
set_option maxHeartbeats 40000000 in
theorem own_m_FLOAT (l : Launch) (Z : State) (a0 : Array Value) (hw : ∀ d ∈ tables_1, d.before a0 Z = true) (ws : List Jvm.Cond) (w_STRING : Addr) (w_INTEGER : Addr) (w_LONG : Addr) (w_SHORT : Addr) (w_BYTE : Addr) (w_DOUBLE : Addr) (w_FLOAT : Addr) (w_BIG_DECIMAL : Addr) (w_BIG_INTEGER : Addr) (w_BOOLEAN : Addr) (w_LOCAL_DATE : Addr) (w_LOCAL_TIME : Addr) (w_LOCAL_DATE_TIME : Addr) (h0 : Heap) (n0 : Nat) (O0 : Old Z n0 h0) (U_STRING : own_En Z Z.heap "com/example/traversal/traversal/model/BasicType" "STRING" "Lcom/example/traversal/traversal/model/BasicType;" w_STRING (0 : Int32)) (U_INTEGER : own_En Z Z.heap "com/example/traversal/traversal/model/BasicType" "INTEGER" "Lcom/example/traversal/traversal/model/BasicType;" w_INTEGER (1 : Int32)) (U_LONG : own_En Z Z.heap "com/example/traversal/traversal/model/BasicType" "LONG" "Lcom/example/traversal/traversal/model/BasicType;" w_LONG (2 : Int32)) (U_SHORT : own_En Z Z.heap "com/example/traversal/traversal/model/BasicType" "SHORT" "Lcom/example/traversal/traversal/model/BasicType;" w_SHORT (3 : Int32)) (U_BYTE : own_En Z Z.heap "com/example/traversal/traversal/model/BasicType" "BYTE" "Lcom/example/traversal/traversal/model/BasicType;" w_BYTE (4 : Int32)) (U_DOUBLE : own_En Z Z.heap "com/example/traversal/traversal/model/BasicType" "DOUBLE" "Lcom/example/traversal/traversal/model/BasicType;" w_DOUBLE (5 : Int32)) (U_FLOAT : own_En Z Z.heap "com/example/traversal/traversal/model/BasicType" "FLOAT" "Lcom/example/traversal/traversal/model/BasicType;" w_FLOAT (6 : Int32)) (U_BIG_DECIMAL : own_En Z Z.heap "com/example/traversal/traversal/model/BasicType" "BIG_DECIMAL" "Lcom/example/traversal/traversal/model/BasicType;" w_BIG_DECIMAL (7 : Int32)) (U_BIG_INTEGER : own_En Z Z.heap "com/example/traversal/traversal/model/BasicType" "BIG_INTEGER" "Lcom/example/traversal/traversal/model/BasicType;" w_BIG_INTEGER (8 : Int32)) (U_BOOLEAN : own_En Z Z.heap "com/example/traversal/traversal/model/BasicType" "BOOLEAN" "Lcom/example/traversal/traversal/model/BasicType;" w_BOOLEAN (9 : Int32)) (U_LOCAL_DATE : own_En Z Z.heap "com/example/traversal/traversal/model/BasicType" "LOCAL_DATE" "Lcom/example/traversal/traversal/model/BasicType;" w_LOCAL_DATE (10 : Int32)) (U_LOCAL_TIME : own_En Z Z.heap "com/example/traversal/traversal/model/BasicType" "LOCAL_TIME" "Lcom/example/traversal/traversal/model/BasicType;" w_LOCAL_TIME (11 : Int32)) (U_LOCAL_DATE_TIME : own_En Z Z.heap "com/example/traversal/traversal/model/BasicType" "LOCAL_DATE_TIME" "Lcom/example/traversal/traversal/model/BasicType;" w_LOCAL_DATE_TIME (12 : Int32)) :
    MetFree l (⟨"com/example/traversal/traversal/model/BasicType", "isIntegral", "()Z"⟩ : MethodName) (head1 (Jvm.Cond.code (⟨"com/example/traversal/traversal/model/BasicType", "isIntegral", "()Z"⟩ : MethodName) prog_124_method_7_code 1 (some .boolean) :: ws) ({ frames := 0, cells := 0, slots := 0, locals := 0 } : Room)) (fun a U => a = #[(.ref w_FLOAT)] ∧ Z.Warmed39 U.vm ∧ U.heap = h0) (fun _ _ _ _ _ => True) (fun _ U o U' => ∃ v L, o = .returned v ∧ own_m_FLOAT_Q Z w_STRING w_INTEGER w_LONG w_SHORT w_BYTE w_DOUBLE w_FLOAT w_BIG_DECIMAL w_BIG_INTEGER w_BOOLEAN w_LOCAL_DATE w_LOCAL_TIME w_LOCAL_DATE_TIME h0 n0 v U'.heap L ∧ FrameEnd U o U' L ({ frames := 0, cells := 0, slots := 0, locals := 0 } : Room).cells ({ frames := 0, cells := 0, slots := 0, locals := 0 } : Room).slots) := by
  refine MetFree.of_bodySF (plainFor_of_name own_pn0) hisR ?_
  intro p e s m args below meth c s₁ Bd hml0 hP hK
  obtain ⟨rfl, hZ, hh⟩ := hP
  have hx := Bd.exec
  have hby := Bd.bytes
  have hml : c.maxLocals = 1 := hml0
  have hown : s.vm.findClass "com/example/traversal/traversal/model/BasicType" = some m.cls := findClass_of_methodNamed Bd.named
  have hnm := (name_of_methodNamed Bd.named Bd.method).1
  have X0 : Stand p l e ({ frames := 0, cells := 0, slots := 0, locals := 0 } : Room) s m #[(.ref w_FLOAT)] below meth c s₁ [] 0 0 := Stand.of_body Bd
  have e0 : s₁.heap = h0 := by rw [← hh, Bd.state]; rfl
  have N0 := Fr.nil n0
  have pre0 : ∀ t, Steps p.tables e below (s₁.setTop (mkF m 0 #[rv w_FLOAT] [])) t → Steps p.tables e below (s₁.setTop (entryFrame m #[(.ref w_FLOAT)] 1)) t := fun t k => castTop (own_m_FLOAT_ef m w_FLOAT) k
  obtain ⟨T1, X1, e1, st1⟩ := getS2 X0 hx hZ hown (host := "") (Or.inl (hw _ (List.mem_of_getElem? (i := 13) rfl))) Via.refl e0 (U_INTEGER.1.ext O0.2) (g := (mkF m 1 #[rv w_FLOAT] [(.ref w_FLOAT)])) rfl (hb hby own_d2_1)
  obtain ⟨T2, X2, e2, st2⟩ := getS2 X1 hx hZ hown (host := "") (Or.inl (hw _ (List.mem_of_getElem? (i := 15) rfl))) Via.refl e1 (U_LONG.1.ext O0.2) (g := (mkF m 8 #[rv w_FLOAT] [(.ref w_FLOAT)])) rfl (hb hby own_d2_8)
  obtain ⟨T3, X3, e3, st3⟩ := getS2 X2 hx hZ hown (host := "") (Or.inl (hw _ (List.mem_of_getElem? (i := 17) rfl))) Via.refl e2 (U_SHORT.1.ext O0.2) (g := (mkF m 15 #[rv w_FLOAT] [(.ref w_FLOAT)])) rfl (hb hby own_d2_15)
  obtain ⟨T4, X4, e4, st4⟩ := getS2 X3 hx hZ hown (host := "") (Or.inl (hw _ (List.mem_of_getElem? (i := 19) rfl))) Via.refl e3 (U_BYTE.1.ext O0.2) (g := (mkF m 22 #[rv w_FLOAT] [(.ref w_FLOAT)])) rfl (hb hby own_d2_22)
  obtain ⟨T5, X5, e5, st5⟩ := getS2 X4 hx hZ hown (host := "") (Or.inl (hw _ (List.mem_of_getElem? (i := 21) rfl))) Via.refl e4 (U_BIG_INTEGER.1.ext O0.2) (g := (mkF m 29 #[rv w_FLOAT] [(.ref w_FLOAT)])) rfl (hb hby own_d2_29)
  obtain ⟨fs, hr, hrun, hended, hW, hsame⟩ := X5.leave (v := some (.int 0)) (fun h => by rw [Bd.returns] at h; cases h)
  refine ⟨_, _, pre0 _ ?_, hrun, hended, _, _, rfl, ?_, ⟨_, rfl⟩, hW, hsame.mono (by decide) (by decide)⟩
  · show Steps p.tables e below (s₁.setTop (mkF m 0 #[rv w_FLOAT] [])) _
    refine XS.aloadN X0.here hx rfl (hb hby own_d2_0) rfl rfl ?_
    show Steps p.tables e below (s₁.setTop (mkF m 1 #[rv w_FLOAT] [(.ref w_FLOAT)])) _
    refine st1 _ ?_
    show Steps p.tables e below (T1.setTop (mkF m 4 #[rv w_FLOAT] [(.ref w_INTEGER), (.ref w_FLOAT)])) _
    refine Jvm.RoadKit.acmp (g := (mkF m 4 #[rv w_FLOAT] [(.ref w_INTEGER), (.ref w_FLOAT)])) X1 hx rfl rfl rfl (pc0 := 4) (pc' := 7) (same := false) rfl (hb hby own_d2_4) rfl (decide_eq_false fun q => (Ne.symm (Fld.ne U_INTEGER.2.2 U_FLOAT.2.2 (by decide))) (Value.ref.inj q)) (by decide) (by decide) ?_
    show Steps p.tables e below (T1.setTop (mkF m 7 #[rv w_FLOAT] [])) _
    refine XS.aloadN X1.here hx rfl (hb hby own_d2_7) rfl rfl ?_
    show Steps p.tables e below (T1.setTop (mkF m 8 #[rv w_FLOAT] [(.ref w_FLOAT)])) _
    refine st2 _ ?_
    show Steps p.tables e below (T2.setTop (mkF m 11 #[rv w_FLOAT] [(.ref w_LONG), (.ref w_FLOAT)])) _
    refine Jvm.RoadKit.acmp (g := (mkF m 11 #[rv w_FLOAT] [(.ref w_LONG), (.ref w_FLOAT)])) X2 hx rfl rfl rfl (pc0 := 11) (pc' := 14) (same := false) rfl (hb hby own_d2_11) rfl (decide_eq_false fun q => (Ne.symm (Fld.ne U_LONG.2.2 U_FLOAT.2.2 (by decide))) (Value.ref.inj q)) (by decide) (by decide) ?_
    show Steps p.tables e below (T2.setTop (mkF m 14 #[rv w_FLOAT] [])) _
    refine XS.aloadN X2.here hx rfl (hb hby own_d2_14) rfl rfl ?_
    show Steps p.tables e below (T2.setTop (mkF m 15 #[rv w_FLOAT] [(.ref w_FLOAT)])) _
    refine st3 _ ?_
    show Steps p.tables e below (T3.setTop (mkF m 18 #[rv w_FLOAT] [(.ref w_SHORT), (.ref w_FLOAT)])) _
    refine Jvm.RoadKit.acmp (g := (mkF m 18 #[rv w_FLOAT] [(.ref w_SHORT), (.ref w_FLOAT)])) X3 hx rfl rfl rfl (pc0 := 18) (pc' := 21) (same := false) rfl (hb hby own_d2_18) rfl (decide_eq_false fun q => (Ne.symm (Fld.ne U_SHORT.2.2 U_FLOAT.2.2 (by decide))) (Value.ref.inj q)) (by decide) (by decide) ?_
    show Steps p.tables e below (T3.setTop (mkF m 21 #[rv w_FLOAT] [])) _
    refine XS.aloadN X3.here hx rfl (hb hby own_d2_21) rfl rfl ?_
    show Steps p.tables e below (T3.setTop (mkF m 22 #[rv w_FLOAT] [(.ref w_FLOAT)])) _
    refine st4 _ ?_
    show Steps p.tables e below (T4.setTop (mkF m 25 #[rv w_FLOAT] [(.ref w_BYTE), (.ref w_FLOAT)])) _
    refine Jvm.RoadKit.acmp (g := (mkF m 25 #[rv w_FLOAT] [(.ref w_BYTE), (.ref w_FLOAT)])) X4 hx rfl rfl rfl (pc0 := 25) (pc' := 28) (same := false) rfl (hb hby own_d2_25) rfl (decide_eq_false fun q => (Ne.symm (Fld.ne U_BYTE.2.2 U_FLOAT.2.2 (by decide))) (Value.ref.inj q)) (by decide) (by decide) ?_
    show Steps p.tables e below (T4.setTop (mkF m 28 #[rv w_FLOAT] [])) _
    refine XS.aloadN X4.here hx rfl (hb hby own_d2_28) rfl rfl ?_
    show Steps p.tables e below (T4.setTop (mkF m 29 #[rv w_FLOAT] [(.ref w_FLOAT)])) _
    refine st5 _ ?_
    show Steps p.tables e below (T5.setTop (mkF m 32 #[rv w_FLOAT] [(.ref w_BIG_INTEGER), (.ref w_FLOAT)])) _
    refine Jvm.RoadKit.acmp (g := (mkF m 32 #[rv w_FLOAT] [(.ref w_BIG_INTEGER), (.ref w_FLOAT)])) X5 hx rfl rfl rfl (pc0 := 32) (pc' := 39) (same := false) rfl (hb hby own_d2_32) rfl (decide_eq_false fun q => (Fld.ne U_FLOAT.2.2 U_BIG_INTEGER.2.2 (by decide)) (Value.ref.inj q)) (by decide) (by decide) ?_
    show Steps p.tables e below (T5.setTop (mkF m 39 #[rv w_FLOAT] [])) _
    refine XS.iconst X5.here hx rfl (hb hby own_d2_39) ?_
    show Steps p.tables e below (T5.setTop (mkF m 40 #[rv w_FLOAT] [(.int 0)])) _
    exact retN X5 hx (t := .boolean) Bd.returns (by simp) (hb hby own_d2_40) hr
  · show own_m_FLOAT_Q Z w_STRING w_INTEGER w_LONG w_SHORT w_BYTE w_DOUBLE w_FLOAT w_BIG_DECIMAL w_BIG_INTEGER w_BOOLEAN w_LOCAL_DATE w_LOCAL_TIME w_LOCAL_DATE_TIME h0 n0 _ T5.heap _
    rw [e5]
    exact ⟨rfl, N0, rfl⟩
theorem own_m_BIG_DECIMAL_ef (m : MethodId) (w_BIG_DECIMAL : Addr) : entryFrame m #[(.ref w_BIG_DECIMAL)] 1 = mkF m 0 #[rv w_BIG_DECIMAL] [] := by first | (simp [entryFrame, mkF, argsToLocals, Value.category]; done) | rfl
def own_m_BIG_DECIMAL_Q (Z : State) (w_STRING : Addr) (w_INTEGER : Addr) (w_LONG : Addr) (w_SHORT : Addr) (w_BYTE : Addr) (w_DOUBLE : Addr) (w_FLOAT : Addr) (w_BIG_DECIMAL : Addr) (w_BIG_INTEGER : Addr) (w_BOOLEAN : Addr) (w_LOCAL_DATE : Addr) (w_LOCAL_TIME : Addr) (w_LOCAL_DATE_TIME : Addr) (h0 : Heap) (n0 : Nat) (v : Option Value) (h : Heap) (L : List Loc) : Prop := v = some (.int 0) ∧ Fr n0 L ∧ h = h0
set_option maxRecDepth 65536 in
set_option maxHeartbeats 40000000 in
theorem own_m_BIG_DECIMAL (l : Launch) (Z : State) (a0 : Array Value) (hw : ∀ d ∈ tables_1, d.before a0 Z = true) (ws : List Jvm.Cond) (w_STRING : Addr) (w_INTEGER : Addr) (w_LONG : Addr) (w_SHORT : Addr) (w_BYTE : Addr) (w_DOUBLE : Addr) (w_FLOAT : Addr) (w_BIG_DECIMAL : Addr) (w_BIG_INTEGER : Addr) (w_BOOLEAN : Addr) (w_LOCAL_DATE : Addr) (w_LOCAL_TIME : Addr) (w_LOCAL_DATE_TIME : Addr) (h0 : Heap) (n0 : Nat) (O0 : Old Z n0 h0) (U_STRING : own_En Z Z.heap "com/example/traversal/traversal/model/BasicType" "STRING" "Lcom/example/traversal/traversal/model/BasicType;" w_STRING (0 : Int32)) (U_INTEGER : own_En Z Z.heap "com/example/traversal/traversal/model/BasicType" "INTEGER" "Lcom/example/traversal/traversal/model/BasicType;" w_INTEGER (1 : Int32)) (U_LONG : own_En Z Z.heap "com/example/traversal/traversal/model/BasicType" "LONG" "Lcom/example/traversal/traversal/model/BasicType;" w_LONG (2 : Int32)) (U_SHORT : own_En Z Z.heap "com/example/traversal/traversal/model/BasicType" "SHORT" "Lcom/example/traversal/traversal/model/BasicType;" w_SHORT (3 : Int32)) (U_BYTE : own_En Z Z.heap "com/example/traversal/traversal/model/BasicType" "BYTE" "Lcom/example/traversal/traversal/model/BasicType;" w_BYTE (4 : Int32)) (U_DOUBLE : own_En Z Z.heap "com/example/traversal/traversal/model/BasicType" "DOUBLE" "Lcom/example/traversal/traversal/model/BasicType;" w_DOUBLE (5 : Int32)) (U_FLOAT : own_En Z Z.heap "com/example/traversal/traversal/model/BasicType" "FLOAT" "Lcom/example/traversal/traversal/model/BasicType;" w_FLOAT (6 : Int32)) (U_BIG_DECIMAL : own_En Z Z.heap "com/example/traversal/traversal/model/BasicType" "BIG_DECIMAL" "Lcom/example/traversal/traversal/model/BasicType;" w_BIG_DECIMAL (7 : Int32)) (U_BIG_INTEGER : own_En Z Z.heap "com/example/traversal/traversal/model/BasicType" "BIG_INTEGER" "Lcom/example/traversal/traversal/model/BasicType;" w_BIG_INTEGER (8 : Int32)) (U_BOOLEAN : own_En Z Z.heap "com/example/traversal/traversal/model/BasicType" "BOOLEAN" "Lcom/example/traversal/traversal/model/BasicType;" w_BOOLEAN (9 : Int32)) (U_LOCAL_DATE : own_En Z Z.heap "com/example/traversal/traversal/model/BasicType" "LOCAL_DATE" "Lcom/example/traversal/traversal/model/BasicType;" w_LOCAL_DATE (10 : Int32)) (U_LOCAL_TIME : own_En Z Z.heap "com/example/traversal/traversal/model/BasicType" "LOCAL_TIME" "Lcom/example/traversal/traversal/model/BasicType;" w_LOCAL_TIME (11 : Int32)) (U_LOCAL_DATE_TIME : own_En Z Z.heap "com/example/traversal/traversal/model/BasicType" "LOCAL_DATE_TIME" "Lcom/example/traversal/traversal/model/BasicType;" w_LOCAL_DATE_TIME (12 : Int32)) :
    MetFree l (⟨"com/example/traversal/traversal/model/BasicType", "isIntegral", "()Z"⟩ : MethodName) (head1 (Jvm.Cond.code (⟨"com/example/traversal/traversal/model/BasicType", "isIntegral", "()Z"⟩ : MethodName) prog_124_method_7_code 1 (some .boolean) :: ws) ({ frames := 0, cells := 0, slots := 0, locals := 0 } : Room)) (fun a U => a = #[(.ref w_BIG_DECIMAL)] ∧ Z.Warmed39 U.vm ∧ U.heap = h0) (fun _ _ _ _ _ => True) (fun _ U o U' => ∃ v L, o = .returned v ∧ own_m_BIG_DECIMAL_Q Z w_STRING w_INTEGER w_LONG w_SHORT w_BYTE w_DOUBLE w_FLOAT w_BIG_DECIMAL w_BIG_INTEGER w_BOOLEAN w_LOCAL_DATE w_LOCAL_TIME w_LOCAL_DATE_TIME h0 n0 v U'.heap L ∧ FrameEnd U o U' L ({ frames := 0, cells := 0, slots := 0, locals := 0 } : Room).cells ({ frames := 0, cells := 0, slots := 0, locals := 0 } : Room).slots) := by
  refine MetFree.of_bodySF (plainFor_of_name own_pn0) hisR ?_
  intro p e s m args below meth c s₁ Bd hml0 hP hK
  obtain ⟨rfl, hZ, hh⟩ := hP
  have hx := Bd.exec
  have hby := Bd.bytes
  have hml : c.maxLocals = 1 := hml0
  have hown : s.vm.findClass "com/example/traversal/traversal/model/BasicType" = some m.cls := findClass_of_methodNamed Bd.named
  have hnm := (name_of_methodNamed Bd.named Bd.method).1
  have X0 : Stand p l e ({ frames := 0, cells := 0, slots := 0, locals := 0 } : Room) s m #[(.ref w_BIG_DECIMAL)] below meth c s₁ [] 0 0 := Stand.of_body Bd
  have e0 : s₁.heap = h0 := by rw [← hh, Bd.state]; rfl
  have N0 := Fr.nil n0
  have pre0 : ∀ t, Steps p.tables e below (s₁.setTop (mkF m 0 #[rv w_BIG_DECIMAL] [])) t → Steps p.tables e below (s₁.setTop (entryFrame m #[(.ref w_BIG_DECIMAL)] 1)) t := fun t k => castTop (own_m_BIG_DECIMAL_ef m w_BIG_DECIMAL) k
  obtain ⟨T1, X1, e1, st1⟩ := getS2 X0 hx hZ hown (host := "") (Or.inl (hw _ (List.mem_of_getElem? (i := 13) rfl))) Via.refl e0 (U_INTEGER.1.ext O0.2) (g := (mkF m 1 #[rv w_BIG_DECIMAL] [(.ref w_BIG_DECIMAL)])) rfl (hb hby own_d2_1)
  obtain ⟨T2, X2, e2, st2⟩ := getS2 X1 hx hZ hown (host := "") (Or.inl (hw _ (List.mem_of_getElem? (i := 15) rfl))) Via.refl e1 (U_LONG.1.ext O0.2) (g := (mkF m 8 #[rv w_BIG_DECIMAL] [(.ref w_BIG_DECIMAL)])) rfl (hb hby own_d2_8)
  obtain ⟨T3, X3, e3, st3⟩ := getS2 X2 hx hZ hown (host := "") (Or.inl (hw _ (List.mem_of_getElem? (i := 17) rfl))) Via.refl e2 (U_SHORT.1.ext O0.2) (g := (mkF m 15 #[rv w_BIG_DECIMAL] [(.ref w_BIG_DECIMAL)])) rfl (hb hby own_d2_15)
  obtain ⟨T4, X4, e4, st4⟩ := getS2 X3 hx hZ hown (host := "") (Or.inl (hw _ (List.mem_of_getElem? (i := 19) rfl))) Via.refl e3 (U_BYTE.1.ext O0.2) (g := (mkF m 22 #[rv w_BIG_DECIMAL] [(.ref w_BIG_DECIMAL)])) rfl (hb hby own_d2_22)
  obtain ⟨T5, X5, e5, st5⟩ := getS2 X4 hx hZ hown (host := "") (Or.inl (hw _ (List.mem_of_getElem? (i := 21) rfl))) Via.refl e4 (U_BIG_INTEGER.1.ext O0.2) (g := (mkF m 29 #[rv w_BIG_DECIMAL] [(.ref w_BIG_DECIMAL)])) rfl (hb hby own_d2_29)
  obtain ⟨fs, hr, hrun, hended, hW, hsame⟩ := X5.leave (v := some (.int 0)) (fun h => by rw [Bd.returns] at h; cases h)
  refine ⟨_, _, pre0 _ ?_, hrun, hended, _, _, rfl, ?_, ⟨_, rfl⟩, hW, hsame.mono (by decide) (by decide)⟩
  · show Steps p.tables e below (s₁.setTop (mkF m 0 #[rv w_BIG_DECIMAL] [])) _
    refine XS.aloadN X0.here hx rfl (hb hby own_d2_0) rfl rfl ?_
    show Steps p.tables e below (s₁.setTop (mkF m 1 #[rv w_BIG_DECIMAL] [(.ref w_BIG_DECIMAL)])) _
    refine st1 _ ?_
    show Steps p.tables e below (T1.setTop (mkF m 4 #[rv w_BIG_DECIMAL] [(.ref w_INTEGER), (.ref w_BIG_DECIMAL)])) _
    refine Jvm.RoadKit.acmp (g := (mkF m 4 #[rv w_BIG_DECIMAL] [(.ref w_INTEGER), (.ref w_BIG_DECIMAL)])) X1 hx rfl rfl rfl (pc0 := 4) (pc' := 7) (same := false) rfl (hb hby own_d2_4) rfl (decide_eq_false fun q => (Ne.symm (Fld.ne U_INTEGER.2.2 U_BIG_DECIMAL.2.2 (by decide))) (Value.ref.inj q)) (by decide) (by decide) ?_
    show Steps p.tables e below (T1.setTop (mkF m 7 #[rv w_BIG_DECIMAL] [])) _
    refine XS.aloadN X1.here hx rfl (hb hby own_d2_7) rfl rfl ?_
    show Steps p.tables e below (T1.setTop (mkF m 8 #[rv w_BIG_DECIMAL] [(.ref w_BIG_DECIMAL)])) _
    refine st2 _ ?_
    show Steps p.tables e below (T2.setTop (mkF m 11 #[rv w_BIG_DECIMAL] [(.ref w_LONG), (.ref w_BIG_DECIMAL)])) _
    refine Jvm.RoadKit.acmp (g := (mkF m 11 #[rv w_BIG_DECIMAL] [(.ref w_LONG), (.ref w_BIG_DECIMAL)])) X2 hx rfl rfl rfl (pc0 := 11) (pc' := 14) (same := false) rfl (hb hby own_d2_11) rfl (decide_eq_false fun q => (Ne.symm (Fld.ne U_LONG.2.2 U_BIG_DECIMAL.2.2 (by decide))) (Value.ref.inj q)) (by decide) (by decide) ?_
    show Steps p.tables e below (T2.setTop (mkF m 14 #[rv w_BIG_DECIMAL] [])) _
    refine XS.aloadN X2.here hx rfl (hb hby own_d2_14) rfl rfl ?_
    show Steps p.tables e below (T2.setTop (mkF m 15 #[rv w_BIG_DECIMAL] [(.ref w_BIG_DECIMAL)])) _
    refine st3 _ ?_
    show Steps p.tables e below (T3.setTop (mkF m 18 #[rv w_BIG_DECIMAL] [(.ref w_SHORT), (.ref w_BIG_DECIMAL)])) _
    refine Jvm.RoadKit.acmp (g := (mkF m 18 #[rv w_BIG_DECIMAL] [(.ref w_SHORT), (.ref w_BIG_DECIMAL)])) X3 hx rfl rfl rfl (pc0 := 18) (pc' := 21) (same := false) rfl (hb hby own_d2_18) rfl (decide_eq_false fun q => (Ne.symm (Fld.ne U_SHORT.2.2 U_BIG_DECIMAL.2.2 (by decide))) (Value.ref.inj q)) (by decide) (by decide) ?_
    show Steps p.tables e below (T3.setTop (mkF m 21 #[rv w_BIG_DECIMAL] [])) _
    refine XS.aloadN X3.here hx rfl (hb hby own_d2_21) rfl rfl ?_
    show Steps p.tables e below (T3.setTop (mkF m 22 #[rv w_BIG_DECIMAL] [(.ref w_BIG_DECIMAL)])) _
    refine st4 _ ?_
    show Steps p.tables e below (T4.setTop (mkF m 25 #[rv w_BIG_DECIMAL] [(.ref w_BYTE), (.ref w_BIG_DECIMAL)])) _
    refine Jvm.RoadKit.acmp (g := (mkF m 25 #[rv w_BIG_DECIMAL] [(.ref w_BYTE), (.ref w_BIG_DECIMAL)])) X4 hx rfl rfl rfl (pc0 := 25) (pc' := 28) (same := false) rfl (hb hby own_d2_25) rfl (decide_eq_false fun q => (Ne.symm (Fld.ne U_BYTE.2.2 U_BIG_DECIMAL.2.2 (by decide))) (Value.ref.inj q)) (by decide) (by decide) ?_
    show Steps p.tables e below (T4.setTop (mkF m 28 #[rv w_BIG_DECIMAL] [])) _
    refine XS.aloadN X4.here hx rfl (hb hby own_d2_28) rfl rfl ?_
    show Steps p.tables e below (T4.setTop (mkF m 29 #[rv w_BIG_DECIMAL] [(.ref w_BIG_DECIMAL)])) _
    refine st5 _ ?_
    show Steps p.tables e below (T5.setTop (mkF m 32 #[rv w_BIG_DECIMAL] [(.ref w_BIG_INTEGER), (.ref w_BIG_DECIMAL)])) _
    refine Jvm.RoadKit.acmp (g := (mkF m 32 #[rv w_BIG_DECIMAL] [(.ref w_BIG_INTEGER), (.ref w_BIG_DECIMAL)])) X5 hx rfl rfl rfl (pc0 := 32) (pc' := 39) (same := false) rfl (hb hby own_d2_32) rfl (decide_eq_false fun q => (Fld.ne U_BIG_DECIMAL.2.2 U_BIG_INTEGER.2.2 (by decide)) (Value.ref.inj q)) (by decide) (by decide) ?_
    show Steps p.tables e below (T5.setTop (mkF m 39 #[rv w_BIG_DECIMAL] [])) _
    refine XS.iconst X5.here hx rfl (hb hby own_d2_39) ?_
    show Steps p.tables e below (T5.setTop (mkF m 40 #[rv w_BIG_DECIMAL] [(.int 0)])) _
    exact retN X5 hx (t := .boolean) Bd.returns (by simp) (hb hby own_d2_40) hr
  · show own_m_BIG_DECIMAL_Q Z w_STRING w_INTEGER w_LONG w_SHORT w_BYTE w_DOUBLE w_FLOAT w_BIG_DECIMAL w_BIG_INTEGER w_BOOLEAN w_LOCAL_DATE w_LOCAL_TIME w_LOCAL_DATE_TIME h0 n0 _ T5.heap _
    rw [e5]
    exact ⟨rfl, N0, rfl⟩
theorem own_m_BIG_INTEGER_ef (m : MethodId) (w_BIG_INTEGER : Addr) : entryFrame m #[(.ref w_BIG_INTEGER)] 1 = mkF m 0 #[rv w_BIG_INTEGER] [] := by first | (simp [entryFrame, mkF, argsToLocals, Value.category]; done) | rfl
def own_m_BIG_INTEGER_Q (Z : State) (w_STRING : Addr) (w_INTEGER : Addr) (w_LONG : Addr) (w_SHORT : Addr) (w_BYTE : Addr) (w_DOUBLE : Addr) (w_FLOAT : Addr) (w_BIG_DECIMAL : Addr) (w_BIG_INTEGER : Addr) (w_BOOLEAN : Addr) (w_LOCAL_DATE : Addr) (w_LOCAL_TIME : Addr) (w_LOCAL_DATE_TIME : Addr) (h0 : Heap) (n0 : Nat) (v : Option Value) (h : Heap) (L : List Loc) : Prop := v = some (.int 1) ∧ Fr n0 L ∧ h = h0
set_option maxRecDepth 65536 in
set_option maxHeartbeats 40000000 in
theorem own_m_BIG_INTEGER (l : Launch) (Z : State) (a0 : Array Value) (hw : ∀ d ∈ tables_1, d.before a0 Z = true) (ws : List Jvm.Cond) (w_STRING : Addr) (w_INTEGER : Addr) (w_LONG : Addr) (w_SHORT : Addr) (w_BYTE : Addr) (w_DOUBLE : Addr) (w_FLOAT : Addr) (w_BIG_DECIMAL : Addr) (w_BIG_INTEGER : Addr) (w_BOOLEAN : Addr) (w_LOCAL_DATE : Addr) (w_LOCAL_TIME : Addr) (w_LOCAL_DATE_TIME : Addr) (h0 : Heap) (n0 : Nat) (O0 : Old Z n0 h0) (U_STRING : own_En Z Z.heap "com/example/traversal/traversal/model/BasicType" "STRING" "Lcom/example/traversal/traversal/model/BasicType;" w_STRING (0 : Int32)) (U_INTEGER : own_En Z Z.heap "com/example/traversal/traversal/model/BasicType" "INTEGER" "Lcom/example/traversal/traversal/model/BasicType;" w_INTEGER (1 : Int32)) (U_LONG : own_En Z Z.heap "com/example/traversal/traversal/model/BasicType" "LONG" "Lcom/example/traversal/traversal/model/BasicType;" w_LONG (2 : Int32)) (U_SHORT : own_En Z Z.heap "com/example/traversal/traversal/model/BasicType" "SHORT" "Lcom/example/traversal/traversal/model/BasicType;" w_SHORT (3 : Int32)) (U_BYTE : own_En Z Z.heap "com/example/traversal/traversal/model/BasicType" "BYTE" "Lcom/example/traversal/traversal/model/BasicType;" w_BYTE (4 : Int32)) (U_DOUBLE : own_En Z Z.heap "com/example/traversal/traversal/model/BasicType" "DOUBLE" "Lcom/example/traversal/traversal/model/BasicType;" w_DOUBLE (5 : Int32)) (U_FLOAT : own_En Z Z.heap "com/example/traversal/traversal/model/BasicType" "FLOAT" "Lcom/example/traversal/traversal/model/BasicType;" w_FLOAT (6 : Int32)) (U_BIG_DECIMAL : own_En Z Z.heap "com/example/traversal/traversal/model/BasicType" "BIG_DECIMAL" "Lcom/example/traversal/traversal/model/BasicType;" w_BIG_DECIMAL (7 : Int32)) (U_BIG_INTEGER : own_En Z Z.heap "com/example/traversal/traversal/model/BasicType" "BIG_INTEGER" "Lcom/example/traversal/traversal/model/BasicType;" w_BIG_INTEGER (8 : Int32)) (U_BOOLEAN : own_En Z Z.heap "com/example/traversal/traversal/model/BasicType" "BOOLEAN" "Lcom/example/traversal/traversal/model/BasicType;" w_BOOLEAN (9 : Int32)) (U_LOCAL_DATE : own_En Z Z.heap "com/example/traversal/traversal/model/BasicType" "LOCAL_DATE" "Lcom/example/traversal/traversal/model/BasicType;" w_LOCAL_DATE (10 : Int32)) (U_LOCAL_TIME : own_En Z Z.heap "com/example/traversal/traversal/model/BasicType" "LOCAL_TIME" "Lcom/example/traversal/traversal/model/BasicType;" w_LOCAL_TIME (11 : Int32)) (U_LOCAL_DATE_TIME : own_En Z Z.heap "com/example/traversal/traversal/model/BasicType" "LOCAL_DATE_TIME" "Lcom/example/traversal/traversal/model/BasicType;" w_LOCAL_DATE_TIME (12 : Int32)) :
    MetFree l (⟨"com/example/traversal/traversal/model/BasicType", "isIntegral", "()Z"⟩ : MethodName) (head1 (Jvm.Cond.code (⟨"com/example/traversal/traversal/model/BasicType", "isIntegral", "()Z"⟩ : MethodName) prog_124_method_7_code 1 (some .boolean) :: ws) ({ frames := 0, cells := 0, slots := 0, locals := 0 } : Room)) (fun a U => a = #[(.ref w_BIG_INTEGER)] ∧ Z.Warmed39 U.vm ∧ U.heap = h0) (fun _ _ _ _ _ => True) (fun _ U o U' => ∃ v L, o = .returned v ∧ own_m_BIG_INTEGER_Q Z w_STRING w_INTEGER w_LONG w_SHORT w_BYTE w_DOUBLE w_FLOAT w_BIG_DECIMAL w_BIG_INTEGER w_BOOLEAN w_LOCAL_DATE w_LOCAL_TIME w_LOCAL_DATE_TIME h0 n0 v U'.heap L ∧ FrameEnd U o U' L ({ frames := 0, cells := 0, slots := 0, locals := 0 } : Room).cells ({ frames := 0, cells := 0, slots := 0, locals := 0 } : Room).slots) := by
  refine MetFree.of_bodySF (plainFor_of_name own_pn0) hisR ?_
  intro p e s m args below meth c s₁ Bd hml0 hP hK
  obtain ⟨rfl, hZ, hh⟩ := hP
  have hx := Bd.exec
  have hby := Bd.bytes
  have hml : c.maxLocals = 1 := hml0
  have hown : s.vm.findClass "com/example/traversal/traversal/model/BasicType" = some m.cls := findClass_of_methodNamed Bd.named
  have hnm := (name_of_methodNamed Bd.named Bd.method).1
  have X0 : Stand p l e ({ frames := 0, cells := 0, slots := 0, locals := 0 } : Room) s m #[(.ref w_BIG_INTEGER)] below meth c s₁ [] 0 0 := Stand.of_body Bd
  have e0 : s₁.heap = h0 := by rw [← hh, Bd.state]; rfl
  have N0 := Fr.nil n0
  have pre0 : ∀ t, Steps p.tables e below (s₁.setTop (mkF m 0 #[rv w_BIG_INTEGER] [])) t → Steps p.tables e below (s₁.setTop (entryFrame m #[(.ref w_BIG_INTEGER)] 1)) t := fun t k => castTop (own_m_BIG_INTEGER_ef m w_BIG_INTEGER) k
  obtain ⟨T1, X1, e1, st1⟩ := getS2 X0 hx hZ hown (host := "") (Or.inl (hw _ (List.mem_of_getElem? (i := 13) rfl))) Via.refl e0 (U_INTEGER.1.ext O0.2) (g := (mkF m 1 #[rv w_BIG_INTEGER] [(.ref w_BIG_INTEGER)])) rfl (hb hby own_d2_1)
  obtain ⟨T2, X2, e2, st2⟩ := getS2 X1 hx hZ hown (host := "") (Or.inl (hw _ (List.mem_of_getElem? (i := 15) rfl))) Via.refl e1 (U_LONG.1.ext O0.2) (g := (mkF m 8 #[rv w_BIG_INTEGER] [(.ref w_BIG_INTEGER)])) rfl (hb hby own_d2_8)
  obtain ⟨T3, X3, e3, st3⟩ := getS2 X2 hx hZ hown (host := "") (Or.inl (hw _ (List.mem_of_getElem? (i := 17) rfl))) Via.refl e2 (U_SHORT.1.ext O0.2) (g := (mkF m 15 #[rv w_BIG_INTEGER] [(.ref w_BIG_INTEGER)])) rfl (hb hby own_d2_15)
  obtain ⟨T4, X4, e4, st4⟩ := getS2 X3 hx hZ hown (host := "") (Or.inl (hw _ (List.mem_of_getElem? (i := 19) rfl))) Via.refl e3 (U_BYTE.1.ext O0.2) (g := (mkF m 22 #[rv w_BIG_INTEGER] [(.ref w_BIG_INTEGER)])) rfl (hb hby own_d2_22)
  obtain ⟨T5, X5, e5, st5⟩ := getS2 X4 hx hZ hown (host := "") (Or.inl (hw _ (List.mem_of_getElem? (i := 21) rfl))) Via.refl e4 (U_BIG_INTEGER.1.ext O0.2) (g := (mkF m 29 #[rv w_BIG_INTEGER] [(.ref w_BIG_INTEGER)])) rfl (hb hby own_d2_29)
  obtain ⟨fs, hr, hrun, hended, hW, hsame⟩ := X5.leave (v := some (.int 1)) (fun h => by rw [Bd.returns] at h; cases h)
  refine ⟨_, _, pre0 _ ?_, hrun, hended, _, _, rfl, ?_, ⟨_, rfl⟩, hW, hsame.mono (by decide) (by decide)⟩
  · show Steps p.tables e below (s₁.setTop (mkF m 0 #[rv w_BIG_INTEGER] [])) _
    refine XS.aloadN X0.here hx rfl (hb hby own_d2_0) rfl rfl ?_
    show Steps p.tables e below (s₁.setTop (mkF m 1 #[rv w_BIG_INTEGER] [(.ref w_BIG_INTEGER)])) _
    refine st1 _ ?_
    show Steps p.tables e below (T1.setTop (mkF m 4 #[rv w_BIG_INTEGER] [(.ref w_INTEGER), (.ref w_BIG_INTEGER)])) _
    refine Jvm.RoadKit.acmp (g := (mkF m 4 #[rv w_BIG_INTEGER] [(.ref w_INTEGER), (.ref w_BIG_INTEGER)])) X1 hx rfl rfl rfl (pc0 := 4) (pc' := 7) (same := false) rfl (hb hby own_d2_4) rfl (decide_eq_false fun q => (Ne.symm (Fld.ne U_INTEGER.2.2 U_BIG_INTEGER.2.2 (by decide))) (Value.ref.inj q)) (by decide) (by decide) ?_
    show Steps p.tables e below (T1.setTop (mkF m 7 #[rv w_BIG_INTEGER] [])) _
    refine XS.aloadN X1.here hx rfl (hb hby own_d2_7) rfl rfl ?_
    show Steps p.tables e below (T1.setTop (mkF m 8 #[rv w_BIG_INTEGER] [(.ref w_BIG_INTEGER)])) _
    refine st2 _ ?_
    show Steps p.tables e below (T2.setTop (mkF m 11 #[rv w_BIG_INTEGER] [(.ref w_LONG), (.ref w_BIG_INTEGER)])) _
    refine Jvm.RoadKit.acmp (g := (mkF m 11 #[rv w_BIG_INTEGER] [(.ref w_LONG), (.ref w_BIG_INTEGER)])) X2 hx rfl rfl rfl (pc0 := 11) (pc' := 14) (same := false) rfl (hb hby own_d2_11) rfl (decide_eq_false fun q => (Ne.symm (Fld.ne U_LONG.2.2 U_BIG_INTEGER.2.2 (by decide))) (Value.ref.inj q)) (by decide) (by decide) ?_
    show Steps p.tables e below (T2.setTop (mkF m 14 #[rv w_BIG_INTEGER] [])) _
    refine XS.aloadN X2.here hx rfl (hb hby own_d2_14) rfl rfl ?_
    show Steps p.tables e below (T2.setTop (mkF m 15 #[rv w_BIG_INTEGER] [(.ref w_BIG_INTEGER)])) _
    refine st3 _ ?_
    show Steps p.tables e below (T3.setTop (mkF m 18 #[rv w_BIG_INTEGER] [(.ref w_SHORT), (.ref w_BIG_INTEGER)])) _
    refine Jvm.RoadKit.acmp (g := (mkF m 18 #[rv w_BIG_INTEGER] [(.ref w_SHORT), (.ref w_BIG_INTEGER)])) X3 hx rfl rfl rfl (pc0 := 18) (pc' := 21) (same := false) rfl (hb hby own_d2_18) rfl (decide_eq_false fun q => (Ne.symm (Fld.ne U_SHORT.2.2 U_BIG_INTEGER.2.2 (by decide))) (Value.ref.inj q)) (by decide) (by decide) ?_
    show Steps p.tables e below (T3.setTop (mkF m 21 #[rv w_BIG_INTEGER] [])) _
    refine XS.aloadN X3.here hx rfl (hb hby own_d2_21) rfl rfl ?_
    show Steps p.tables e below (T3.setTop (mkF m 22 #[rv w_BIG_INTEGER] [(.ref w_BIG_INTEGER)])) _
    refine st4 _ ?_
    show Steps p.tables e below (T4.setTop (mkF m 25 #[rv w_BIG_INTEGER] [(.ref w_BYTE), (.ref w_BIG_INTEGER)])) _
    refine Jvm.RoadKit.acmp (g := (mkF m 25 #[rv w_BIG_INTEGER] [(.ref w_BYTE), (.ref w_BIG_INTEGER)])) X4 hx rfl rfl rfl (pc0 := 25) (pc' := 28) (same := false) rfl (hb hby own_d2_25) rfl (decide_eq_false fun q => (Ne.symm (Fld.ne U_BYTE.2.2 U_BIG_INTEGER.2.2 (by decide))) (Value.ref.inj q)) (by decide) (by decide) ?_
    show Steps p.tables e below (T4.setTop (mkF m 28 #[rv w_BIG_INTEGER] [])) _
    refine XS.aloadN X4.here hx rfl (hb hby own_d2_28) rfl rfl ?_
    show Steps p.tables e below (T4.setTop (mkF m 29 #[rv w_BIG_INTEGER] [(.ref w_BIG_INTEGER)])) _
    refine st5 _ ?_
    show Steps p.tables e below (T5.setTop (mkF m 32 #[rv w_BIG_INTEGER] [(.ref w_BIG_INTEGER), (.ref w_BIG_INTEGER)])) _
    refine Jvm.RoadKit.acmp (g := (mkF m 32 #[rv w_BIG_INTEGER] [(.ref w_BIG_INTEGER), (.ref w_BIG_INTEGER)])) X5 hx rfl rfl rfl (pc0 := 32) (pc' := 35) (same := true) rfl (hb hby own_d2_32) rfl (decide_eq_true rfl) (by decide) (by decide) ?_
    show Steps p.tables e below (T5.setTop (mkF m 35 #[rv w_BIG_INTEGER] [])) _
    refine XS.iconst X5.here hx rfl (hb hby own_d2_35) ?_
    show Steps p.tables e below (T5.setTop (mkF m 36 #[rv w_BIG_INTEGER] [(.int 1)])) _
    refine XS.goto X5.here hx rfl (pc0 := 36) (pc' := 40) rfl (hb hby own_d2_36) (by decide) (by decide) ?_
    show Steps p.tables e below (T5.setTop (mkF m 40 #[rv w_BIG_INTEGER] [(.int 1)])) _
    exact retN X5 hx (t := .boolean) Bd.returns (by simp) (hb hby own_d2_40) hr
  · show own_m_BIG_INTEGER_Q Z w_STRING w_INTEGER w_LONG w_SHORT w_BYTE w_DOUBLE w_FLOAT w_BIG_DECIMAL w_BIG_INTEGER w_BOOLEAN w_LOCAL_DATE w_LOCAL_TIME w_LOCAL_DATE_TIME h0 n0 _ T5.heap _
    rw [e5]
    exact ⟨rfl, N0, rfl⟩
theorem own_m_BOOLEAN_ef (m : MethodId) (w_BOOLEAN : Addr) : entryFrame m #[(.ref w_BOOLEAN)] 1 = mkF m 0 #[rv w_BOOLEAN] [] := by first | (simp [entryFrame, mkF, argsToLocals, Value.category]; done) | rfl
def own_m_BOOLEAN_Q (Z : State) (w_STRING : Addr) (w_INTEGER : Addr) (w_LONG : Addr) (w_SHORT : Addr) (w_BYTE : Addr) (w_DOUBLE : Addr) (w_FLOAT : Addr) (w_BIG_DECIMAL : Addr) (w_BIG_INTEGER : Addr) (w_BOOLEAN : Addr) (w_LOCAL_DATE : Addr) (w_LOCAL_TIME : Addr) (w_LOCAL_DATE_TIME : Addr) (h0 : Heap) (n0 : Nat) (v : Option Value) (h : Heap) (L : List Loc) : Prop := v = some (.int 0) ∧ Fr n0 L ∧ h = h0
set_option maxRecDepth 65536 in
set_option maxHeartbeats 40000000 in
theorem own_m_BOOLEAN (l : Launch) (Z : State) (a0 : Array Value) (hw : ∀ d ∈ tables_1, d.before a0 Z = true) (ws : List Jvm.Cond) (w_STRING : Addr) (w_INTEGER : Addr) (w_LONG : Addr) (w_SHORT : Addr) (w_BYTE : Addr) (w_DOUBLE : Addr) (w_FLOAT : Addr) (w_BIG_DECIMAL : Addr) (w_BIG_INTEGER : Addr) (w_BOOLEAN : Addr) (w_LOCAL_DATE : Addr) (w_LOCAL_TIME : Addr) (w_LOCAL_DATE_TIME : Addr) (h0 : Heap) (n0 : Nat) (O0 : Old Z n0 h0) (U_STRING : own_En Z Z.heap "com/example/traversal/traversal/model/BasicType" "STRING" "Lcom/example/traversal/traversal/model/BasicType;" w_STRING (0 : Int32)) (U_INTEGER : own_En Z Z.heap "com/example/traversal/traversal/model/BasicType" "INTEGER" "Lcom/example/traversal/traversal/model/BasicType;" w_INTEGER (1 : Int32)) (U_LONG : own_En Z Z.heap "com/example/traversal/traversal/model/BasicType" "LONG" "Lcom/example/traversal/traversal/model/BasicType;" w_LONG (2 : Int32)) (U_SHORT : own_En Z Z.heap "com/example/traversal/traversal/model/BasicType" "SHORT" "Lcom/example/traversal/traversal/model/BasicType;" w_SHORT (3 : Int32)) (U_BYTE : own_En Z Z.heap "com/example/traversal/traversal/model/BasicType" "BYTE" "Lcom/example/traversal/traversal/model/BasicType;" w_BYTE (4 : Int32)) (U_DOUBLE : own_En Z Z.heap "com/example/traversal/traversal/model/BasicType" "DOUBLE" "Lcom/example/traversal/traversal/model/BasicType;" w_DOUBLE (5 : Int32)) (U_FLOAT : own_En Z Z.heap "com/example/traversal/traversal/model/BasicType" "FLOAT" "Lcom/example/traversal/traversal/model/BasicType;" w_FLOAT (6 : Int32)) (U_BIG_DECIMAL : own_En Z Z.heap "com/example/traversal/traversal/model/BasicType" "BIG_DECIMAL" "Lcom/example/traversal/traversal/model/BasicType;" w_BIG_DECIMAL (7 : Int32)) (U_BIG_INTEGER : own_En Z Z.heap "com/example/traversal/traversal/model/BasicType" "BIG_INTEGER" "Lcom/example/traversal/traversal/model/BasicType;" w_BIG_INTEGER (8 : Int32)) (U_BOOLEAN : own_En Z Z.heap "com/example/traversal/traversal/model/BasicType" "BOOLEAN" "Lcom/example/traversal/traversal/model/BasicType;" w_BOOLEAN (9 : Int32)) (U_LOCAL_DATE : own_En Z Z.heap "com/example/traversal/traversal/model/BasicType" "LOCAL_DATE" "Lcom/example/traversal/traversal/model/BasicType;" w_LOCAL_DATE (10 : Int32)) (U_LOCAL_TIME : own_En Z Z.heap "com/example/traversal/traversal/model/BasicType" "LOCAL_TIME" "Lcom/example/traversal/traversal/model/BasicType;" w_LOCAL_TIME (11 : Int32)) (U_LOCAL_DATE_TIME : own_En Z Z.heap "com/example/traversal/traversal/model/BasicType" "LOCAL_DATE_TIME" "Lcom/example/traversal/traversal/model/BasicType;" w_LOCAL_DATE_TIME (12 : Int32)) :
    MetFree l (⟨"com/example/traversal/traversal/model/BasicType", "isIntegral", "()Z"⟩ : MethodName) (head1 (Jvm.Cond.code (⟨"com/example/traversal/traversal/model/BasicType", "isIntegral", "()Z"⟩ : MethodName) prog_124_method_7_code 1 (some .boolean) :: ws) ({ frames := 0, cells := 0, slots := 0, locals := 0 } : Room)) (fun a U => a = #[(.ref w_BOOLEAN)] ∧ Z.Warmed39 U.vm ∧ U.heap = h0) (fun _ _ _ _ _ => True) (fun _ U o U' => ∃ v L, o = .returned v ∧ own_m_BOOLEAN_Q Z w_STRING w_INTEGER w_LONG w_SHORT w_BYTE w_DOUBLE w_FLOAT w_BIG_DECIMAL w_BIG_INTEGER w_BOOLEAN w_LOCAL_DATE w_LOCAL_TIME w_LOCAL_DATE_TIME h0 n0 v U'.heap L ∧ FrameEnd U o U' L ({ frames := 0, cells := 0, slots := 0, locals := 0 } : Room).cells ({ frames := 0, cells := 0, slots := 0, locals := 0 } : Room).slots) := by
  refine MetFree.of_bodySF (plainFor_of_name own_pn0) hisR ?_
  intro p e s m args below meth c s₁ Bd hml0 hP hK
  obtain ⟨rfl, hZ, hh⟩ := hP
  have hx := Bd.exec
  have hby := Bd.bytes
  have hml : c.maxLocals = 1 := hml0
  have hown : s.vm.findClass "com/example/traversal/traversal/model/BasicType" = some m.cls := findClass_of_methodNamed Bd.named
  have hnm := (name_of_methodNamed Bd.named Bd.method).1
  have X0 : Stand p l e ({ frames := 0, cells := 0, slots := 0, locals := 0 } : Room) s m #[(.ref w_BOOLEAN)] below meth c s₁ [] 0 0 := Stand.of_body Bd
  have e0 : s₁.heap = h0 := by rw [← hh, Bd.state]; rfl
  have N0 := Fr.nil n0
  have pre0 : ∀ t, Steps p.tables e below (s₁.setTop (mkF m 0 #[rv w_BOOLEAN] [])) t → Steps p.tables e below (s₁.setTop (entryFrame m #[(.ref w_BOOLEAN)] 1)) t := fun t k => castTop (own_m_BOOLEAN_ef m w_BOOLEAN) k
  obtain ⟨T1, X1, e1, st1⟩ := getS2 X0 hx hZ hown (host := "") (Or.inl (hw _ (List.mem_of_getElem? (i := 13) rfl))) Via.refl e0 (U_INTEGER.1.ext O0.2) (g := (mkF m 1 #[rv w_BOOLEAN] [(.ref w_BOOLEAN)])) rfl (hb hby own_d2_1)
  obtain ⟨T2, X2, e2, st2⟩ := getS2 X1 hx hZ hown (host := "") (Or.inl (hw _ (List.mem_of_getElem? (i := 15) rfl))) Via.refl e1 (U_LONG.1.ext O0.2) (g := (mkF m 8 #[rv w_BOOLEAN] [(.ref w_BOOLEAN)])) rfl (hb hby own_d2_8)
  obtain ⟨T3, X3, e3, st3⟩ := getS2 X2 hx hZ hown (host := "") (Or.inl (hw _ (List.mem_of_getElem? (i := 17) rfl))) Via.refl e2 (U_SHORT.1.ext O0.2) (g := (mkF m 15 #[rv w_BOOLEAN] [(.ref w_BOOLEAN)])) rfl (hb hby own_d2_15)
  obtain ⟨T4, X4, e4, st4⟩ := getS2 X3 hx hZ hown (host := "") (Or.inl (hw _ (List.mem_of_getElem? (i := 19) rfl))) Via.refl e3 (U_BYTE.1.ext O0.2) (g := (mkF m 22 #[rv w_BOOLEAN] [(.ref w_BOOLEAN)])) rfl (hb hby own_d2_22)
  obtain ⟨T5, X5, e5, st5⟩ := getS2 X4 hx hZ hown (host := "") (Or.inl (hw _ (List.mem_of_getElem? (i := 21) rfl))) Via.refl e4 (U_BIG_INTEGER.1.ext O0.2) (g := (mkF m 29 #[rv w_BOOLEAN] [(.ref w_BOOLEAN)])) rfl (hb hby own_d2_29)
  obtain ⟨fs, hr, hrun, hended, hW, hsame⟩ := X5.leave (v := some (.int 0)) (fun h => by rw [Bd.returns] at h; cases h)
  refine ⟨_, _, pre0 _ ?_, hrun, hended, _, _, rfl, ?_, ⟨_, rfl⟩, hW, hsame.mono (by decide) (by decide)⟩
  · show Steps p.tables e below (s₁.setTop (mkF m 0 #[rv w_BOOLEAN] [])) _
    refine XS.aloadN X0.here hx rfl (hb hby own_d2_0) rfl rfl ?_
    show Steps p.tables e below (s₁.setTop (mkF m 1 #[rv w_BOOLEAN] [(.ref w_BOOLEAN)])) _
    refine st1 _ ?_
    show Steps p.tables e below (T1.setTop (mkF m 4 #[rv w_BOOLEAN] [(.ref w_INTEGER), (.ref w_BOOLEAN)])) _
    refine Jvm.RoadKit.acmp (g := (mkF m 4 #[rv w_BOOLEAN] [(.ref w_INTEGER), (.ref w_BOOLEAN)])) X1 hx rfl rfl rfl (pc0 := 4) (pc' := 7) (same := false) rfl (hb hby own_d2_4) rfl (decide_eq_false fun q => (Ne.symm (Fld.ne U_INTEGER.2.2 U_BOOLEAN.2.2 (by decide))) (Value.ref.inj q)) (by decide) (by decide) ?_
    show Steps p.tables e below (T1.setTop (mkF m 7 #[rv w_BOOLEAN] [])) _
    refine XS.aloadN X1.here hx rfl (hb hby own_d2_7) rfl rfl ?_
    show Steps p.tables e below (T1.setTop (mkF m 8 #[rv w_BOOLEAN] [(.ref w_BOOLEAN)])) _
    refine st2 _ ?_
    show Steps p.tables e below (T2.setTop (mkF m 11 #[rv w_BOOLEAN] [(.ref w_LONG), (.ref w_BOOLEAN)])) _
    refine Jvm.RoadKit.acmp (g := (mkF m 11 #[rv w_BOOLEAN] [(.ref w_LONG), (.ref w_BOOLEAN)])) X2 hx rfl rfl rfl (pc0 := 11) (pc' := 14) (same := false) rfl (hb hby own_d2_11) rfl (decide_eq_false fun q => (Ne.symm (Fld.ne U_LONG.2.2 U_BOOLEAN.2.2 (by decide))) (Value.ref.inj q)) (by decide) (by decide) ?_
    show Steps p.tables e below (T2.setTop (mkF m 14 #[rv w_BOOLEAN] [])) _
    refine XS.aloadN X2.here hx rfl (hb hby own_d2_14) rfl rfl ?_
    show Steps p.tables e below (T2.setTop (mkF m 15 #[rv w_BOOLEAN] [(.ref w_BOOLEAN)])) _
    refine st3 _ ?_
    show Steps p.tables e below (T3.setTop (mkF m 18 #[rv w_BOOLEAN] [(.ref w_SHORT), (.ref w_BOOLEAN)])) _
    refine Jvm.RoadKit.acmp (g := (mkF m 18 #[rv w_BOOLEAN] [(.ref w_SHORT), (.ref w_BOOLEAN)])) X3 hx rfl rfl rfl (pc0 := 18) (pc' := 21) (same := false) rfl (hb hby own_d2_18) rfl (decide_eq_false fun q => (Ne.symm (Fld.ne U_SHORT.2.2 U_BOOLEAN.2.2 (by decide))) (Value.ref.inj q)) (by decide) (by decide) ?_
    show Steps p.tables e below (T3.setTop (mkF m 21 #[rv w_BOOLEAN] [])) _
    refine XS.aloadN X3.here hx rfl (hb hby own_d2_21) rfl rfl ?_
    show Steps p.tables e below (T3.setTop (mkF m 22 #[rv w_BOOLEAN] [(.ref w_BOOLEAN)])) _
    refine st4 _ ?_
    show Steps p.tables e below (T4.setTop (mkF m 25 #[rv w_BOOLEAN] [(.ref w_BYTE), (.ref w_BOOLEAN)])) _
    refine Jvm.RoadKit.acmp (g := (mkF m 25 #[rv w_BOOLEAN] [(.ref w_BYTE), (.ref w_BOOLEAN)])) X4 hx rfl rfl rfl (pc0 := 25) (pc' := 28) (same := false) rfl (hb hby own_d2_25) rfl (decide_eq_false fun q => (Ne.symm (Fld.ne U_BYTE.2.2 U_BOOLEAN.2.2 (by decide))) (Value.ref.inj q)) (by decide) (by decide) ?_
    show Steps p.tables e below (T4.setTop (mkF m 28 #[rv w_BOOLEAN] [])) _
    refine XS.aloadN X4.here hx rfl (hb hby own_d2_28) rfl rfl ?_
    show Steps p.tables e below (T4.setTop (mkF m 29 #[rv w_BOOLEAN] [(.ref w_BOOLEAN)])) _
    refine st5 _ ?_
    show Steps p.tables e below (T5.setTop (mkF m 32 #[rv w_BOOLEAN] [(.ref w_BIG_INTEGER), (.ref w_BOOLEAN)])) _
    refine Jvm.RoadKit.acmp (g := (mkF m 32 #[rv w_BOOLEAN] [(.ref w_BIG_INTEGER), (.ref w_BOOLEAN)])) X5 hx rfl rfl rfl (pc0 := 32) (pc' := 39) (same := false) rfl (hb hby own_d2_32) rfl (decide_eq_false fun q => (Ne.symm (Fld.ne U_BIG_INTEGER.2.2 U_BOOLEAN.2.2 (by decide))) (Value.ref.inj q)) (by decide) (by decide) ?_
    show Steps p.tables e below (T5.setTop (mkF m 39 #[rv w_BOOLEAN] [])) _
    refine XS.iconst X5.here hx rfl (hb hby own_d2_39) ?_
    show Steps p.tables e below (T5.setTop (mkF m 40 #[rv w_BOOLEAN] [(.int 0)])) _
    exact retN X5 hx (t := .boolean) Bd.returns (by simp) (hb hby own_d2_40) hr
  · show own_m_BOOLEAN_Q Z w_STRING w_INTEGER w_LONG w_SHORT w_BYTE w_DOUBLE w_FLOAT w_BIG_DECIMAL w_BIG_INTEGER w_BOOLEAN w_LOCAL_DATE w_LOCAL_TIME w_LOCAL_DATE_TIME h0 n0 _ T5.heap _
    rw [e5]
    exact ⟨rfl, N0, rfl⟩
theorem own_m_LOCAL_DATE_ef (m : MethodId) (w_LOCAL_DATE : Addr) : entryFrame m #[(.ref w_LOCAL_DATE)] 1 = mkF m 0 #[rv w_LOCAL_DATE] [] := by first | (simp [entryFrame, mkF, argsToLocals, Value.category]; done) | rfl
def own_m_LOCAL_DATE_Q (Z : State) (w_STRING : Addr) (w_INTEGER : Addr) (w_LONG : Addr) (w_SHORT : Addr) (w_BYTE : Addr) (w_DOUBLE : Addr) (w_FLOAT : Addr) (w_BIG_DECIMAL : Addr) (w_BIG_INTEGER : Addr) (w_BOOLEAN : Addr) (w_LOCAL_DATE : Addr) (w_LOCAL_TIME : Addr) (w_LOCAL_DATE_TIME : Addr) (h0 : Heap) (n0 : Nat) (v : Option Value) (h : Heap) (L : List Loc) : Prop := v = some (.int 0) ∧ Fr n0 L ∧ h = h0
set_option maxRecDepth 65536 in
set_option maxHeartbeats 40000000 in
theorem own_m_LOCAL_DATE (l : Launch) (Z : State) (a0 : Array Value) (hw : ∀ d ∈ tables_1, d.before a0 Z = true) (ws : List Jvm.Cond) (w_STRING : Addr) (w_INTEGER : Addr) (w_LONG : Addr) (w_SHORT : Addr) (w_BYTE : Addr) (w_DOUBLE : Addr) (w_FLOAT : Addr) (w_BIG_DECIMAL : Addr) (w_BIG_INTEGER : Addr) (w_BOOLEAN : Addr) (w_LOCAL_DATE : Addr) (w_LOCAL_TIME : Addr) (w_LOCAL_DATE_TIME : Addr) (h0 : Heap) (n0 : Nat) (O0 : Old Z n0 h0) (U_STRING : own_En Z Z.heap "com/example/traversal/traversal/model/BasicType" "STRING" "Lcom/example/traversal/traversal/model/BasicType;" w_STRING (0 : Int32)) (U_INTEGER : own_En Z Z.heap "com/example/traversal/traversal/model/BasicType" "INTEGER" "Lcom/example/traversal/traversal/model/BasicType;" w_INTEGER (1 : Int32)) (U_LONG : own_En Z Z.heap "com/example/traversal/traversal/model/BasicType" "LONG" "Lcom/example/traversal/traversal/model/BasicType;" w_LONG (2 : Int32)) (U_SHORT : own_En Z Z.heap "com/example/traversal/traversal/model/BasicType" "SHORT" "Lcom/example/traversal/traversal/model/BasicType;" w_SHORT (3 : Int32)) (U_BYTE : own_En Z Z.heap "com/example/traversal/traversal/model/BasicType" "BYTE" "Lcom/example/traversal/traversal/model/BasicType;" w_BYTE (4 : Int32)) (U_DOUBLE : own_En Z Z.heap "com/example/traversal/traversal/model/BasicType" "DOUBLE" "Lcom/example/traversal/traversal/model/BasicType;" w_DOUBLE (5 : Int32)) (U_FLOAT : own_En Z Z.heap "com/example/traversal/traversal/model/BasicType" "FLOAT" "Lcom/example/traversal/traversal/model/BasicType;" w_FLOAT (6 : Int32)) (U_BIG_DECIMAL : own_En Z Z.heap "com/example/traversal/traversal/model/BasicType" "BIG_DECIMAL" "Lcom/example/traversal/traversal/model/BasicType;" w_BIG_DECIMAL (7 : Int32)) (U_BIG_INTEGER : own_En Z Z.heap "com/example/traversal/traversal/model/BasicType" "BIG_INTEGER" "Lcom/example/traversal/traversal/model/BasicType;" w_BIG_INTEGER (8 : Int32)) (U_BOOLEAN : own_En Z Z.heap "com/example/traversal/traversal/model/BasicType" "BOOLEAN" "Lcom/example/traversal/traversal/model/BasicType;" w_BOOLEAN (9 : Int32)) (U_LOCAL_DATE : own_En Z Z.heap "com/example/traversal/traversal/model/BasicType" "LOCAL_DATE" "Lcom/example/traversal/traversal/model/BasicType;" w_LOCAL_DATE (10 : Int32)) (U_LOCAL_TIME : own_En Z Z.heap "com/example/traversal/traversal/model/BasicType" "LOCAL_TIME" "Lcom/example/traversal/traversal/model/BasicType;" w_LOCAL_TIME (11 : Int32)) (U_LOCAL_DATE_TIME : own_En Z Z.heap "com/example/traversal/traversal/model/BasicType" "LOCAL_DATE_TIME" "Lcom/example/traversal/traversal/model/BasicType;" w_LOCAL_DATE_TIME (12 : Int32)) :
    MetFree l (⟨"com/example/traversal/traversal/model/BasicType", "isIntegral", "()Z"⟩ : MethodName) (head1 (Jvm.Cond.code (⟨"com/example/traversal/traversal/model/BasicType", "isIntegral", "()Z"⟩ : MethodName) prog_124_method_7_code 1 (some .boolean) :: ws) ({ frames := 0, cells := 0, slots := 0, locals := 0 } : Room)) (fun a U => a = #[(.ref w_LOCAL_DATE)] ∧ Z.Warmed39 U.vm ∧ U.heap = h0) (fun _ _ _ _ _ => True) (fun _ U o U' => ∃ v L, o = .returned v ∧ own_m_LOCAL_DATE_Q Z w_STRING w_INTEGER w_LONG w_SHORT w_BYTE w_DOUBLE w_FLOAT w_BIG_DECIMAL w_BIG_INTEGER w_BOOLEAN w_LOCAL_DATE w_LOCAL_TIME w_LOCAL_DATE_TIME h0 n0 v U'.heap L ∧ FrameEnd U o U' L ({ frames := 0, cells := 0, slots := 0, locals := 0 } : Room).cells ({ frames := 0, cells := 0, slots := 0, locals := 0 } : Room).slots) := by
  refine MetFree.of_bodySF (plainFor_of_name own_pn0) hisR ?_
  intro p e s m args below meth c s₁ Bd hml0 hP hK
  obtain ⟨rfl, hZ, hh⟩ := hP
  have hx := Bd.exec
  have hby := Bd.bytes
  have hml : c.maxLocals = 1 := hml0
  have hown : s.vm.findClass "com/example/traversal/traversal/model/BasicType" = some m.cls := findClass_of_methodNamed Bd.named
  have hnm := (name_of_methodNamed Bd.named Bd.method).1
  have X0 : Stand p l e ({ frames := 0, cells := 0, slots := 0, locals := 0 } : Room) s m #[(.ref w_LOCAL_DATE)] below meth c s₁ [] 0 0 := Stand.of_body Bd
  have e0 : s₁.heap = h0 := by rw [← hh, Bd.state]; rfl
  have N0 := Fr.nil n0
  have pre0 : ∀ t, Steps p.tables e below (s₁.setTop (mkF m 0 #[rv w_LOCAL_DATE] [])) t → Steps p.tables e below (s₁.setTop (entryFrame m #[(.ref w_LOCAL_DATE)] 1)) t := fun t k => castTop (own_m_LOCAL_DATE_ef m w_LOCAL_DATE) k
  obtain ⟨T1, X1, e1, st1⟩ := getS2 X0 hx hZ hown (host := "") (Or.inl (hw _ (List.mem_of_getElem? (i := 13) rfl))) Via.refl e0 (U_INTEGER.1.ext O0.2) (g := (mkF m 1 #[rv w_LOCAL_DATE] [(.ref w_LOCAL_DATE)])) rfl (hb hby own_d2_1)
  obtain ⟨T2, X2, e2, st2⟩ := getS2 X1 hx hZ hown (host := "") (Or.inl (hw _ (List.mem_of_getElem? (i := 15) rfl))) Via.refl e1 (U_LONG.1.ext O0.2) (g := (mkF m 8 #[rv w_LOCAL_DATE] [(.ref w_LOCAL_DATE)])) rfl (hb hby own_d2_8)
  obtain ⟨T3, X3, e3, st3⟩ := getS2 X2 hx hZ hown (host := "") (Or.inl (hw _ (List.mem_of_getElem? (i := 17) rfl))) Via.refl e2 (U_SHORT.1.ext O0.2) (g := (mkF m 15 #[rv w_LOCAL_DATE] [(.ref w_LOCAL_DATE)])) rfl (hb hby own_d2_15)
  obtain ⟨T4, X4, e4, st4⟩ := getS2 X3 hx hZ hown (host := "") (Or.inl (hw _ (List.mem_of_getElem? (i := 19) rfl))) Via.refl e3 (U_BYTE.1.ext O0.2) (g := (mkF m 22 #[rv w_LOCAL_DATE] [(.ref w_LOCAL_DATE)])) rfl (hb hby own_d2_22)
  obtain ⟨T5, X5, e5, st5⟩ := getS2 X4 hx hZ hown (host := "") (Or.inl (hw _ (List.mem_of_getElem? (i := 21) rfl))) Via.refl e4 (U_BIG_INTEGER.1.ext O0.2) (g := (mkF m 29 #[rv w_LOCAL_DATE] [(.ref w_LOCAL_DATE)])) rfl (hb hby own_d2_29)
  obtain ⟨fs, hr, hrun, hended, hW, hsame⟩ := X5.leave (v := some (.int 0)) (fun h => by rw [Bd.returns] at h; cases h)
  refine ⟨_, _, pre0 _ ?_, hrun, hended, _, _, rfl, ?_, ⟨_, rfl⟩, hW, hsame.mono (by decide) (by decide)⟩
  · show Steps p.tables e below (s₁.setTop (mkF m 0 #[rv w_LOCAL_DATE] [])) _
    refine XS.aloadN X0.here hx rfl (hb hby own_d2_0) rfl rfl ?_
    show Steps p.tables e below (s₁.setTop (mkF m 1 #[rv w_LOCAL_DATE] [(.ref w_LOCAL_DATE)])) _
    refine st1 _ ?_
    show Steps p.tables e below (T1.setTop (mkF m 4 #[rv w_LOCAL_DATE] [(.ref w_INTEGER), (.ref w_LOCAL_DATE)])) _
    refine Jvm.RoadKit.acmp (g := (mkF m 4 #[rv w_LOCAL_DATE] [(.ref w_INTEGER), (.ref w_LOCAL_DATE)])) X1 hx rfl rfl rfl (pc0 := 4) (pc' := 7) (same := false) rfl (hb hby own_d2_4) rfl (decide_eq_false fun q => (Ne.symm (Fld.ne U_INTEGER.2.2 U_LOCAL_DATE.2.2 (by decide))) (Value.ref.inj q)) (by decide) (by decide) ?_
    show Steps p.tables e below (T1.setTop (mkF m 7 #[rv w_LOCAL_DATE] [])) _
    refine XS.aloadN X1.here hx rfl (hb hby own_d2_7) rfl rfl ?_
    show Steps p.tables e below (T1.setTop (mkF m 8 #[rv w_LOCAL_DATE] [(.ref w_LOCAL_DATE)])) _
    refine st2 _ ?_
    show Steps p.tables e below (T2.setTop (mkF m 11 #[rv w_LOCAL_DATE] [(.ref w_LONG), (.ref w_LOCAL_DATE)])) _
    refine Jvm.RoadKit.acmp (g := (mkF m 11 #[rv w_LOCAL_DATE] [(.ref w_LONG), (.ref w_LOCAL_DATE)])) X2 hx rfl rfl rfl (pc0 := 11) (pc' := 14) (same := false) rfl (hb hby own_d2_11) rfl (decide_eq_false fun q => (Ne.symm (Fld.ne U_LONG.2.2 U_LOCAL_DATE.2.2 (by decide))) (Value.ref.inj q)) (by decide) (by decide) ?_
    show Steps p.tables e below (T2.setTop (mkF m 14 #[rv w_LOCAL_DATE] [])) _
    refine XS.aloadN X2.here hx rfl (hb hby own_d2_14) rfl rfl ?_
    show Steps p.tables e below (T2.setTop (mkF m 15 #[rv w_LOCAL_DATE] [(.ref w_LOCAL_DATE)])) _
    refine st3 _ ?_
    show Steps p.tables e below (T3.setTop (mkF m 18 #[rv w_LOCAL_DATE] [(.ref w_SHORT), (.ref w_LOCAL_DATE)])) _
    refine Jvm.RoadKit.acmp (g := (mkF m 18 #[rv w_LOCAL_DATE] [(.ref w_SHORT), (.ref w_LOCAL_DATE)])) X3 hx rfl rfl rfl (pc0 := 18) (pc' := 21) (same := false) rfl (hb hby own_d2_18) rfl (decide_eq_false fun q => (Ne.symm (Fld.ne U_SHORT.2.2 U_LOCAL_DATE.2.2 (by decide))) (Value.ref.inj q)) (by decide) (by decide) ?_
    show Steps p.tables e below (T3.setTop (mkF m 21 #[rv w_LOCAL_DATE] [])) _
    refine XS.aloadN X3.here hx rfl (hb hby own_d2_21) rfl rfl ?_
    show Steps p.tables e below (T3.setTop (mkF m 22 #[rv w_LOCAL_DATE] [(.ref w_LOCAL_DATE)])) _
    refine st4 _ ?_
    show Steps p.tables e below (T4.setTop (mkF m 25 #[rv w_LOCAL_DATE] [(.ref w_BYTE), (.ref w_LOCAL_DATE)])) _
    refine Jvm.RoadKit.acmp (g := (mkF m 25 #[rv w_LOCAL_DATE] [(.ref w_BYTE), (.ref w_LOCAL_DATE)])) X4 hx rfl rfl rfl (pc0 := 25) (pc' := 28) (same := false) rfl (hb hby own_d2_25) rfl (decide_eq_false fun q => (Ne.symm (Fld.ne U_BYTE.2.2 U_LOCAL_DATE.2.2 (by decide))) (Value.ref.inj q)) (by decide) (by decide) ?_
    show Steps p.tables e below (T4.setTop (mkF m 28 #[rv w_LOCAL_DATE] [])) _
    refine XS.aloadN X4.here hx rfl (hb hby own_d2_28) rfl rfl ?_
    show Steps p.tables e below (T4.setTop (mkF m 29 #[rv w_LOCAL_DATE] [(.ref w_LOCAL_DATE)])) _
    refine st5 _ ?_
    show Steps p.tables e below (T5.setTop (mkF m 32 #[rv w_LOCAL_DATE] [(.ref w_BIG_INTEGER), (.ref w_LOCAL_DATE)])) _
    refine Jvm.RoadKit.acmp (g := (mkF m 32 #[rv w_LOCAL_DATE] [(.ref w_BIG_INTEGER), (.ref w_LOCAL_DATE)])) X5 hx rfl rfl rfl (pc0 := 32) (pc' := 39) (same := false) rfl (hb hby own_d2_32) rfl (decide_eq_false fun q => (Ne.symm (Fld.ne U_BIG_INTEGER.2.2 U_LOCAL_DATE.2.2 (by decide))) (Value.ref.inj q)) (by decide) (by decide) ?_
    show Steps p.tables e below (T5.setTop (mkF m 39 #[rv w_LOCAL_DATE] [])) _
    refine XS.iconst X5.here hx rfl (hb hby own_d2_39) ?_
    show Steps p.tables e below (T5.setTop (mkF m 40 #[rv w_LOCAL_DATE] [(.int 0)])) _
    exact retN X5 hx (t := .boolean) Bd.returns (by simp) (hb hby own_d2_40) hr
  · show own_m_LOCAL_DATE_Q Z w_STRING w_INTEGER w_LONG w_SHORT w_BYTE w_DOUBLE w_FLOAT w_BIG_DECIMAL w_BIG_INTEGER w_BOOLEAN w_LOCAL_DATE w_LOCAL_TIME w_LOCAL_DATE_TIME h0 n0 _ T5.heap _
    rw [e5]
    exact ⟨rfl, N0, rfl⟩
theorem own_m_LOCAL_TIME_ef (m : MethodId) (w_LOCAL_TIME : Addr) : entryFrame m #[(.ref w_LOCAL_TIME)] 1 = mkF m 0 #[rv w_LOCAL_TIME] [] := by first | (simp [entryFrame, mkF, argsToLocals, Value.category]; done) | rfl
def own_m_LOCAL_TIME_Q (Z : State) (w_STRING : Addr) (w_INTEGER : Addr) (w_LONG : Addr) (w_SHORT : Addr) (w_BYTE : Addr) (w_DOUBLE : Addr) (w_FLOAT : Addr) (w_BIG_DECIMAL : Addr) (w_BIG_INTEGER : Addr) (w_BOOLEAN : Addr) (w_LOCAL_DATE : Addr) (w_LOCAL_TIME : Addr) (w_LOCAL_DATE_TIME : Addr) (h0 : Heap) (n0 : Nat) (v : Option Value) (h : Heap) (L : List Loc) : Prop := v = some (.int 0) ∧ Fr n0 L ∧ h = h0
set_option maxRecDepth 65536 in
set_option maxHeartbeats 40000000 in
theorem own_m_LOCAL_TIME (l : Launch) (Z : State) (a0 : Array Value) (hw : ∀ d ∈ tables_1, d.before a0 Z = true) (ws : List Jvm.Cond) (w_STRING : Addr) (w_INTEGER : Addr) (w_LONG : Addr) (w_SHORT : Addr) (w_BYTE : Addr) (w_DOUBLE : Addr) (w_FLOAT : Addr) (w_BIG_DECIMAL : Addr) (w_BIG_INTEGER : Addr) (w_BOOLEAN : Addr) (w_LOCAL_DATE : Addr) (w_LOCAL_TIME : Addr) (w_LOCAL_DATE_TIME : Addr) (h0 : Heap) (n0 : Nat) (O0 : Old Z n0 h0) (U_STRING : own_En Z Z.heap "com/example/traversal/traversal/model/BasicType" "STRING" "Lcom/example/traversal/traversal/model/BasicType;" w_STRING (0 : Int32)) (U_INTEGER : own_En Z Z.heap "com/example/traversal/traversal/model/BasicType" "INTEGER" "Lcom/example/traversal/traversal/model/BasicType;" w_INTEGER (1 : Int32)) (U_LONG : own_En Z Z.heap "com/example/traversal/traversal/model/BasicType" "LONG" "Lcom/example/traversal/traversal/model/BasicType;" w_LONG (2 : Int32)) (U_SHORT : own_En Z Z.heap "com/example/traversal/traversal/model/BasicType" "SHORT" "Lcom/example/traversal/traversal/model/BasicType;" w_SHORT (3 : Int32)) (U_BYTE : own_En Z Z.heap "com/example/traversal/traversal/model/BasicType" "BYTE" "Lcom/example/traversal/traversal/model/BasicType;" w_BYTE (4 : Int32)) (U_DOUBLE : own_En Z Z.heap "com/example/traversal/traversal/model/BasicType" "DOUBLE" "Lcom/example/traversal/traversal/model/BasicType;" w_DOUBLE (5 : Int32)) (U_FLOAT : own_En Z Z.heap "com/example/traversal/traversal/model/BasicType" "FLOAT" "Lcom/example/traversal/traversal/model/BasicType;" w_FLOAT (6 : Int32)) (U_BIG_DECIMAL : own_En Z Z.heap "com/example/traversal/traversal/model/BasicType" "BIG_DECIMAL" "Lcom/example/traversal/traversal/model/BasicType;" w_BIG_DECIMAL (7 : Int32)) (U_BIG_INTEGER : own_En Z Z.heap "com/example/traversal/traversal/model/BasicType" "BIG_INTEGER" "Lcom/example/traversal/traversal/model/BasicType;" w_BIG_INTEGER (8 : Int32)) (U_BOOLEAN : own_En Z Z.heap "com/example/traversal/traversal/model/BasicType" "BOOLEAN" "Lcom/example/traversal/traversal/model/BasicType;" w_BOOLEAN (9 : Int32)) (U_LOCAL_DATE : own_En Z Z.heap "com/example/traversal/traversal/model/BasicType" "LOCAL_DATE" "Lcom/example/traversal/traversal/model/BasicType;" w_LOCAL_DATE (10 : Int32)) (U_LOCAL_TIME : own_En Z Z.heap "com/example/traversal/traversal/model/BasicType" "LOCAL_TIME" "Lcom/example/traversal/traversal/model/BasicType;" w_LOCAL_TIME (11 : Int32)) (U_LOCAL_DATE_TIME : own_En Z Z.heap "com/example/traversal/traversal/model/BasicType" "LOCAL_DATE_TIME" "Lcom/example/traversal/traversal/model/BasicType;" w_LOCAL_DATE_TIME (12 : Int32)) :
    MetFree l (⟨"com/example/traversal/traversal/model/BasicType", "isIntegral", "()Z"⟩ : MethodName) (head1 (Jvm.Cond.code (⟨"com/example/traversal/traversal/model/BasicType", "isIntegral", "()Z"⟩ : MethodName) prog_124_method_7_code 1 (some .boolean) :: ws) ({ frames := 0, cells := 0, slots := 0, locals := 0 } : Room)) (fun a U => a = #[(.ref w_LOCAL_TIME)] ∧ Z.Warmed39 U.vm ∧ U.heap = h0) (fun _ _ _ _ _ => True) (fun _ U o U' => ∃ v L, o = .returned v ∧ own_m_LOCAL_TIME_Q Z w_STRING w_INTEGER w_LONG w_SHORT w_BYTE w_DOUBLE w_FLOAT w_BIG_DECIMAL w_BIG_INTEGER w_BOOLEAN w_LOCAL_DATE w_LOCAL_TIME w_LOCAL_DATE_TIME h0 n0 v U'.heap L ∧ FrameEnd U o U' L ({ frames := 0, cells := 0, slots := 0, locals := 0 } : Room).cells ({ frames := 0, cells := 0, slots := 0, locals := 0 } : Room).slots) := by
  refine MetFree.of_bodySF (plainFor_of_name own_pn0) hisR ?_
  intro p e s m args below meth c s₁ Bd hml0 hP hK
  obtain ⟨rfl, hZ, hh⟩ := hP
  have hx := Bd.exec
  have hby := Bd.bytes
  have hml : c.maxLocals = 1 := hml0
  have hown : s.vm.findClass "com/example/traversal/traversal/model/BasicType" = some m.cls := findClass_of_methodNamed Bd.named
  have hnm := (name_of_methodNamed Bd.named Bd.method).1
  have X0 : Stand p l e ({ frames := 0, cells := 0, slots := 0, locals := 0 } : Room) s m #[(.ref w_LOCAL_TIME)] below meth c s₁ [] 0 0 := Stand.of_body Bd
  have e0 : s₁.heap = h0 := by rw [← hh, Bd.state]; rfl
  have N0 := Fr.nil n0
  have pre0 : ∀ t, Steps p.tables e below (s₁.setTop (mkF m 0 #[rv w_LOCAL_TIME] [])) t → Steps p.tables e below (s₁.setTop (entryFrame m #[(.ref w_LOCAL_TIME)] 1)) t := fun t k => castTop (own_m_LOCAL_TIME_ef m w_LOCAL_TIME) k
  obtain ⟨T1, X1, e1, st1⟩ := getS2 X0 hx hZ hown (host := "") (Or.inl (hw _ (List.mem_of_getElem? (i := 13) rfl))) Via.refl e0 (U_INTEGER.1.ext O0.2) (g := (mkF m 1 #[rv w_LOCAL_TIME] [(.ref w_LOCAL_TIME)])) rfl (hb hby own_d2_1)
  obtain ⟨T2, X2, e2, st2⟩ := getS2 X1 hx hZ hown (host := "") (Or.inl (hw _ (List.mem_of_getElem? (i := 15) rfl))) Via.refl e1 (U_LONG.1.ext O0.2) (g := (mkF m 8 #[rv w_LOCAL_TIME] [(.ref w_LOCAL_TIME)])) rfl (hb hby own_d2_8)
  obtain ⟨T3, X3, e3, st3⟩ := getS2 X2 hx hZ hown (host := "") (Or.inl (hw _ (List.mem_of_getElem? (i := 17) rfl))) Via.refl e2 (U_SHORT.1.ext O0.2) (g := (mkF m 15 #[rv w_LOCAL_TIME] [(.ref w_LOCAL_TIME)])) rfl (hb hby own_d2_15)
  obtain ⟨T4, X4, e4, st4⟩ := getS2 X3 hx hZ hown (host := "") (Or.inl (hw _ (List.mem_of_getElem? (i := 19) rfl))) Via.refl e3 (U_BYTE.1.ext O0.2) (g := (mkF m 22 #[rv w_LOCAL_TIME] [(.ref w_LOCAL_TIME)])) rfl (hb hby own_d2_22)
  obtain ⟨T5, X5, e5, st5⟩ := getS2 X4 hx hZ hown (host := "") (Or.inl (hw _ (List.mem_of_getElem? (i := 21) rfl))) Via.refl e4 (U_BIG_INTEGER.1.ext O0.2) (g := (mkF m 29 #[rv w_LOCAL_TIME] [(.ref w_LOCAL_TIME)])) rfl (hb hby own_d2_29)
  obtain ⟨fs, hr, hrun, hended, hW, hsame⟩ := X5.leave (v := some (.int 0)) (fun h => by rw [Bd.returns] at h; cases h)
  refine ⟨_, _, pre0 _ ?_, hrun, hended, _, _, rfl, ?_, ⟨_, rfl⟩, hW, hsame.mono (by decide) (by decide)⟩
  · show Steps p.tables e below (s₁.setTop (mkF m 0 #[rv w_LOCAL_TIME] [])) _
    refine XS.aloadN X0.here hx rfl (hb hby own_d2_0) rfl rfl ?_
    show Steps p.tables e below (s₁.setTop (mkF m 1 #[rv w_LOCAL_TIME] [(.ref w_LOCAL_TIME)])) _
    refine st1 _ ?_
    show Steps p.tables e below (T1.setTop (mkF m 4 #[rv w_LOCAL_TIME] [(.ref w_INTEGER), (.ref w_LOCAL_TIME)])) _
    refine Jvm.RoadKit.acmp (g := (mkF m 4 #[rv w_LOCAL_TIME] [(.ref w_INTEGER), (.ref w_LOCAL_TIME)])) X1 hx rfl rfl rfl (pc0 := 4) (pc' := 7) (same := false) rfl (hb hby own_d2_4) rfl (decide_eq_false fun q => (Ne.symm (Fld.ne U_INTEGER.2.2 U_LOCAL_TIME.2.2 (by decide))) (Value.ref.inj q)) (by decide) (by decide) ?_
    show Steps p.tables e below (T1.setTop (mkF m 7 #[rv w_LOCAL_TIME] [])) _
    refine XS.aloadN X1.here hx rfl (hb hby own_d2_7) rfl rfl ?_
    show Steps p.tables e below (T1.setTop (mkF m 8 #[rv w_LOCAL_TIME] [(.ref w_LOCAL_TIME)])) _
    refine st2 _ ?_
    show Steps p.tables e below (T2.setTop (mkF m 11 #[rv w_LOCAL_TIME] [(.ref w_LONG), (.ref w_LOCAL_TIME)])) _
    refine Jvm.RoadKit.acmp (g := (mkF m 11 #[rv w_LOCAL_TIME] [(.ref w_LONG), (.ref w_LOCAL_TIME)])) X2 hx rfl rfl rfl (pc0 := 11) (pc' := 14) (same := false) rfl (hb hby own_d2_11) rfl (decide_eq_false fun q => (Ne.symm (Fld.ne U_LONG.2.2 U_LOCAL_TIME.2.2 (by decide))) (Value.ref.inj q)) (by decide) (by decide) ?_
    show Steps p.tables e below (T2.setTop (mkF m 14 #[rv w_LOCAL_TIME] [])) _
    refine XS.aloadN X2.here hx rfl (hb hby own_d2_14) rfl rfl ?_
    show Steps p.tables e below (T2.setTop (mkF m 15 #[rv w_LOCAL_TIME] [(.ref w_LOCAL_TIME)])) _
    refine st3 _ ?_
    show Steps p.tables e below (T3.setTop (mkF m 18 #[rv w_LOCAL_TIME] [(.ref w_SHORT), (.ref w_LOCAL_TIME)])) _
    refine Jvm.RoadKit.acmp (g := (mkF m 18 #[rv w_LOCAL_TIME] [(.ref w_SHORT), (.ref w_LOCAL_TIME)])) X3 hx rfl rfl rfl (pc0 := 18) (pc' := 21) (same := false) rfl (hb hby own_d2_18) rfl (decide_eq_false fun q => (Ne.symm (Fld.ne U_SHORT.2.2 U_LOCAL_TIME.2.2 (by decide))) (Value.ref.inj q)) (by decide) (by decide) ?_
    show Steps p.tables e below (T3.setTop (mkF m 21 #[rv w_LOCAL_TIME] [])) _
    refine XS.aloadN X3.here hx rfl (hb hby own_d2_21) rfl rfl ?_
    show Steps p.tables e below (T3.setTop (mkF m 22 #[rv w_LOCAL_TIME] [(.ref w_LOCAL_TIME)])) _
    refine st4 _ ?_
    show Steps p.tables e below (T4.setTop (mkF m 25 #[rv w_LOCAL_TIME] [(.ref w_BYTE), (.ref w_LOCAL_TIME)])) _
    refine Jvm.RoadKit.acmp (g := (mkF m 25 #[rv w_LOCAL_TIME] [(.ref w_BYTE), (.ref w_LOCAL_TIME)])) X4 hx rfl rfl rfl (pc0 := 25) (pc' := 28) (same := false) rfl (hb hby own_d2_25) rfl (decide_eq_false fun q => (Ne.symm (Fld.ne U_BYTE.2.2 U_LOCAL_TIME.2.2 (by decide))) (Value.ref.inj q)) (by decide) (by decide) ?_
    show Steps p.tables e below (T4.setTop (mkF m 28 #[rv w_LOCAL_TIME] [])) _
    refine XS.aloadN X4.here hx rfl (hb hby own_d2_28) rfl rfl ?_
    show Steps p.tables e below (T4.setTop (mkF m 29 #[rv w_LOCAL_TIME] [(.ref w_LOCAL_TIME)])) _
    refine st5 _ ?_
    show Steps p.tables e below (T5.setTop (mkF m 32 #[rv w_LOCAL_TIME] [(.ref w_BIG_INTEGER), (.ref w_LOCAL_TIME)])) _
    refine Jvm.RoadKit.acmp (g := (mkF m 32 #[rv w_LOCAL_TIME] [(.ref w_BIG_INTEGER), (.ref w_LOCAL_TIME)])) X5 hx rfl rfl rfl (pc0 := 32) (pc' := 39) (same := false) rfl (hb hby own_d2_32) rfl (decide_eq_false fun q => (Ne.symm (Fld.ne U_BIG_INTEGER.2.2 U_LOCAL_TIME.2.2 (by decide))) (Value.ref.inj q)) (by decide) (by decide) ?_
    show Steps p.tables e below (T5.setTop (mkF m 39 #[rv w_LOCAL_TIME] [])) _
    refine XS.iconst X5.here hx rfl (hb hby own_d2_39) ?_
    show Steps p.tables e below (T5.setTop (mkF m 40 #[rv w_LOCAL_TIME] [(.int 0)])) _
    exact retN X5 hx (t := .boolean) Bd.returns (by simp) (hb hby own_d2_40) hr
  · show own_m_LOCAL_TIME_Q Z w_STRING w_INTEGER w_LONG w_SHORT w_BYTE w_DOUBLE w_FLOAT w_BIG_DECIMAL w_BIG_INTEGER w_BOOLEAN w_LOCAL_DATE w_LOCAL_TIME w_LOCAL_DATE_TIME h0 n0 _ T5.heap _
    rw [e5]
    exact ⟨rfl, N0, rfl⟩
theorem own_m_LOCAL_DATE_TIME_ef (m : MethodId) (w_LOCAL_DATE_TIME : Addr) : entryFrame m #[(.ref w_LOCAL_DATE_TIME)] 1 = mkF m 0 #[rv w_LOCAL_DATE_TIME] [] := by first | (simp [entryFrame, mkF, argsToLocals, Value.category]; done) | rfl
def own_m_LOCAL_DATE_TIME_Q (Z : State) (w_STRING : Addr) (w_INTEGER : Addr) (w_LONG : Addr) (w_SHORT : Addr) (w_BYTE : Addr) (w_DOUBLE : Addr) (w_FLOAT : Addr) (w_BIG_DECIMAL : Addr) (w_BIG_INTEGER : Addr) (w_BOOLEAN : Addr) (w_LOCAL_DATE : Addr) (w_LOCAL_TIME : Addr) (w_LOCAL_DATE_TIME : Addr) (h0 : Heap) (n0 : Nat) (v : Option Value) (h : Heap) (L : List Loc) : Prop := v = some (.int 0) ∧ Fr n0 L ∧ h = h0
set_option maxRecDepth 65536 in
set_option maxHeartbeats 40000000 in
theorem own_m_LOCAL_DATE_TIME (l : Launch) (Z : State) (a0 : Array Value) (hw : ∀ d ∈ tables_1, d.before a0 Z = true) (ws : List Jvm.Cond) (w_STRING : Addr) (w_INTEGER : Addr) (w_LONG : Addr) (w_SHORT : Addr) (w_BYTE : Addr) (w_DOUBLE : Addr) (w_FLOAT : Addr) (w_BIG_DECIMAL : Addr) (w_BIG_INTEGER : Addr) (w_BOOLEAN : Addr) (w_LOCAL_DATE : Addr) (w_LOCAL_TIME : Addr) (w_LOCAL_DATE_TIME : Addr) (h0 : Heap) (n0 : Nat) (O0 : Old Z n0 h0) (U_STRING : own_En Z Z.heap "com/example/traversal/traversal/model/BasicType" "STRING" "Lcom/example/traversal/traversal/model/BasicType;" w_STRING (0 : Int32)) (U_INTEGER : own_En Z Z.heap "com/example/traversal/traversal/model/BasicType" "INTEGER" "Lcom/example/traversal/traversal/model/BasicType;" w_INTEGER (1 : Int32)) (U_LONG : own_En Z Z.heap "com/example/traversal/traversal/model/BasicType" "LONG" "Lcom/example/traversal/traversal/model/BasicType;" w_LONG (2 : Int32)) (U_SHORT : own_En Z Z.heap "com/example/traversal/traversal/model/BasicType" "SHORT" "Lcom/example/traversal/traversal/model/BasicType;" w_SHORT (3 : Int32)) (U_BYTE : own_En Z Z.heap "com/example/traversal/traversal/model/BasicType" "BYTE" "Lcom/example/traversal/traversal/model/BasicType;" w_BYTE (4 : Int32)) (U_DOUBLE : own_En Z Z.heap "com/example/traversal/traversal/model/BasicType" "DOUBLE" "Lcom/example/traversal/traversal/model/BasicType;" w_DOUBLE (5 : Int32)) (U_FLOAT : own_En Z Z.heap "com/example/traversal/traversal/model/BasicType" "FLOAT" "Lcom/example/traversal/traversal/model/BasicType;" w_FLOAT (6 : Int32)) (U_BIG_DECIMAL : own_En Z Z.heap "com/example/traversal/traversal/model/BasicType" "BIG_DECIMAL" "Lcom/example/traversal/traversal/model/BasicType;" w_BIG_DECIMAL (7 : Int32)) (U_BIG_INTEGER : own_En Z Z.heap "com/example/traversal/traversal/model/BasicType" "BIG_INTEGER" "Lcom/example/traversal/traversal/model/BasicType;" w_BIG_INTEGER (8 : Int32)) (U_BOOLEAN : own_En Z Z.heap "com/example/traversal/traversal/model/BasicType" "BOOLEAN" "Lcom/example/traversal/traversal/model/BasicType;" w_BOOLEAN (9 : Int32)) (U_LOCAL_DATE : own_En Z Z.heap "com/example/traversal/traversal/model/BasicType" "LOCAL_DATE" "Lcom/example/traversal/traversal/model/BasicType;" w_LOCAL_DATE (10 : Int32)) (U_LOCAL_TIME : own_En Z Z.heap "com/example/traversal/traversal/model/BasicType" "LOCAL_TIME" "Lcom/example/traversal/traversal/model/BasicType;" w_LOCAL_TIME (11 : Int32)) (U_LOCAL_DATE_TIME : own_En Z Z.heap "com/example/traversal/traversal/model/BasicType" "LOCAL_DATE_TIME" "Lcom/example/traversal/traversal/model/BasicType;" w_LOCAL_DATE_TIME (12 : Int32)) :
    MetFree l (⟨"com/example/traversal/traversal/model/BasicType", "isIntegral", "()Z"⟩ : MethodName) (head1 (Jvm.Cond.code (⟨"com/example/traversal/traversal/model/BasicType", "isIntegral", "()Z"⟩ : MethodName) prog_124_method_7_code 1 (some .boolean) :: ws) ({ frames := 0, cells := 0, slots := 0, locals := 0 } : Room)) (fun a U => a = #[(.ref w_LOCAL_DATE_TIME)] ∧ Z.Warmed39 U.vm ∧ U.heap = h0) (fun _ _ _ _ _ => True) (fun _ U o U' => ∃ v L, o = .returned v ∧ own_m_LOCAL_DATE_TIME_Q Z w_STRING w_INTEGER w_LONG w_SHORT w_BYTE w_DOUBLE w_FLOAT w_BIG_DECIMAL w_BIG_INTEGER w_BOOLEAN w_LOCAL_DATE w_LOCAL_TIME w_LOCAL_DATE_TIME h0 n0 v U'.heap L ∧ FrameEnd U o U' L ({ frames := 0, cells := 0, slots := 0, locals := 0 } : Room).cells ({ frames := 0, cells := 0, slots := 0, locals := 0 } : Room).slots) := by
  refine MetFree.of_bodySF (plainFor_of_name own_pn0) hisR ?_
  intro p e s m args below meth c s₁ Bd hml0 hP hK
  obtain ⟨rfl, hZ, hh⟩ := hP
  have hx := Bd.exec
  have hby := Bd.bytes
  have hml : c.maxLocals = 1 := hml0
  have hown : s.vm.findClass "com/example/traversal/traversal/model/BasicType" = some m.cls := findClass_of_methodNamed Bd.named
  have hnm := (name_of_methodNamed Bd.named Bd.method).1
  have X0 : Stand p l e ({ frames := 0, cells := 0, slots := 0, locals := 0 } : Room) s m #[(.ref w_LOCAL_DATE_TIME)] below meth c s₁ [] 0 0 := Stand.of_body Bd
  have e0 : s₁.heap = h0 := by rw [← hh, Bd.state]; rfl
  have N0 := Fr.nil n0
  have pre0 : ∀ t, Steps p.tables e below (s₁.setTop (mkF m 0 #[rv w_LOCAL_DATE_TIME] [])) t → Steps p.tables e below (s₁.setTop (entryFrame m #[(.ref w_LOCAL_DATE_TIME)] 1)) t := fun t k => castTop (own_m_LOCAL_DATE_TIME_ef m w_LOCAL_DATE_TIME) k
  obtain ⟨T1, X1, e1, st1⟩ := getS2 X0 hx hZ hown (host := "") (Or.inl (hw _ (List.mem_of_getElem? (i := 13) rfl))) Via.refl e0 (U_INTEGER.1.ext O0.2) (g := (mkF m 1 #[rv w_LOCAL_DATE_TIME] [(.ref w_LOCAL_DATE_TIME)])) rfl (hb hby own_d2_1)
  obtain ⟨T2, X2, e2, st2⟩ := getS2 X1 hx hZ hown (host := "") (Or.inl (hw _ (List.mem_of_getElem? (i := 15) rfl))) Via.refl e1 (U_LONG.1.ext O0.2) (g := (mkF m 8 #[rv w_LOCAL_DATE_TIME] [(.ref w_LOCAL_DATE_TIME)])) rfl (hb hby own_d2_8)
  obtain ⟨T3, X3, e3, st3⟩ := getS2 X2 hx hZ hown (host := "") (Or.inl (hw _ (List.mem_of_getElem? (i := 17) rfl))) Via.refl e2 (U_SHORT.1.ext O0.2) (g := (mkF m 15 #[rv w_LOCAL_DATE_TIME] [(.ref w_LOCAL_DATE_TIME)])) rfl (hb hby own_d2_15)
  obtain ⟨T4, X4, e4, st4⟩ := getS2 X3 hx hZ hown (host := "") (Or.inl (hw _ (List.mem_of_getElem? (i := 19) rfl))) Via.refl e3 (U_BYTE.1.ext O0.2) (g := (mkF m 22 #[rv w_LOCAL_DATE_TIME] [(.ref w_LOCAL_DATE_TIME)])) rfl (hb hby own_d2_22)
  obtain ⟨T5, X5, e5, st5⟩ := getS2 X4 hx hZ hown (host := "") (Or.inl (hw _ (List.mem_of_getElem? (i := 21) rfl))) Via.refl e4 (U_BIG_INTEGER.1.ext O0.2) (g := (mkF m 29 #[rv w_LOCAL_DATE_TIME] [(.ref w_LOCAL_DATE_TIME)])) rfl (hb hby own_d2_29)
  obtain ⟨fs, hr, hrun, hended, hW, hsame⟩ := X5.leave (v := some (.int 0)) (fun h => by rw [Bd.returns] at h; cases h)
  refine ⟨_, _, pre0 _ ?_, hrun, hended, _, _, rfl, ?_, ⟨_, rfl⟩, hW, hsame.mono (by decide) (by decide)⟩
  · show Steps p.tables e below (s₁.setTop (mkF m 0 #[rv w_LOCAL_DATE_TIME] [])) _
    refine XS.aloadN X0.here hx rfl (hb hby own_d2_0) rfl rfl ?_
    show Steps p.tables e below (s₁.setTop (mkF m 1 #[rv w_LOCAL_DATE_TIME] [(.ref w_LOCAL_DATE_TIME)])) _
    refine st1 _ ?_
    show Steps p.tables e below (T1.setTop (mkF m 4 #[rv w_LOCAL_DATE_TIME] [(.ref w_INTEGER), (.ref w_LOCAL_DATE_TIME)])) _
    refine Jvm.RoadKit.acmp (g := (mkF m 4 #[rv w_LOCAL_DATE_TIME] [(.ref w_INTEGER), (.ref w_LOCAL_DATE_TIME)])) X1 hx rfl rfl rfl (pc0 := 4) (pc' := 7) (same := false) rfl (hb hby own_d2_4) rfl (decide_eq_false fun q => (Ne.symm (Fld.ne U_INTEGER.2.2 U_LOCAL_DATE_TIME.2.2 (by decide))) (Value.ref.inj q)) (by decide) (by decide) ?_
    show Steps p.tables e below (T1.setTop (mkF m 7 #[rv w_LOCAL_DATE_TIME] [])) _
    refine XS.aloadN X1.here hx rfl (hb hby own_d2_7) rfl rfl ?_
    show Steps p.tables e below (T1.setTop (mkF m 8 #[rv w_LOCAL_DATE_TIME] [(.ref w_LOCAL_DATE_TIME)])) _
    refine st2 _ ?_
    show Steps p.tables e below (T2.setTop (mkF m 11 #[rv w_LOCAL_DATE_TIME] [(.ref w_LONG), (.ref w_LOCAL_DATE_TIME)])) _
    refine Jvm.RoadKit.acmp (g := (mkF m 11 #[rv w_LOCAL_DATE_TIME] [(.ref w_LONG), (.ref w_LOCAL_DATE_TIME)])) X2 hx rfl rfl rfl (pc0 := 11) (pc' := 14) (same := false) rfl (hb hby own_d2_11) rfl (decide_eq_false fun q => (Ne.symm (Fld.ne U_LONG.2.2 U_LOCAL_DATE_TIME.2.2 (by decide))) (Value.ref.inj q)) (by decide) (by decide) ?_
    show Steps p.tables e below (T2.setTop (mkF m 14 #[rv w_LOCAL_DATE_TIME] [])) _
    refine XS.aloadN X2.here hx rfl (hb hby own_d2_14) rfl rfl ?_
    show Steps p.tables e below (T2.setTop (mkF m 15 #[rv w_LOCAL_DATE_TIME] [(.ref w_LOCAL_DATE_TIME)])) _
    refine st3 _ ?_
    show Steps p.tables e below (T3.setTop (mkF m 18 #[rv w_LOCAL_DATE_TIME] [(.ref w_SHORT), (.ref w_LOCAL_DATE_TIME)])) _
    refine Jvm.RoadKit.acmp (g := (mkF m 18 #[rv w_LOCAL_DATE_TIME] [(.ref w_SHORT), (.ref w_LOCAL_DATE_TIME)])) X3 hx rfl rfl rfl (pc0 := 18) (pc' := 21) (same := false) rfl (hb hby own_d2_18) rfl (decide_eq_false fun q => (Ne.symm (Fld.ne U_SHORT.2.2 U_LOCAL_DATE_TIME.2.2 (by decide))) (Value.ref.inj q)) (by decide) (by decide) ?_
    show Steps p.tables e below (T3.setTop (mkF m 21 #[rv w_LOCAL_DATE_TIME] [])) _
    refine XS.aloadN X3.here hx rfl (hb hby own_d2_21) rfl rfl ?_
    show Steps p.tables e below (T3.setTop (mkF m 22 #[rv w_LOCAL_DATE_TIME] [(.ref w_LOCAL_DATE_TIME)])) _
    refine st4 _ ?_
    show Steps p.tables e below (T4.setTop (mkF m 25 #[rv w_LOCAL_DATE_TIME] [(.ref w_BYTE), (.ref w_LOCAL_DATE_TIME)])) _
    refine Jvm.RoadKit.acmp (g := (mkF m 25 #[rv w_LOCAL_DATE_TIME] [(.ref w_BYTE), (.ref w_LOCAL_DATE_TIME)])) X4 hx rfl rfl rfl (pc0 := 25) (pc' := 28) (same := false) rfl (hb hby own_d2_25) rfl (decide_eq_false fun q => (Ne.symm (Fld.ne U_BYTE.2.2 U_LOCAL_DATE_TIME.2.2 (by decide))) (Value.ref.inj q)) (by decide) (by decide) ?_
    show Steps p.tables e below (T4.setTop (mkF m 28 #[rv w_LOCAL_DATE_TIME] [])) _
    refine XS.aloadN X4.here hx rfl (hb hby own_d2_28) rfl rfl ?_
    show Steps p.tables e below (T4.setTop (mkF m 29 #[rv w_LOCAL_DATE_TIME] [(.ref w_LOCAL_DATE_TIME)])) _
    refine st5 _ ?_
    show Steps p.tables e below (T5.setTop (mkF m 32 #[rv w_LOCAL_DATE_TIME] [(.ref w_BIG_INTEGER), (.ref w_LOCAL_DATE_TIME)])) _
    refine Jvm.RoadKit.acmp (g := (mkF m 32 #[rv w_LOCAL_DATE_TIME] [(.ref w_BIG_INTEGER), (.ref w_LOCAL_DATE_TIME)])) X5 hx rfl rfl rfl (pc0 := 32) (pc' := 39) (same := false) rfl (hb hby own_d2_32) rfl (decide_eq_false fun q => (Ne.symm (Fld.ne U_BIG_INTEGER.2.2 U_LOCAL_DATE_TIME.2.2 (by decide))) (Value.ref.inj q)) (by decide) (by decide) ?_
    show Steps p.tables e below (T5.setTop (mkF m 39 #[rv w_LOCAL_DATE_TIME] [])) _
    refine XS.iconst X5.here hx rfl (hb hby own_d2_39) ?_
    show Steps p.tables e below (T5.setTop (mkF m 40 #[rv w_LOCAL_DATE_TIME] [(.int 0)])) _
    exact retN X5 hx (t := .boolean) Bd.returns (by simp) (hb hby own_d2_40) hr
  · show own_m_LOCAL_DATE_TIME_Q Z w_STRING w_INTEGER w_LONG w_SHORT w_BYTE w_DOUBLE w_FLOAT w_BIG_DECIMAL w_BIG_INTEGER w_BOOLEAN w_LOCAL_DATE w_LOCAL_TIME w_LOCAL_DATE_TIME h0 n0 _ T5.heap _
    rw [e5]
    exact ⟨rfl, N0, rfl⟩
theorem own_p_0_ef (m : MethodId)  : entryFrame m #[(.int 0)] 1 = mkF m 0 #[iv 0] [] := by first | (simp [entryFrame, mkF, argsToLocals, Value.category]; done) | rfl
def own_p_0_Q (Z : State) (w_STRING : Addr) (w_INTEGER : Addr) (w_LONG : Addr) (w_SHORT : Addr) (w_BYTE : Addr) (w_DOUBLE : Addr) (w_FLOAT : Addr) (w_BIG_DECIMAL : Addr) (w_BIG_INTEGER : Addr) (w_BOOLEAN : Addr) (w_LOCAL_DATE : Addr) (w_LOCAL_TIME : Addr) (w_LOCAL_DATE_TIME : Addr) (h0 : Heap) (n0 : Nat) (v : Option Value) (h : Heap) (L : List Loc) : Prop := v = some (.ref w_STRING) ∧ Fr n0 L ∧ h = h0
set_option maxRecDepth 65536 in
set_option maxHeartbeats 40000000 in
theorem own_p_0 (l : Launch) (Z : State) (a0 : Array Value) (hw : ∀ d ∈ tables_1, d.before a0 Z = true) (ws : List Jvm.Cond) (w_STRING : Addr) (w_INTEGER : Addr) (w_LONG : Addr) (w_SHORT : Addr) (w_BYTE : Addr) (w_DOUBLE : Addr) (w_FLOAT : Addr) (w_BIG_DECIMAL : Addr) (w_BIG_INTEGER : Addr) (w_BOOLEAN : Addr) (w_LOCAL_DATE : Addr) (w_LOCAL_TIME : Addr) (w_LOCAL_DATE_TIME : Addr) (h0 : Heap) (n0 : Nat) (O0 : Old Z n0 h0) (U_STRING : own_En Z Z.heap "com/example/traversal/traversal/model/BasicType" "STRING" "Lcom/example/traversal/traversal/model/BasicType;" w_STRING (0 : Int32)) (U_INTEGER : own_En Z Z.heap "com/example/traversal/traversal/model/BasicType" "INTEGER" "Lcom/example/traversal/traversal/model/BasicType;" w_INTEGER (1 : Int32)) (U_LONG : own_En Z Z.heap "com/example/traversal/traversal/model/BasicType" "LONG" "Lcom/example/traversal/traversal/model/BasicType;" w_LONG (2 : Int32)) (U_SHORT : own_En Z Z.heap "com/example/traversal/traversal/model/BasicType" "SHORT" "Lcom/example/traversal/traversal/model/BasicType;" w_SHORT (3 : Int32)) (U_BYTE : own_En Z Z.heap "com/example/traversal/traversal/model/BasicType" "BYTE" "Lcom/example/traversal/traversal/model/BasicType;" w_BYTE (4 : Int32)) (U_DOUBLE : own_En Z Z.heap "com/example/traversal/traversal/model/BasicType" "DOUBLE" "Lcom/example/traversal/traversal/model/BasicType;" w_DOUBLE (5 : Int32)) (U_FLOAT : own_En Z Z.heap "com/example/traversal/traversal/model/BasicType" "FLOAT" "Lcom/example/traversal/traversal/model/BasicType;" w_FLOAT (6 : Int32)) (U_BIG_DECIMAL : own_En Z Z.heap "com/example/traversal/traversal/model/BasicType" "BIG_DECIMAL" "Lcom/example/traversal/traversal/model/BasicType;" w_BIG_DECIMAL (7 : Int32)) (U_BIG_INTEGER : own_En Z Z.heap "com/example/traversal/traversal/model/BasicType" "BIG_INTEGER" "Lcom/example/traversal/traversal/model/BasicType;" w_BIG_INTEGER (8 : Int32)) (U_BOOLEAN : own_En Z Z.heap "com/example/traversal/traversal/model/BasicType" "BOOLEAN" "Lcom/example/traversal/traversal/model/BasicType;" w_BOOLEAN (9 : Int32)) (U_LOCAL_DATE : own_En Z Z.heap "com/example/traversal/traversal/model/BasicType" "LOCAL_DATE" "Lcom/example/traversal/traversal/model/BasicType;" w_LOCAL_DATE (10 : Int32)) (U_LOCAL_TIME : own_En Z Z.heap "com/example/traversal/traversal/model/BasicType" "LOCAL_TIME" "Lcom/example/traversal/traversal/model/BasicType;" w_LOCAL_TIME (11 : Int32)) (U_LOCAL_DATE_TIME : own_En Z Z.heap "com/example/traversal/traversal/model/BasicType" "LOCAL_DATE_TIME" "Lcom/example/traversal/traversal/model/BasicType;" w_LOCAL_DATE_TIME (12 : Int32)) :
    MetFree l (⟨"com/example/traversal/traversal/model/BasicTypeIsIntegralPinLaw", "pick", "(I)Lcom/example/traversal/traversal/model/BasicType;"⟩ : MethodName) (head1 (Jvm.Cond.code (⟨"com/example/traversal/traversal/model/BasicTypeIsIntegralPinLaw", "pick", "(I)Lcom/example/traversal/traversal/model/BasicType;"⟩ : MethodName) method_2_code 1 (some (.object "com/example/traversal/traversal/model/BasicType")) :: ws) ({ frames := 0, cells := 0, slots := 0, locals := 0 } : Room)) (fun a U => a = #[(.int 0)] ∧ Z.Warmed39 U.vm ∧ U.heap = h0) (fun _ _ _ _ _ => True) (fun _ U o U' => ∃ v L, o = .returned v ∧ own_p_0_Q Z w_STRING w_INTEGER w_LONG w_SHORT w_BYTE w_DOUBLE w_FLOAT w_BIG_DECIMAL w_BIG_INTEGER w_BOOLEAN w_LOCAL_DATE w_LOCAL_TIME w_LOCAL_DATE_TIME h0 n0 v U'.heap L ∧ FrameEnd U o U' L ({ frames := 0, cells := 0, slots := 0, locals := 0 } : Room).cells ({ frames := 0, cells := 0, slots := 0, locals := 0 } : Room).slots) := by
  refine MetFree.of_bodySF (plainFor_of_name own_pn1) hisR ?_
  intro p e s m args below meth c s₁ Bd hml0 hP hK
  obtain ⟨rfl, hZ, hh⟩ := hP
  have hx := Bd.exec
  have hby := Bd.bytes
  have hml : c.maxLocals = 1 := hml0
  have hown : s.vm.findClass "com/example/traversal/traversal/model/BasicTypeIsIntegralPinLaw" = some m.cls := findClass_of_methodNamed Bd.named
  have hnm := (name_of_methodNamed Bd.named Bd.method).1
  have X0 : Stand p l e ({ frames := 0, cells := 0, slots := 0, locals := 0 } : Room) s m #[(.int 0)] below meth c s₁ [] 0 0 := Stand.of_body Bd
  have e0 : s₁.heap = h0 := by rw [← hh, Bd.state]; rfl
  have N0 := Fr.nil n0
  have pre0 : ∀ t, Steps p.tables e below (s₁.setTop (mkF m 0 #[iv 0] [])) t → Steps p.tables e below (s₁.setTop (entryFrame m #[(.int 0)] 1)) t := fun t k => castTop (own_p_0_ef m ) k
  obtain ⟨T1, X1, e1, st1⟩ := getS2 X0 hx hZ hown (host := "") (Or.inl (hw _ (List.mem_of_getElem? (i := 5) rfl))) Via.refl e0 (U_STRING.1.ext O0.2) (g := (mkF m 4 #[iv 0] [])) rfl (hb hby own_d1_4)
  obtain ⟨fs, hr, hrun, hended, hW, hsame⟩ := X1.leave (v := some (.ref w_STRING)) (fun h => by rw [Bd.returns] at h; cases h)
  refine ⟨_, _, pre0 _ ?_, hrun, hended, _, _, rfl, ?_, ⟨_, rfl⟩, hW, hsame.mono (by decide) (by decide)⟩
  · show Steps p.tables e below (s₁.setTop (mkF m 0 #[iv 0] [])) _
    refine XS.iloadN X0.here hx rfl (hb hby own_d1_0) rfl ?_
    show Steps p.tables e below (s₁.setTop (mkF m 1 #[iv 0] [(.int 0)])) _
    refine XS.ifNo X0.here hx rfl (hb hby own_d1_1) rfl ((if0 _ _).trans (teq (by decide)).2) ?_
    show Steps p.tables e below (s₁.setTop (mkF m 4 #[iv 0] [])) _
    refine st1 _ ?_
    show Steps p.tables e below (T1.setTop (mkF m 7 #[iv 0] [(.ref w_STRING)])) _
    jvm_step X1.here [X1.here.top, hx, (hb hby own_d1_7), X1.method', Bd.returns, Value.isRef, FieldType.isReference]
    first | (intro acts; rw [hr _ acts rfl rfl rfl]) | rw [hr _ _ rfl rfl rfl]
    exact Steps.refl _
  · show own_p_0_Q Z w_STRING w_INTEGER w_LONG w_SHORT w_BYTE w_DOUBLE w_FLOAT w_BIG_DECIMAL w_BIG_INTEGER w_BOOLEAN w_LOCAL_DATE w_LOCAL_TIME w_LOCAL_DATE_TIME h0 n0 _ T1.heap _
    rw [e1]
    exact ⟨rfl, N0, rfl⟩
theorem own_p_1_ef (m : MethodId)  : entryFrame m #[(.int 1)] 1 = mkF m 0 #[iv 1] [] := by first | (simp [entryFrame, mkF, argsToLocals, Value.category]; done) | rfl
def own_p_1_Q (Z : State) (w_STRING : Addr) (w_INTEGER : Addr) (w_LONG : Addr) (w_SHORT : Addr) (w_BYTE : Addr) (w_DOUBLE : Addr) (w_FLOAT : Addr) (w_BIG_DECIMAL : Addr) (w_BIG_INTEGER : Addr) (w_BOOLEAN : Addr) (w_LOCAL_DATE : Addr) (w_LOCAL_TIME : Addr) (w_LOCAL_DATE_TIME : Addr) (h0 : Heap) (n0 : Nat) (v : Option Value) (h : Heap) (L : List Loc) : Prop := v = some (.ref w_INTEGER) ∧ Fr n0 L ∧ h = h0
set_option maxRecDepth 65536 in
set_option maxHeartbeats 40000000 in
theorem own_p_1 (l : Launch) (Z : State) (a0 : Array Value) (hw : ∀ d ∈ tables_1, d.before a0 Z = true) (ws : List Jvm.Cond) (w_STRING : Addr) (w_INTEGER : Addr) (w_LONG : Addr) (w_SHORT : Addr) (w_BYTE : Addr) (w_DOUBLE : Addr) (w_FLOAT : Addr) (w_BIG_DECIMAL : Addr) (w_BIG_INTEGER : Addr) (w_BOOLEAN : Addr) (w_LOCAL_DATE : Addr) (w_LOCAL_TIME : Addr) (w_LOCAL_DATE_TIME : Addr) (h0 : Heap) (n0 : Nat) (O0 : Old Z n0 h0) (U_STRING : own_En Z Z.heap "com/example/traversal/traversal/model/BasicType" "STRING" "Lcom/example/traversal/traversal/model/BasicType;" w_STRING (0 : Int32)) (U_INTEGER : own_En Z Z.heap "com/example/traversal/traversal/model/BasicType" "INTEGER" "Lcom/example/traversal/traversal/model/BasicType;" w_INTEGER (1 : Int32)) (U_LONG : own_En Z Z.heap "com/example/traversal/traversal/model/BasicType" "LONG" "Lcom/example/traversal/traversal/model/BasicType;" w_LONG (2 : Int32)) (U_SHORT : own_En Z Z.heap "com/example/traversal/traversal/model/BasicType" "SHORT" "Lcom/example/traversal/traversal/model/BasicType;" w_SHORT (3 : Int32)) (U_BYTE : own_En Z Z.heap "com/example/traversal/traversal/model/BasicType" "BYTE" "Lcom/example/traversal/traversal/model/BasicType;" w_BYTE (4 : Int32)) (U_DOUBLE : own_En Z Z.heap "com/example/traversal/traversal/model/BasicType" "DOUBLE" "Lcom/example/traversal/traversal/model/BasicType;" w_DOUBLE (5 : Int32)) (U_FLOAT : own_En Z Z.heap "com/example/traversal/traversal/model/BasicType" "FLOAT" "Lcom/example/traversal/traversal/model/BasicType;" w_FLOAT (6 : Int32)) (U_BIG_DECIMAL : own_En Z Z.heap "com/example/traversal/traversal/model/BasicType" "BIG_DECIMAL" "Lcom/example/traversal/traversal/model/BasicType;" w_BIG_DECIMAL (7 : Int32)) (U_BIG_INTEGER : own_En Z Z.heap "com/example/traversal/traversal/model/BasicType" "BIG_INTEGER" "Lcom/example/traversal/traversal/model/BasicType;" w_BIG_INTEGER (8 : Int32)) (U_BOOLEAN : own_En Z Z.heap "com/example/traversal/traversal/model/BasicType" "BOOLEAN" "Lcom/example/traversal/traversal/model/BasicType;" w_BOOLEAN (9 : Int32)) (U_LOCAL_DATE : own_En Z Z.heap "com/example/traversal/traversal/model/BasicType" "LOCAL_DATE" "Lcom/example/traversal/traversal/model/BasicType;" w_LOCAL_DATE (10 : Int32)) (U_LOCAL_TIME : own_En Z Z.heap "com/example/traversal/traversal/model/BasicType" "LOCAL_TIME" "Lcom/example/traversal/traversal/model/BasicType;" w_LOCAL_TIME (11 : Int32)) (U_LOCAL_DATE_TIME : own_En Z Z.heap "com/example/traversal/traversal/model/BasicType" "LOCAL_DATE_TIME" "Lcom/example/traversal/traversal/model/BasicType;" w_LOCAL_DATE_TIME (12 : Int32)) :
    MetFree l (⟨"com/example/traversal/traversal/model/BasicTypeIsIntegralPinLaw", "pick", "(I)Lcom/example/traversal/traversal/model/BasicType;"⟩ : MethodName) (head1 (Jvm.Cond.code (⟨"com/example/traversal/traversal/model/BasicTypeIsIntegralPinLaw", "pick", "(I)Lcom/example/traversal/traversal/model/BasicType;"⟩ : MethodName) method_2_code 1 (some (.object "com/example/traversal/traversal/model/BasicType")) :: ws) ({ frames := 0, cells := 0, slots := 0, locals := 0 } : Room)) (fun a U => a = #[(.int 1)] ∧ Z.Warmed39 U.vm ∧ U.heap = h0) (fun _ _ _ _ _ => True) (fun _ U o U' => ∃ v L, o = .returned v ∧ own_p_1_Q Z w_STRING w_INTEGER w_LONG w_SHORT w_BYTE w_DOUBLE w_FLOAT w_BIG_DECIMAL w_BIG_INTEGER w_BOOLEAN w_LOCAL_DATE w_LOCAL_TIME w_LOCAL_DATE_TIME h0 n0 v U'.heap L ∧ FrameEnd U o U' L ({ frames := 0, cells := 0, slots := 0, locals := 0 } : Room).cells ({ frames := 0, cells := 0, slots := 0, locals := 0 } : Room).slots) := by
  refine MetFree.of_bodySF (plainFor_of_name own_pn1) hisR ?_
  intro p e s m args below meth c s₁ Bd hml0 hP hK
  obtain ⟨rfl, hZ, hh⟩ := hP
  have hx := Bd.exec
  have hby := Bd.bytes
  have hml : c.maxLocals = 1 := hml0
  have hown : s.vm.findClass "com/example/traversal/traversal/model/BasicTypeIsIntegralPinLaw" = some m.cls := findClass_of_methodNamed Bd.named
  have hnm := (name_of_methodNamed Bd.named Bd.method).1
  have X0 : Stand p l e ({ frames := 0, cells := 0, slots := 0, locals := 0 } : Room) s m #[(.int 1)] below meth c s₁ [] 0 0 := Stand.of_body Bd
  have e0 : s₁.heap = h0 := by rw [← hh, Bd.state]; rfl
  have N0 := Fr.nil n0
  have pre0 : ∀ t, Steps p.tables e below (s₁.setTop (mkF m 0 #[iv 1] [])) t → Steps p.tables e below (s₁.setTop (entryFrame m #[(.int 1)] 1)) t := fun t k => castTop (own_p_1_ef m ) k
  obtain ⟨T1, X1, e1, st1⟩ := getS2 X0 hx hZ hown (host := "") (Or.inl (hw _ (List.mem_of_getElem? (i := 35) rfl))) Via.refl e0 (U_INTEGER.1.ext O0.2) (g := (mkF m 13 #[iv 1] [])) rfl (hb hby own_d1_13)
  obtain ⟨fs, hr, hrun, hended, hW, hsame⟩ := X1.leave (v := some (.ref w_INTEGER)) (fun h => by rw [Bd.returns] at h; cases h)
  refine ⟨_, _, pre0 _ ?_, hrun, hended, _, _, rfl, ?_, ⟨_, rfl⟩, hW, hsame.mono (by decide) (by decide)⟩
  · show Steps p.tables e below (s₁.setTop (mkF m 0 #[iv 1] [])) _
    refine XS.iloadN X0.here hx rfl (hb hby own_d1_0) rfl ?_
    show Steps p.tables e below (s₁.setTop (mkF m 1 #[iv 1] [(.int 1)])) _
    refine XS.ifYes X0.here hx rfl (pc0 := 1) (pc' := 8) rfl (hb hby own_d1_1) rfl ((if0 _ _).trans (feq (by decide)).2) (by decide) (by decide) ?_
    show Steps p.tables e below (s₁.setTop (mkF m 8 #[iv 1] [])) _
    refine XS.iloadN X0.here hx rfl (hb hby own_d1_8) rfl ?_
    show Steps p.tables e below (s₁.setTop (mkF m 9 #[iv 1] [(.int 1)])) _
    refine XS.iconst X0.here hx rfl (hb hby own_d1_9) ?_
    show Steps p.tables e below (s₁.setTop (mkF m 10 #[iv 1] [(.int 1), (.int 1)])) _
    refine XS.icmpNo X0.here hx rfl (hb hby own_d1_10) rfl (teq (by decide)).2 ?_
    show Steps p.tables e below (s₁.setTop (mkF m 13 #[iv 1] [])) _
    refine st1 _ ?_
    show Steps p.tables e below (T1.setTop (mkF m 16 #[iv 1] [(.ref w_INTEGER)])) _
    jvm_step X1.here [X1.here.top, hx, (hb hby own_d1_16), X1.method', Bd.returns, Value.isRef, FieldType.isReference]
    first | (intro acts; rw [hr _ acts rfl rfl rfl]) | rw [hr _ _ rfl rfl rfl]
    exact Steps.refl _
  · show own_p_1_Q Z w_STRING w_INTEGER w_LONG w_SHORT w_BYTE w_DOUBLE w_FLOAT w_BIG_DECIMAL w_BIG_INTEGER w_BOOLEAN w_LOCAL_DATE w_LOCAL_TIME w_LOCAL_DATE_TIME h0 n0 _ T1.heap _
    rw [e1]
    exact ⟨rfl, N0, rfl⟩
theorem own_p_2_ef (m : MethodId)  : entryFrame m #[(.int 2)] 1 = mkF m 0 #[iv 2] [] := by first | (simp [entryFrame, mkF, argsToLocals, Value.category]; done) | rfl
def own_p_2_Q (Z : State) (w_STRING : Addr) (w_INTEGER : Addr) (w_LONG : Addr) (w_SHORT : Addr) (w_BYTE : Addr) (w_DOUBLE : Addr) (w_FLOAT : Addr) (w_BIG_DECIMAL : Addr) (w_BIG_INTEGER : Addr) (w_BOOLEAN : Addr) (w_LOCAL_DATE : Addr) (w_LOCAL_TIME : Addr) (w_LOCAL_DATE_TIME : Addr) (h0 : Heap) (n0 : Nat) (v : Option Value) (h : Heap) (L : List Loc) : Prop := v = some (.ref w_LONG) ∧ Fr n0 L ∧ h = h0
set_option maxRecDepth 65536 in
set_option maxHeartbeats 40000000 in
theorem own_p_2 (l : Launch) (Z : State) (a0 : Array Value) (hw : ∀ d ∈ tables_1, d.before a0 Z = true) (ws : List Jvm.Cond) (w_STRING : Addr) (w_INTEGER : Addr) (w_LONG : Addr) (w_SHORT : Addr) (w_BYTE : Addr) (w_DOUBLE : Addr) (w_FLOAT : Addr) (w_BIG_DECIMAL : Addr) (w_BIG_INTEGER : Addr) (w_BOOLEAN : Addr) (w_LOCAL_DATE : Addr) (w_LOCAL_TIME : Addr) (w_LOCAL_DATE_TIME : Addr) (h0 : Heap) (n0 : Nat) (O0 : Old Z n0 h0) (U_STRING : own_En Z Z.heap "com/example/traversal/traversal/model/BasicType" "STRING" "Lcom/example/traversal/traversal/model/BasicType;" w_STRING (0 : Int32)) (U_INTEGER : own_En Z Z.heap "com/example/traversal/traversal/model/BasicType" "INTEGER" "Lcom/example/traversal/traversal/model/BasicType;" w_INTEGER (1 : Int32)) (U_LONG : own_En Z Z.heap "com/example/traversal/traversal/model/BasicType" "LONG" "Lcom/example/traversal/traversal/model/BasicType;" w_LONG (2 : Int32)) (U_SHORT : own_En Z Z.heap "com/example/traversal/traversal/model/BasicType" "SHORT" "Lcom/example/traversal/traversal/model/BasicType;" w_SHORT (3 : Int32)) (U_BYTE : own_En Z Z.heap "com/example/traversal/traversal/model/BasicType" "BYTE" "Lcom/example/traversal/traversal/model/BasicType;" w_BYTE (4 : Int32)) (U_DOUBLE : own_En Z Z.heap "com/example/traversal/traversal/model/BasicType" "DOUBLE" "Lcom/example/traversal/traversal/model/BasicType;" w_DOUBLE (5 : Int32)) (U_FLOAT : own_En Z Z.heap "com/example/traversal/traversal/model/BasicType" "FLOAT" "Lcom/example/traversal/traversal/model/BasicType;" w_FLOAT (6 : Int32)) (U_BIG_DECIMAL : own_En Z Z.heap "com/example/traversal/traversal/model/BasicType" "BIG_DECIMAL" "Lcom/example/traversal/traversal/model/BasicType;" w_BIG_DECIMAL (7 : Int32)) (U_BIG_INTEGER : own_En Z Z.heap "com/example/traversal/traversal/model/BasicType" "BIG_INTEGER" "Lcom/example/traversal/traversal/model/BasicType;" w_BIG_INTEGER (8 : Int32)) (U_BOOLEAN : own_En Z Z.heap "com/example/traversal/traversal/model/BasicType" "BOOLEAN" "Lcom/example/traversal/traversal/model/BasicType;" w_BOOLEAN (9 : Int32)) (U_LOCAL_DATE : own_En Z Z.heap "com/example/traversal/traversal/model/BasicType" "LOCAL_DATE" "Lcom/example/traversal/traversal/model/BasicType;" w_LOCAL_DATE (10 : Int32)) (U_LOCAL_TIME : own_En Z Z.heap "com/example/traversal/traversal/model/BasicType" "LOCAL_TIME" "Lcom/example/traversal/traversal/model/BasicType;" w_LOCAL_TIME (11 : Int32)) (U_LOCAL_DATE_TIME : own_En Z Z.heap "com/example/traversal/traversal/model/BasicType" "LOCAL_DATE_TIME" "Lcom/example/traversal/traversal/model/BasicType;" w_LOCAL_DATE_TIME (12 : Int32)) :
    MetFree l (⟨"com/example/traversal/traversal/model/BasicTypeIsIntegralPinLaw", "pick", "(I)Lcom/example/traversal/traversal/model/BasicType;"⟩ : MethodName) (head1 (Jvm.Cond.code (⟨"com/example/traversal/traversal/model/BasicTypeIsIntegralPinLaw", "pick", "(I)Lcom/example/traversal/traversal/model/BasicType;"⟩ : MethodName) method_2_code 1 (some (.object "com/example/traversal/traversal/model/BasicType")) :: ws) ({ frames := 0, cells := 0, slots := 0, locals := 0 } : Room)) (fun a U => a = #[(.int 2)] ∧ Z.Warmed39 U.vm ∧ U.heap = h0) (fun _ _ _ _ _ => True) (fun _ U o U' => ∃ v L, o = .returned v ∧ own_p_2_Q Z w_STRING w_INTEGER w_LONG w_SHORT w_BYTE w_DOUBLE w_FLOAT w_BIG_DECIMAL w_BIG_INTEGER w_BOOLEAN w_LOCAL_DATE w_LOCAL_TIME w_LOCAL_DATE_TIME h0 n0 v U'.heap L ∧ FrameEnd U o U' L ({ frames := 0, cells := 0, slots := 0, locals := 0 } : Room).cells ({ frames := 0, cells := 0, slots := 0, locals := 0 } : Room).slots) := by
  refine MetFree.of_bodySF (plainFor_of_name own_pn1) hisR ?_
  intro p e s m args below meth c s₁ Bd hml0 hP hK
  obtain ⟨rfl, hZ, hh⟩ := hP
  have hx := Bd.exec
  have hby := Bd.bytes
  have hml : c.maxLocals = 1 := hml0
  have hown : s.vm.findClass "com/example/traversal/traversal/model/BasicTypeIsIntegralPinLaw" = some m.cls := findClass_of_methodNamed Bd.named
  have hnm := (name_of_methodNamed Bd.named Bd.method).1
  have X0 : Stand p l e ({ frames := 0, cells := 0, slots := 0, locals := 0 } : Room) s m #[(.int 2)] below meth c s₁ [] 0 0 := Stand.of_body Bd
  have e0 : s₁.heap = h0 := by rw [← hh, Bd.state]; rfl
  have N0 := Fr.nil n0
  have pre0 : ∀ t, Steps p.tables e below (s₁.setTop (mkF m 0 #[iv 2] [])) t → Steps p.tables e below (s₁.setTop (entryFrame m #[(.int 2)] 1)) t := fun t k => castTop (own_p_2_ef m ) k
  obtain ⟨T1, X1, e1, st1⟩ := getS2 X0 hx hZ hown (host := "") (Or.inl (hw _ (List.mem_of_getElem? (i := 32) rfl))) Via.refl e0 (U_LONG.1.ext O0.2) (g := (mkF m 22 #[iv 2] [])) rfl (hb hby own_d1_22)
  obtain ⟨fs, hr, hrun, hended, hW, hsame⟩ := X1.leave (v := some (.ref w_LONG)) (fun h => by rw [Bd.returns] at h; cases h)
  refine ⟨_, _, pre0 _ ?_, hrun, hended, _, _, rfl, ?_, ⟨_, rfl⟩, hW, hsame.mono (by decide) (by decide)⟩
  · show Steps p.tables e below (s₁.setTop (mkF m 0 #[iv 2] [])) _
    refine XS.iloadN X0.here hx rfl (hb hby own_d1_0) rfl ?_
    show Steps p.tables e below (s₁.setTop (mkF m 1 #[iv 2] [(.int 2)])) _
    refine XS.ifYes X0.here hx rfl (pc0 := 1) (pc' := 8) rfl (hb hby own_d1_1) rfl ((if0 _ _).trans (feq (by decide)).2) (by decide) (by decide) ?_
    show Steps p.tables e below (s₁.setTop (mkF m 8 #[iv 2] [])) _
    refine XS.iloadN X0.here hx rfl (hb hby own_d1_8) rfl ?_
    show Steps p.tables e below (s₁.setTop (mkF m 9 #[iv 2] [(.int 2)])) _
    refine XS.iconst X0.here hx rfl (hb hby own_d1_9) ?_
    show Steps p.tables e below (s₁.setTop (mkF m 10 #[iv 2] [(.int 1), (.int 2)])) _
    refine XS.icmpYes X0.here hx rfl (pc0 := 10) (pc' := 17) rfl (hb hby own_d1_10) rfl (feq (by decide)).2 (by decide) (by decide) ?_
    show Steps p.tables e below (s₁.setTop (mkF m 17 #[iv 2] [])) _
    refine XS.iloadN X0.here hx rfl (hb hby own_d1_17) rfl ?_
    show Steps p.tables e below (s₁.setTop (mkF m 18 #[iv 2] [(.int 2)])) _
    refine XS.iconst X0.here hx rfl (hb hby own_d1_18) ?_
    show Steps p.tables e below (s₁.setTop (mkF m 19 #[iv 2] [(.int 2), (.int 2)])) _
    refine XS.icmpNo X0.here hx rfl (hb hby own_d1_19) rfl (teq (by decide)).2 ?_
    show Steps p.tables e below (s₁.setTop (mkF m 22 #[iv 2] [])) _
    refine st1 _ ?_
    show Steps p.tables e below (T1.setTop (mkF m 25 #[iv 2] [(.ref w_LONG)])) _
    jvm_step X1.here [X1.here.top, hx, (hb hby own_d1_25), X1.method', Bd.returns, Value.isRef, FieldType.isReference]
    first | (intro acts; rw [hr _ acts rfl rfl rfl]) | rw [hr _ _ rfl rfl rfl]
    exact Steps.refl _
  · show own_p_2_Q Z w_STRING w_INTEGER w_LONG w_SHORT w_BYTE w_DOUBLE w_FLOAT w_BIG_DECIMAL w_BIG_INTEGER w_BOOLEAN w_LOCAL_DATE w_LOCAL_TIME w_LOCAL_DATE_TIME h0 n0 _ T1.heap _
    rw [e1]
    exact ⟨rfl, N0, rfl⟩
theorem own_p_3_ef (m : MethodId)  : entryFrame m #[(.int 3)] 1 = mkF m 0 #[iv 3] [] := by first | (simp [entryFrame, mkF, argsToLocals, Value.category]; done) | rfl
def own_p_3_Q (Z : State) (w_STRING : Addr) (w_INTEGER : Addr) (w_LONG : Addr) (w_SHORT : Addr) (w_BYTE : Addr) (w_DOUBLE : Addr) (w_FLOAT : Addr) (w_BIG_DECIMAL : Addr) (w_BIG_INTEGER : Addr) (w_BOOLEAN : Addr) (w_LOCAL_DATE : Addr) (w_LOCAL_TIME : Addr) (w_LOCAL_DATE_TIME : Addr) (h0 : Heap) (n0 : Nat) (v : Option Value) (h : Heap) (L : List Loc) : Prop := v = some (.ref w_SHORT) ∧ Fr n0 L ∧ h = h0
set_option maxRecDepth 65536 in
set_option maxHeartbeats 40000000 in
theorem own_p_3 (l : Launch) (Z : State) (a0 : Array Value) (hw : ∀ d ∈ tables_1, d.before a0 Z = true) (ws : List Jvm.Cond) (w_STRING : Addr) (w_INTEGER : Addr) (w_LONG : Addr) (w_SHORT : Addr) (w_BYTE : Addr) (w_DOUBLE : Addr) (w_FLOAT : Addr) (w_BIG_DECIMAL : Addr) (w_BIG_INTEGER : Addr) (w_BOOLEAN : Addr) (w_LOCAL_DATE : Addr) (w_LOCAL_TIME : Addr) (w_LOCAL_DATE_TIME : Addr) (h0 : Heap) (n0 : Nat) (O0 : Old Z n0 h0) (U_STRING : own_En Z Z.heap "com/example/traversal/traversal/model/BasicType" "STRING" "Lcom/example/traversal/traversal/model/BasicType;" w_STRING (0 : Int32)) (U_INTEGER : own_En Z Z.heap "com/example/traversal/traversal/model/BasicType" "INTEGER" "Lcom/example/traversal/traversal/model/BasicType;" w_INTEGER (1 : Int32)) (U_LONG : own_En Z Z.heap "com/example/traversal/traversal/model/BasicType" "LONG" "Lcom/example/traversal/traversal/model/BasicType;" w_LONG (2 : Int32)) (U_SHORT : own_En Z Z.heap "com/example/traversal/traversal/model/BasicType" "SHORT" "Lcom/example/traversal/traversal/model/BasicType;" w_SHORT (3 : Int32)) (U_BYTE : own_En Z Z.heap "com/example/traversal/traversal/model/BasicType" "BYTE" "Lcom/example/traversal/traversal/model/BasicType;" w_BYTE (4 : Int32)) (U_DOUBLE : own_En Z Z.heap "com/example/traversal/traversal/model/BasicType" "DOUBLE" "Lcom/example/traversal/traversal/model/BasicType;" w_DOUBLE (5 : Int32)) (U_FLOAT : own_En Z Z.heap "com/example/traversal/traversal/model/BasicType" "FLOAT" "Lcom/example/traversal/traversal/model/BasicType;" w_FLOAT (6 : Int32)) (U_BIG_DECIMAL : own_En Z Z.heap "com/example/traversal/traversal/model/BasicType" "BIG_DECIMAL" "Lcom/example/traversal/traversal/model/BasicType;" w_BIG_DECIMAL (7 : Int32)) (U_BIG_INTEGER : own_En Z Z.heap "com/example/traversal/traversal/model/BasicType" "BIG_INTEGER" "Lcom/example/traversal/traversal/model/BasicType;" w_BIG_INTEGER (8 : Int32)) (U_BOOLEAN : own_En Z Z.heap "com/example/traversal/traversal/model/BasicType" "BOOLEAN" "Lcom/example/traversal/traversal/model/BasicType;" w_BOOLEAN (9 : Int32)) (U_LOCAL_DATE : own_En Z Z.heap "com/example/traversal/traversal/model/BasicType" "LOCAL_DATE" "Lcom/example/traversal/traversal/model/BasicType;" w_LOCAL_DATE (10 : Int32)) (U_LOCAL_TIME : own_En Z Z.heap "com/example/traversal/traversal/model/BasicType" "LOCAL_TIME" "Lcom/example/traversal/traversal/model/BasicType;" w_LOCAL_TIME (11 : Int32)) (U_LOCAL_DATE_TIME : own_En Z Z.heap "com/example/traversal/traversal/model/BasicType" "LOCAL_DATE_TIME" "Lcom/example/traversal/traversal/model/BasicType;" w_LOCAL_DATE_TIME (12 : Int32)) :
    MetFree l (⟨"com/example/traversal/traversal/model/BasicTypeIsIntegralPinLaw", "pick", "(I)Lcom/example/traversal/traversal/model/BasicType;"⟩ : MethodName) (head1 (Jvm.Cond.code (⟨"com/example/traversal/traversal/model/BasicTypeIsIntegralPinLaw", "pick", "(I)Lcom/example/traversal/traversal/model/BasicType;"⟩ : MethodName) method_2_code 1 (some (.object "com/example/traversal/traversal/model/BasicType")) :: ws) ({ frames := 0, cells := 0, slots := 0, locals := 0 } : Room)) (fun a U => a = #[(.int 3)] ∧ Z.Warmed39 U.vm ∧ U.heap = h0) (fun _ _ _ _ _ => True) (fun _ U o U' => ∃ v L, o = .returned v ∧ own_p_3_Q Z w_STRING w_INTEGER w_LONG w_SHORT w_BYTE w_DOUBLE w_FLOAT w_BIG_DECIMAL w_BIG_INTEGER w_BOOLEAN w_LOCAL_DATE w_LOCAL_TIME w_LOCAL_DATE_TIME h0 n0 v U'.heap L ∧ FrameEnd U o U' L ({ frames := 0, cells := 0, slots := 0, locals := 0 } : Room).cells ({ frames := 0, cells := 0, slots := 0, locals := 0 } : Room).slots) := by
  refine MetFree.of_bodySF (plainFor_of_name own_pn1) hisR ?_
  intro p e s m args below meth c s₁ Bd hml0 hP hK
  obtain ⟨rfl, hZ, hh⟩ := hP
  have hx := Bd.exec
  have hby := Bd.bytes
  have hml : c.maxLocals = 1 := hml0
  have hown : s.vm.findClass "com/example/traversal/traversal/model/BasicTypeIsIntegralPinLaw" = some m.cls := findClass_of_methodNamed Bd.named
  have hnm := (name_of_methodNamed Bd.named Bd.method).1
  have X0 : Stand p l e ({ frames := 0, cells := 0, slots := 0, locals := 0 } : Room) s m #[(.int 3)] below meth c s₁ [] 0 0 := Stand.of_body Bd
  have e0 : s₁.heap = h0 := by rw [← hh, Bd.state]; rfl
  have N0 := Fr.nil n0
  have pre0 : ∀ t, Steps p.tables e below (s₁.setTop (mkF m 0 #[iv 3] [])) t → Steps p.tables e below (s₁.setTop (entryFrame m #[(.int 3)] 1)) t := fun t k => castTop (own_p_3_ef m ) k
  obtain ⟨T1, X1, e1, st1⟩ := getS2 X0 hx hZ hown (host := "") (Or.inl (hw _ (List.mem_of_getElem? (i := 23) rfl))) Via.refl e0 (U_SHORT.1.ext O0.2) (g := (mkF m 31 #[iv 3] [])) rfl (hb hby own_d1_31)
  obtain ⟨fs, hr, hrun, hended, hW, hsame⟩ := X1.leave (v := some (.ref w_SHORT)) (fun h => by rw [Bd.returns] at h; cases h)
  refine ⟨_, _, pre0 _ ?_, hrun, hended, _, _, rfl, ?_, ⟨_, rfl⟩, hW, hsame.mono (by decide) (by decide)⟩
  · show Steps p.tables e below (s₁.setTop (mkF m 0 #[iv 3] [])) _
    refine XS.iloadN X0.here hx rfl (hb hby own_d1_0) rfl ?_
    show Steps p.tables e below (s₁.setTop (mkF m 1 #[iv 3] [(.int 3)])) _
    refine XS.ifYes X0.here hx rfl (pc0 := 1) (pc' := 8) rfl (hb hby own_d1_1) rfl ((if0 _ _).trans (feq (by decide)).2) (by decide) (by decide) ?_
    show Steps p.tables e below (s₁.setTop (mkF m 8 #[iv 3] [])) _
    refine XS.iloadN X0.here hx rfl (hb hby own_d1_8) rfl ?_
    show Steps p.tables e below (s₁.setTop (mkF m 9 #[iv 3] [(.int 3)])) _
    refine XS.iconst X0.here hx rfl (hb hby own_d1_9) ?_
    show Steps p.tables e below (s₁.setTop (mkF m 10 #[iv 3] [(.int 1), (.int 3)])) _
    refine XS.icmpYes X0.here hx rfl (pc0 := 10) (pc' := 17) rfl (hb hby own_d1_10) rfl (feq (by decide)).2 (by decide) (by decide) ?_
    show Steps p.tables e below (s₁.setTop (mkF m 17 #[iv 3] [])) _
    refine XS.iloadN X0.here hx rfl (hb hby own_d1_17) rfl ?_
    show Steps p.tables e below (s₁.setTop (mkF m 18 #[iv 3] [(.int 3)])) _
    refine XS.iconst X0.here hx rfl (hb hby own_d1_18) ?_
    show Steps p.tables e below (s₁.setTop (mkF m 19 #[iv 3] [(.int 2), (.int 3)])) _
    refine XS.icmpYes X0.here hx rfl (pc0 := 19) (pc' := 26) rfl (hb hby own_d1_19) rfl (feq (by decide)).2 (by decide) (by decide) ?_
    show Steps p.tables e below (s₁.setTop (mkF m 26 #[iv 3] [])) _
    refine XS.iloadN X0.here hx rfl (hb hby own_d1_26) rfl ?_
    show Steps p.tables e below (s₁.setTop (mkF m 27 #[iv 3] [(.int 3)])) _
    refine XS.iconst X0.here hx rfl (hb hby own_d1_27) ?_
    show Steps p.tables e below (s₁.setTop (mkF m 28 #[iv 3] [(.int 3), (.int 3)])) _
    refine XS.icmpNo X0.here hx rfl (hb hby own_d1_28) rfl (teq (by decide)).2 ?_
    show Steps p.tables e below (s₁.setTop (mkF m 31 #[iv 3] [])) _
    refine st1 _ ?_
    show Steps p.tables e below (T1.setTop (mkF m 34 #[iv 3] [(.ref w_SHORT)])) _
    jvm_step X1.here [X1.here.top, hx, (hb hby own_d1_34), X1.method', Bd.returns, Value.isRef, FieldType.isReference]
    first | (intro acts; rw [hr _ acts rfl rfl rfl]) | rw [hr _ _ rfl rfl rfl]
    exact Steps.refl _
  · show own_p_3_Q Z w_STRING w_INTEGER w_LONG w_SHORT w_BYTE w_DOUBLE w_FLOAT w_BIG_DECIMAL w_BIG_INTEGER w_BOOLEAN w_LOCAL_DATE w_LOCAL_TIME w_LOCAL_DATE_TIME h0 n0 _ T1.heap _
    rw [e1]
    exact ⟨rfl, N0, rfl⟩
theorem own_p_4_ef (m : MethodId)  : entryFrame m #[(.int 4)] 1 = mkF m 0 #[iv 4] [] := by first | (simp [entryFrame, mkF, argsToLocals, Value.category]; done) | rfl
def own_p_4_Q (Z : State) (w_STRING : Addr) (w_INTEGER : Addr) (w_LONG : Addr) (w_SHORT : Addr) (w_BYTE : Addr) (w_DOUBLE : Addr) (w_FLOAT : Addr) (w_BIG_DECIMAL : Addr) (w_BIG_INTEGER : Addr) (w_BOOLEAN : Addr) (w_LOCAL_DATE : Addr) (w_LOCAL_TIME : Addr) (w_LOCAL_DATE_TIME : Addr) (h0 : Heap) (n0 : Nat) (v : Option Value) (h : Heap) (L : List Loc) : Prop := v = some (.ref w_BYTE) ∧ Fr n0 L ∧ h = h0
set_option maxRecDepth 65536 in
set_option maxHeartbeats 40000000 in
theorem own_p_4 (l : Launch) (Z : State) (a0 : Array Value) (hw : ∀ d ∈ tables_1, d.before a0 Z = true) (ws : List Jvm.Cond) (w_STRING : Addr) (w_INTEGER : Addr) (w_LONG : Addr) (w_SHORT : Addr) (w_BYTE : Addr) (w_DOUBLE : Addr) (w_FLOAT : Addr) (w_BIG_DECIMAL : Addr) (w_BIG_INTEGER : Addr) (w_BOOLEAN : Addr) (w_LOCAL_DATE : Addr) (w_LOCAL_TIME : Addr) (w_LOCAL_DATE_TIME : Addr) (h0 : Heap) (n0 : Nat) (O0 : Old Z n0 h0) (U_STRING : own_En Z Z.heap "com/example/traversal/traversal/model/BasicType" "STRING" "Lcom/example/traversal/traversal/model/BasicType;" w_STRING (0 : Int32)) (U_INTEGER : own_En Z Z.heap "com/example/traversal/traversal/model/BasicType" "INTEGER" "Lcom/example/traversal/traversal/model/BasicType;" w_INTEGER (1 : Int32)) (U_LONG : own_En Z Z.heap "com/example/traversal/traversal/model/BasicType" "LONG" "Lcom/example/traversal/traversal/model/BasicType;" w_LONG (2 : Int32)) (U_SHORT : own_En Z Z.heap "com/example/traversal/traversal/model/BasicType" "SHORT" "Lcom/example/traversal/traversal/model/BasicType;" w_SHORT (3 : Int32)) (U_BYTE : own_En Z Z.heap "com/example/traversal/traversal/model/BasicType" "BYTE" "Lcom/example/traversal/traversal/model/BasicType;" w_BYTE (4 : Int32)) (U_DOUBLE : own_En Z Z.heap "com/example/traversal/traversal/model/BasicType" "DOUBLE" "Lcom/example/traversal/traversal/model/BasicType;" w_DOUBLE (5 : Int32)) (U_FLOAT : own_En Z Z.heap "com/example/traversal/traversal/model/BasicType" "FLOAT" "Lcom/example/traversal/traversal/model/BasicType;" w_FLOAT (6 : Int32)) (U_BIG_DECIMAL : own_En Z Z.heap "com/example/traversal/traversal/model/BasicType" "BIG_DECIMAL" "Lcom/example/traversal/traversal/model/BasicType;" w_BIG_DECIMAL (7 : Int32)) (U_BIG_INTEGER : own_En Z Z.heap "com/example/traversal/traversal/model/BasicType" "BIG_INTEGER" "Lcom/example/traversal/traversal/model/BasicType;" w_BIG_INTEGER (8 : Int32)) (U_BOOLEAN : own_En Z Z.heap "com/example/traversal/traversal/model/BasicType" "BOOLEAN" "Lcom/example/traversal/traversal/model/BasicType;" w_BOOLEAN (9 : Int32)) (U_LOCAL_DATE : own_En Z Z.heap "com/example/traversal/traversal/model/BasicType" "LOCAL_DATE" "Lcom/example/traversal/traversal/model/BasicType;" w_LOCAL_DATE (10 : Int32)) (U_LOCAL_TIME : own_En Z Z.heap "com/example/traversal/traversal/model/BasicType" "LOCAL_TIME" "Lcom/example/traversal/traversal/model/BasicType;" w_LOCAL_TIME (11 : Int32)) (U_LOCAL_DATE_TIME : own_En Z Z.heap "com/example/traversal/traversal/model/BasicType" "LOCAL_DATE_TIME" "Lcom/example/traversal/traversal/model/BasicType;" w_LOCAL_DATE_TIME (12 : Int32)) :
    MetFree l (⟨"com/example/traversal/traversal/model/BasicTypeIsIntegralPinLaw", "pick", "(I)Lcom/example/traversal/traversal/model/BasicType;"⟩ : MethodName) (head1 (Jvm.Cond.code (⟨"com/example/traversal/traversal/model/BasicTypeIsIntegralPinLaw", "pick", "(I)Lcom/example/traversal/traversal/model/BasicType;"⟩ : MethodName) method_2_code 1 (some (.object "com/example/traversal/traversal/model/BasicType")) :: ws) ({ frames := 0, cells := 0, slots := 0, locals := 0 } : Room)) (fun a U => a = #[(.int 4)] ∧ Z.Warmed39 U.vm ∧ U.heap = h0) (fun _ _ _ _ _ => True) (fun _ U o U' => ∃ v L, o = .returned v ∧ own_p_4_Q Z w_STRING w_INTEGER w_LONG w_SHORT w_BYTE w_DOUBLE w_FLOAT w_BIG_DECIMAL w_BIG_INTEGER w_BOOLEAN w_LOCAL_DATE w_LOCAL_TIME w_LOCAL_DATE_TIME h0 n0 v U'.heap L ∧ FrameEnd U o U' L ({ frames := 0, cells := 0, slots := 0, locals := 0 } : Room).cells ({ frames := 0, cells := 0, slots := 0, locals := 0 } : Room).slots) := by
  refine MetFree.of_bodySF (plainFor_of_name own_pn1) hisR ?_
  intro p e s m args below meth c s₁ Bd hml0 hP hK
  obtain ⟨rfl, hZ, hh⟩ := hP
  have hx := Bd.exec
  have hby := Bd.bytes
  have hml : c.maxLocals = 1 := hml0
  have hown : s.vm.findClass "com/example/traversal/traversal/model/BasicTypeIsIntegralPinLaw" = some m.cls := findClass_of_methodNamed Bd.named
  have hnm := (name_of_methodNamed Bd.named Bd.method).1
  have X0 : Stand p l e ({ frames := 0, cells := 0, slots := 0, locals := 0 } : Room) s m #[(.int 4)] below meth c s₁ [] 0 0 := Stand.of_body Bd
  have e0 : s₁.heap = h0 := by rw [← hh, Bd.state]; rfl
  have N0 := Fr.nil n0
  have pre0 : ∀ t, Steps p.tables e below (s₁.setTop (mkF m 0 #[iv 4] [])) t → Steps p.tables e below (s₁.setTop (entryFrame m #[(.int 4)] 1)) t := fun t k => castTop (own_p_4_ef m ) k
  obtain ⟨T1, X1, e1, st1⟩ := getS2 X0 hx hZ hown (host := "") (Or.inl (hw _ (List.mem_of_getElem? (i := 41) rfl))) Via.refl e0 (U_BYTE.1.ext O0.2) (g := (mkF m 40 #[iv 4] [])) rfl (hb hby own_d1_40)
  obtain ⟨fs, hr, hrun, hended, hW, hsame⟩ := X1.leave (v := some (.ref w_BYTE)) (fun h => by rw [Bd.returns] at h; cases h)
  refine ⟨_, _, pre0 _ ?_, hrun, hended, _, _, rfl, ?_, ⟨_, rfl⟩, hW, hsame.mono (by decide) (by decide)⟩
  · show Steps p.tables e below (s₁.setTop (mkF m 0 #[iv 4] [])) _
    refine XS.iloadN X0.here hx rfl (hb hby own_d1_0) rfl ?_
    show Steps p.tables e below (s₁.setTop (mkF m 1 #[iv 4] [(.int 4)])) _
    refine XS.ifYes X0.here hx rfl (pc0 := 1) (pc' := 8) rfl (hb hby own_d1_1) rfl ((if0 _ _).trans (feq (by decide)).2) (by decide) (by decide) ?_
    show Steps p.tables e below (s₁.setTop (mkF m 8 #[iv 4] [])) _
    refine XS.iloadN X0.here hx rfl (hb hby own_d1_8) rfl ?_
    show Steps p.tables e below (s₁.setTop (mkF m 9 #[iv 4] [(.int 4)])) _
    refine XS.iconst X0.here hx rfl (hb hby own_d1_9) ?_
    show Steps p.tables e below (s₁.setTop (mkF m 10 #[iv 4] [(.int 1), (.int 4)])) _
    refine XS.icmpYes X0.here hx rfl (pc0 := 10) (pc' := 17) rfl (hb hby own_d1_10) rfl (feq (by decide)).2 (by decide) (by decide) ?_
    show Steps p.tables e below (s₁.setTop (mkF m 17 #[iv 4] [])) _
    refine XS.iloadN X0.here hx rfl (hb hby own_d1_17) rfl ?_
    show Steps p.tables e below (s₁.setTop (mkF m 18 #[iv 4] [(.int 4)])) _
    refine XS.iconst X0.here hx rfl (hb hby own_d1_18) ?_
    show Steps p.tables e below (s₁.setTop (mkF m 19 #[iv 4] [(.int 2), (.int 4)])) _
    refine XS.icmpYes X0.here hx rfl (pc0 := 19) (pc' := 26) rfl (hb hby own_d1_19) rfl (feq (by decide)).2 (by decide) (by decide) ?_
    show Steps p.tables e below (s₁.setTop (mkF m 26 #[iv 4] [])) _
    refine XS.iloadN X0.here hx rfl (hb hby own_d1_26) rfl ?_
    show Steps p.tables e below (s₁.setTop (mkF m 27 #[iv 4] [(.int 4)])) _
    refine XS.iconst X0.here hx rfl (hb hby own_d1_27) ?_
    show Steps p.tables e below (s₁.setTop (mkF m 28 #[iv 4] [(.int 3), (.int 4)])) _
    refine XS.icmpYes X0.here hx rfl (pc0 := 28) (pc' := 35) rfl (hb hby own_d1_28) rfl (feq (by decide)).2 (by decide) (by decide) ?_
    show Steps p.tables e below (s₁.setTop (mkF m 35 #[iv 4] [])) _
    refine XS.iloadN X0.here hx rfl (hb hby own_d1_35) rfl ?_
    show Steps p.tables e below (s₁.setTop (mkF m 36 #[iv 4] [(.int 4)])) _
    refine XS.iconst X0.here hx rfl (hb hby own_d1_36) ?_
    show Steps p.tables e below (s₁.setTop (mkF m 37 #[iv 4] [(.int 4), (.int 4)])) _
    refine XS.icmpNo X0.here hx rfl (hb hby own_d1_37) rfl (teq (by decide)).2 ?_
    show Steps p.tables e below (s₁.setTop (mkF m 40 #[iv 4] [])) _
    refine st1 _ ?_
    show Steps p.tables e below (T1.setTop (mkF m 43 #[iv 4] [(.ref w_BYTE)])) _
    jvm_step X1.here [X1.here.top, hx, (hb hby own_d1_43), X1.method', Bd.returns, Value.isRef, FieldType.isReference]
    first | (intro acts; rw [hr _ acts rfl rfl rfl]) | rw [hr _ _ rfl rfl rfl]
    exact Steps.refl _
  · show own_p_4_Q Z w_STRING w_INTEGER w_LONG w_SHORT w_BYTE w_DOUBLE w_FLOAT w_BIG_DECIMAL w_BIG_INTEGER w_BOOLEAN w_LOCAL_DATE w_LOCAL_TIME w_LOCAL_DATE_TIME h0 n0 _ T1.heap _
    rw [e1]
    exact ⟨rfl, N0, rfl⟩
theorem own_p_5_ef (m : MethodId)  : entryFrame m #[(.int 5)] 1 = mkF m 0 #[iv 5] [] := by first | (simp [entryFrame, mkF, argsToLocals, Value.category]; done) | rfl
def own_p_5_Q (Z : State) (w_STRING : Addr) (w_INTEGER : Addr) (w_LONG : Addr) (w_SHORT : Addr) (w_BYTE : Addr) (w_DOUBLE : Addr) (w_FLOAT : Addr) (w_BIG_DECIMAL : Addr) (w_BIG_INTEGER : Addr) (w_BOOLEAN : Addr) (w_LOCAL_DATE : Addr) (w_LOCAL_TIME : Addr) (w_LOCAL_DATE_TIME : Addr) (h0 : Heap) (n0 : Nat) (v : Option Value) (h : Heap) (L : List Loc) : Prop := v = some (.ref w_DOUBLE) ∧ Fr n0 L ∧ h = h0
set_option maxRecDepth 65536 in
set_option maxHeartbeats 40000000 in
theorem own_p_5 (l : Launch) (Z : State) (a0 : Array Value) (hw : ∀ d ∈ tables_1, d.before a0 Z = true) (ws : List Jvm.Cond) (w_STRING : Addr) (w_INTEGER : Addr) (w_LONG : Addr) (w_SHORT : Addr) (w_BYTE : Addr) (w_DOUBLE : Addr) (w_FLOAT : Addr) (w_BIG_DECIMAL : Addr) (w_BIG_INTEGER : Addr) (w_BOOLEAN : Addr) (w_LOCAL_DATE : Addr) (w_LOCAL_TIME : Addr) (w_LOCAL_DATE_TIME : Addr) (h0 : Heap) (n0 : Nat) (O0 : Old Z n0 h0) (U_STRING : own_En Z Z.heap "com/example/traversal/traversal/model/BasicType" "STRING" "Lcom/example/traversal/traversal/model/BasicType;" w_STRING (0 : Int32)) (U_INTEGER : own_En Z Z.heap "com/example/traversal/traversal/model/BasicType" "INTEGER" "Lcom/example/traversal/traversal/model/BasicType;" w_INTEGER (1 : Int32)) (U_LONG : own_En Z Z.heap "com/example/traversal/traversal/model/BasicType" "LONG" "Lcom/example/traversal/traversal/model/BasicType;" w_LONG (2 : Int32)) (U_SHORT : own_En Z Z.heap "com/example/traversal/traversal/model/BasicType" "SHORT" "Lcom/example/traversal/traversal/model/BasicType;" w_SHORT (3 : Int32)) (U_BYTE : own_En Z Z.heap "com/example/traversal/traversal/model/BasicType" "BYTE" "Lcom/example/traversal/traversal/model/BasicType;" w_BYTE (4 : Int32)) (U_DOUBLE : own_En Z Z.heap "com/example/traversal/traversal/model/BasicType" "DOUBLE" "Lcom/example/traversal/traversal/model/BasicType;" w_DOUBLE (5 : Int32)) (U_FLOAT : own_En Z Z.heap "com/example/traversal/traversal/model/BasicType" "FLOAT" "Lcom/example/traversal/traversal/model/BasicType;" w_FLOAT (6 : Int32)) (U_BIG_DECIMAL : own_En Z Z.heap "com/example/traversal/traversal/model/BasicType" "BIG_DECIMAL" "Lcom/example/traversal/traversal/model/BasicType;" w_BIG_DECIMAL (7 : Int32)) (U_BIG_INTEGER : own_En Z Z.heap "com/example/traversal/traversal/model/BasicType" "BIG_INTEGER" "Lcom/example/traversal/traversal/model/BasicType;" w_BIG_INTEGER (8 : Int32)) (U_BOOLEAN : own_En Z Z.heap "com/example/traversal/traversal/model/BasicType" "BOOLEAN" "Lcom/example/traversal/traversal/model/BasicType;" w_BOOLEAN (9 : Int32)) (U_LOCAL_DATE : own_En Z Z.heap "com/example/traversal/traversal/model/BasicType" "LOCAL_DATE" "Lcom/example/traversal/traversal/model/BasicType;" w_LOCAL_DATE (10 : Int32)) (U_LOCAL_TIME : own_En Z Z.heap "com/example/traversal/traversal/model/BasicType" "LOCAL_TIME" "Lcom/example/traversal/traversal/model/BasicType;" w_LOCAL_TIME (11 : Int32)) (U_LOCAL_DATE_TIME : own_En Z Z.heap "com/example/traversal/traversal/model/BasicType" "LOCAL_DATE_TIME" "Lcom/example/traversal/traversal/model/BasicType;" w_LOCAL_DATE_TIME (12 : Int32)) :
    MetFree l (⟨"com/example/traversal/traversal/model/BasicTypeIsIntegralPinLaw", "pick", "(I)Lcom/example/traversal/traversal/model/BasicType;"⟩ : MethodName) (head1 (Jvm.Cond.code (⟨"com/example/traversal/traversal/model/BasicTypeIsIntegralPinLaw", "pick", "(I)Lcom/example/traversal/traversal/model/BasicType;"⟩ : MethodName) method_2_code 1 (some (.object "com/example/traversal/traversal/model/BasicType")) :: ws) ({ frames := 0, cells := 0, slots := 0, locals := 0 } : Room)) (fun a U => a = #[(.int 5)] ∧ Z.Warmed39 U.vm ∧ U.heap = h0) (fun _ _ _ _ _ => True) (fun _ U o U' => ∃ v L, o = .returned v ∧ own_p_5_Q Z w_STRING w_INTEGER w_LONG w_SHORT w_BYTE w_DOUBLE w_FLOAT w_BIG_DECIMAL w_BIG_INTEGER w_BOOLEAN w_LOCAL_DATE w_LOCAL_TIME w_LOCAL_DATE_TIME h0 n0 v U'.heap L ∧ FrameEnd U o U' L ({ frames := 0, cells := 0, slots := 0, locals := 0 } : Room).cells ({ frames := 0, cells := 0, slots := 0, locals := 0 } : Room).slots) := by
  refine MetFree.of_bodySF (plainFor_of_name own_pn1) hisR ?_
  intro p e s m args below meth c s₁ Bd hml0 hP hK
  obtain ⟨rfl, hZ, hh⟩ := hP
  have hx := Bd.exec
  have hby := Bd.bytes
  have hml : c.maxLocals = 1 := hml0
  have hown : s.vm.findClass "com/example/traversal/traversal/model/BasicTypeIsIntegralPinLaw" = some m.cls := findClass_of_methodNamed Bd.named
  have hnm := (name_of_methodNamed Bd.named Bd.method).1
  have X0 : Stand p l e ({ frames := 0, cells := 0, slots := 0, locals := 0 } : Room) s m #[(.int 5)] below meth c s₁ [] 0 0 := Stand.of_body Bd
  have e0 : s₁.heap = h0 := by rw [← hh, Bd.state]; rfl
  have N0 := Fr.nil n0
  have pre0 : ∀ t, Steps p.tables e below (s₁.setTop (mkF m 0 #[iv 5] [])) t → Steps p.tables e below (s₁.setTop (entryFrame m #[(.int 5)] 1)) t := fun t k => castTop (own_p_5_ef m ) k
  obtain ⟨T1, X1, e1, st1⟩ := getS2 X0 hx hZ hown (host := "") (Or.inl (hw _ (List.mem_of_getElem? (i := 26) rfl))) Via.refl e0 (U_DOUBLE.1.ext O0.2) (g := (mkF m 49 #[iv 5] [])) rfl (hb hby own_d1_49)
  obtain ⟨fs, hr, hrun, hended, hW, hsame⟩ := X1.leave (v := some (.ref w_DOUBLE)) (fun h => by rw [Bd.returns] at h; cases h)
  refine ⟨_, _, pre0 _ ?_, hrun, hended, _, _, rfl, ?_, ⟨_, rfl⟩, hW, hsame.mono (by decide) (by decide)⟩
  · show Steps p.tables e below (s₁.setTop (mkF m 0 #[iv 5] [])) _
    refine XS.iloadN X0.here hx rfl (hb hby own_d1_0) rfl ?_
    show Steps p.tables e below (s₁.setTop (mkF m 1 #[iv 5] [(.int 5)])) _
    refine XS.ifYes X0.here hx rfl (pc0 := 1) (pc' := 8) rfl (hb hby own_d1_1) rfl ((if0 _ _).trans (feq (by decide)).2) (by decide) (by decide) ?_
    show Steps p.tables e below (s₁.setTop (mkF m 8 #[iv 5] [])) _
    refine XS.iloadN X0.here hx rfl (hb hby own_d1_8) rfl ?_
    show Steps p.tables e below (s₁.setTop (mkF m 9 #[iv 5] [(.int 5)])) _
    refine XS.iconst X0.here hx rfl (hb hby own_d1_9) ?_
    show Steps p.tables e below (s₁.setTop (mkF m 10 #[iv 5] [(.int 1), (.int 5)])) _
    refine XS.icmpYes X0.here hx rfl (pc0 := 10) (pc' := 17) rfl (hb hby own_d1_10) rfl (feq (by decide)).2 (by decide) (by decide) ?_
    show Steps p.tables e below (s₁.setTop (mkF m 17 #[iv 5] [])) _
    refine XS.iloadN X0.here hx rfl (hb hby own_d1_17) rfl ?_
    show Steps p.tables e below (s₁.setTop (mkF m 18 #[iv 5] [(.int 5)])) _
    refine XS.iconst X0.here hx rfl (hb hby own_d1_18) ?_
    show Steps p.tables e below (s₁.setTop (mkF m 19 #[iv 5] [(.int 2), (.int 5)])) _
    refine XS.icmpYes X0.here hx rfl (pc0 := 19) (pc' := 26) rfl (hb hby own_d1_19) rfl (feq (by decide)).2 (by decide) (by decide) ?_
    show Steps p.tables e below (s₁.setTop (mkF m 26 #[iv 5] [])) _
    refine XS.iloadN X0.here hx rfl (hb hby own_d1_26) rfl ?_
    show Steps p.tables e below (s₁.setTop (mkF m 27 #[iv 5] [(.int 5)])) _
    refine XS.iconst X0.here hx rfl (hb hby own_d1_27) ?_
    show Steps p.tables e below (s₁.setTop (mkF m 28 #[iv 5] [(.int 3), (.int 5)])) _
    refine XS.icmpYes X0.here hx rfl (pc0 := 28) (pc' := 35) rfl (hb hby own_d1_28) rfl (feq (by decide)).2 (by decide) (by decide) ?_
    show Steps p.tables e below (s₁.setTop (mkF m 35 #[iv 5] [])) _
    refine XS.iloadN X0.here hx rfl (hb hby own_d1_35) rfl ?_
    show Steps p.tables e below (s₁.setTop (mkF m 36 #[iv 5] [(.int 5)])) _
    refine XS.iconst X0.here hx rfl (hb hby own_d1_36) ?_
    show Steps p.tables e below (s₁.setTop (mkF m 37 #[iv 5] [(.int 4), (.int 5)])) _
    refine XS.icmpYes X0.here hx rfl (pc0 := 37) (pc' := 44) rfl (hb hby own_d1_37) rfl (feq (by decide)).2 (by decide) (by decide) ?_
    show Steps p.tables e below (s₁.setTop (mkF m 44 #[iv 5] [])) _
    refine XS.iloadN X0.here hx rfl (hb hby own_d1_44) rfl ?_
    show Steps p.tables e below (s₁.setTop (mkF m 45 #[iv 5] [(.int 5)])) _
    refine XS.iconst X0.here hx rfl (hb hby own_d1_45) ?_
    show Steps p.tables e below (s₁.setTop (mkF m 46 #[iv 5] [(.int 5), (.int 5)])) _
    refine XS.icmpNo X0.here hx rfl (hb hby own_d1_46) rfl (teq (by decide)).2 ?_
    show Steps p.tables e below (s₁.setTop (mkF m 49 #[iv 5] [])) _
    refine st1 _ ?_
    show Steps p.tables e below (T1.setTop (mkF m 52 #[iv 5] [(.ref w_DOUBLE)])) _
    jvm_step X1.here [X1.here.top, hx, (hb hby own_d1_52), X1.method', Bd.returns, Value.isRef, FieldType.isReference]
    first | (intro acts; rw [hr _ acts rfl rfl rfl]) | rw [hr _ _ rfl rfl rfl]
    exact Steps.refl _
  · show own_p_5_Q Z w_STRING w_INTEGER w_LONG w_SHORT w_BYTE w_DOUBLE w_FLOAT w_BIG_DECIMAL w_BIG_INTEGER w_BOOLEAN w_LOCAL_DATE w_LOCAL_TIME w_LOCAL_DATE_TIME h0 n0 _ T1.heap _
    rw [e1]
    exact ⟨rfl, N0, rfl⟩
theorem own_p_6_ef (m : MethodId)  : entryFrame m #[(.int 6)] 1 = mkF m 0 #[iv 6] [] := by first | (simp [entryFrame, mkF, argsToLocals, Value.category]; done) | rfl
def own_p_6_Q (Z : State) (w_STRING : Addr) (w_INTEGER : Addr) (w_LONG : Addr) (w_SHORT : Addr) (w_BYTE : Addr) (w_DOUBLE : Addr) (w_FLOAT : Addr) (w_BIG_DECIMAL : Addr) (w_BIG_INTEGER : Addr) (w_BOOLEAN : Addr) (w_LOCAL_DATE : Addr) (w_LOCAL_TIME : Addr) (w_LOCAL_DATE_TIME : Addr) (h0 : Heap) (n0 : Nat) (v : Option Value) (h : Heap) (L : List Loc) : Prop := v = some (.ref w_FLOAT) ∧ Fr n0 L ∧ h = h0
set_option maxRecDepth 65536 in
set_option maxHeartbeats 40000000 in
theorem own_p_6 (l : Launch) (Z : State) (a0 : Array Value) (hw : ∀ d ∈ tables_1, d.before a0 Z = true) (ws : List Jvm.Cond) (w_STRING : Addr) (w_INTEGER : Addr) (w_LONG : Addr) (w_SHORT : Addr) (w_BYTE : Addr) (w_DOUBLE : Addr) (w_FLOAT : Addr) (w_BIG_DECIMAL : Addr) (w_BIG_INTEGER : Addr) (w_BOOLEAN : Addr) (w_LOCAL_DATE : Addr) (w_LOCAL_TIME : Addr) (w_LOCAL_DATE_TIME : Addr) (h0 : Heap) (n0 : Nat) (O0 : Old Z n0 h0) (U_STRING : own_En Z Z.heap "com/example/traversal/traversal/model/BasicType" "STRING" "Lcom/example/traversal/traversal/model/BasicType;" w_STRING (0 : Int32)) (U_INTEGER : own_En Z Z.heap "com/example/traversal/traversal/model/BasicType" "INTEGER" "Lcom/example/traversal/traversal/model/BasicType;" w_INTEGER (1 : Int32)) (U_LONG : own_En Z Z.heap "com/example/traversal/traversal/model/BasicType" "LONG" "Lcom/example/traversal/traversal/model/BasicType;" w_LONG (2 : Int32)) (U_SHORT : own_En Z Z.heap "com/example/traversal/traversal/model/BasicType" "SHORT" "Lcom/example/traversal/traversal/model/BasicType;" w_SHORT (3 : Int32)) (U_BYTE : own_En Z Z.heap "com/example/traversal/traversal/model/BasicType" "BYTE" "Lcom/example/traversal/traversal/model/BasicType;" w_BYTE (4 : Int32)) (U_DOUBLE : own_En Z Z.heap "com/example/traversal/traversal/model/BasicType" "DOUBLE" "Lcom/example/traversal/traversal/model/BasicType;" w_DOUBLE (5 : Int32)) (U_FLOAT : own_En Z Z.heap "com/example/traversal/traversal/model/BasicType" "FLOAT" "Lcom/example/traversal/traversal/model/BasicType;" w_FLOAT (6 : Int32)) (U_BIG_DECIMAL : own_En Z Z.heap "com/example/traversal/traversal/model/BasicType" "BIG_DECIMAL" "Lcom/example/traversal/traversal/model/BasicType;" w_BIG_DECIMAL (7 : Int32)) (U_BIG_INTEGER : own_En Z Z.heap "com/example/traversal/traversal/model/BasicType" "BIG_INTEGER" "Lcom/example/traversal/traversal/model/BasicType;" w_BIG_INTEGER (8 : Int32)) (U_BOOLEAN : own_En Z Z.heap "com/example/traversal/traversal/model/BasicType" "BOOLEAN" "Lcom/example/traversal/traversal/model/BasicType;" w_BOOLEAN (9 : Int32)) (U_LOCAL_DATE : own_En Z Z.heap "com/example/traversal/traversal/model/BasicType" "LOCAL_DATE" "Lcom/example/traversal/traversal/model/BasicType;" w_LOCAL_DATE (10 : Int32)) (U_LOCAL_TIME : own_En Z Z.heap "com/example/traversal/traversal/model/BasicType" "LOCAL_TIME" "Lcom/example/traversal/traversal/model/BasicType;" w_LOCAL_TIME (11 : Int32)) (U_LOCAL_DATE_TIME : own_En Z Z.heap "com/example/traversal/traversal/model/BasicType" "LOCAL_DATE_TIME" "Lcom/example/traversal/traversal/model/BasicType;" w_LOCAL_DATE_TIME (12 : Int32)) :
    MetFree l (⟨"com/example/traversal/traversal/model/BasicTypeIsIntegralPinLaw", "pick", "(I)Lcom/example/traversal/traversal/model/BasicType;"⟩ : MethodName) (head1 (Jvm.Cond.code (⟨"com/example/traversal/traversal/model/BasicTypeIsIntegralPinLaw", "pick", "(I)Lcom/example/traversal/traversal/model/BasicType;"⟩ : MethodName) method_2_code 1 (some (.object "com/example/traversal/traversal/model/BasicType")) :: ws) ({ frames := 0, cells := 0, slots := 0, locals := 0 } : Room)) (fun a U => a = #[(.int 6)] ∧ Z.Warmed39 U.vm ∧ U.heap = h0) (fun _ _ _ _ _ => True) (fun _ U o U' => ∃ v L, o = .returned v ∧ own_p_6_Q Z w_STRING w_INTEGER w_LONG w_SHORT w_BYTE w_DOUBLE w_FLOAT w_BIG_DECIMAL w_BIG_INTEGER w_BOOLEAN w_LOCAL_DATE w_LOCAL_TIME w_LOCAL_DATE_TIME h0 n0 v U'.heap L ∧ FrameEnd U o U' L ({ frames := 0, cells := 0, slots := 0, locals := 0 } : Room).cells ({ frames := 0, cells := 0, slots := 0, locals := 0 } : Room).slots) := by
  refine MetFree.of_bodySF (plainFor_of_name own_pn1) hisR ?_
  intro p e s m args below meth c s₁ Bd hml0 hP hK
  obtain ⟨rfl, hZ, hh⟩ := hP
  have hx := Bd.exec
  have hby := Bd.bytes
  have hml : c.maxLocals = 1 := hml0
  have hown : s.vm.findClass "com/example/traversal/traversal/model/BasicTypeIsIntegralPinLaw" = some m.cls := findClass_of_methodNamed Bd.named
  have hnm := (name_of_methodNamed Bd.named Bd.method).1
  have X0 : Stand p l e ({ frames := 0, cells := 0, slots := 0, locals := 0 } : Room) s m #[(.int 6)] below meth c s₁ [] 0 0 := Stand.of_body Bd
  have e0 : s₁.heap = h0 := by rw [← hh, Bd.state]; rfl
  have N0 := Fr.nil n0
  have pre0 : ∀ t, Steps p.tables e below (s₁.setTop (mkF m 0 #[iv 6] [])) t → Steps p.tables e below (s₁.setTop (entryFrame m #[(.int 6)] 1)) t := fun t k => castTop (own_p_6_ef m ) k
  obtain ⟨T1, X1, e1, st1⟩ := getS2 X0 hx hZ hown (host := "") (Or.inl (hw _ (List.mem_of_getElem? (i := 24) rfl))) Via.refl e0 (U_FLOAT.1.ext O0.2) (g := (mkF m 59 #[iv 6] [])) rfl (hb hby own_d1_59)
  obtain ⟨fs, hr, hrun, hended, hW, hsame⟩ := X1.leave (v := some (.ref w_FLOAT)) (fun h => by rw [Bd.returns] at h; cases h)
  refine ⟨_, _, pre0 _ ?_, hrun, hended, _, _, rfl, ?_, ⟨_, rfl⟩, hW, hsame.mono (by decide) (by decide)⟩
  · show Steps p.tables e below (s₁.setTop (mkF m 0 #[iv 6] [])) _
    refine XS.iloadN X0.here hx rfl (hb hby own_d1_0) rfl ?_
    show Steps p.tables e below (s₁.setTop (mkF m 1 #[iv 6] [(.int 6)])) _
    refine XS.ifYes X0.here hx rfl (pc0 := 1) (pc' := 8) rfl (hb hby own_d1_1) rfl ((if0 _ _).trans (feq (by decide)).2) (by decide) (by decide) ?_
    show Steps p.tables e below (s₁.setTop (mkF m 8 #[iv 6] [])) _
    refine XS.iloadN X0.here hx rfl (hb hby own_d1_8) rfl ?_
    show Steps p.tables e below (s₁.setTop (mkF m 9 #[iv 6] [(.int 6)])) _
    refine XS.iconst X0.here hx rfl (hb hby own_d1_9) ?_
    show Steps p.tables e below (s₁.setTop (mkF m 10 #[iv 6] [(.int 1), (.int 6)])) _
    refine XS.icmpYes X0.here hx rfl (pc0 := 10) (pc' := 17) rfl (hb hby own_d1_10) rfl (feq (by decide)).2 (by decide) (by decide) ?_
    show Steps p.tables e below (s₁.setTop (mkF m 17 #[iv 6] [])) _
    refine XS.iloadN X0.here hx rfl (hb hby own_d1_17) rfl ?_
    show Steps p.tables e below (s₁.setTop (mkF m 18 #[iv 6] [(.int 6)])) _
    refine XS.iconst X0.here hx rfl (hb hby own_d1_18) ?_
    show Steps p.tables e below (s₁.setTop (mkF m 19 #[iv 6] [(.int 2), (.int 6)])) _
    refine XS.icmpYes X0.here hx rfl (pc0 := 19) (pc' := 26) rfl (hb hby own_d1_19) rfl (feq (by decide)).2 (by decide) (by decide) ?_
    show Steps p.tables e below (s₁.setTop (mkF m 26 #[iv 6] [])) _
    refine XS.iloadN X0.here hx rfl (hb hby own_d1_26) rfl ?_
    show Steps p.tables e below (s₁.setTop (mkF m 27 #[iv 6] [(.int 6)])) _
    refine XS.iconst X0.here hx rfl (hb hby own_d1_27) ?_
    show Steps p.tables e below (s₁.setTop (mkF m 28 #[iv 6] [(.int 3), (.int 6)])) _
    refine XS.icmpYes X0.here hx rfl (pc0 := 28) (pc' := 35) rfl (hb hby own_d1_28) rfl (feq (by decide)).2 (by decide) (by decide) ?_
    show Steps p.tables e below (s₁.setTop (mkF m 35 #[iv 6] [])) _
    refine XS.iloadN X0.here hx rfl (hb hby own_d1_35) rfl ?_
    show Steps p.tables e below (s₁.setTop (mkF m 36 #[iv 6] [(.int 6)])) _
    refine XS.iconst X0.here hx rfl (hb hby own_d1_36) ?_
    show Steps p.tables e below (s₁.setTop (mkF m 37 #[iv 6] [(.int 4), (.int 6)])) _
    refine XS.icmpYes X0.here hx rfl (pc0 := 37) (pc' := 44) rfl (hb hby own_d1_37) rfl (feq (by decide)).2 (by decide) (by decide) ?_
    show Steps p.tables e below (s₁.setTop (mkF m 44 #[iv 6] [])) _
    refine XS.iloadN X0.here hx rfl (hb hby own_d1_44) rfl ?_
    show Steps p.tables e below (s₁.setTop (mkF m 45 #[iv 6] [(.int 6)])) _
    refine XS.iconst X0.here hx rfl (hb hby own_d1_45) ?_
    show Steps p.tables e below (s₁.setTop (mkF m 46 #[iv 6] [(.int 5), (.int 6)])) _
    refine XS.icmpYes X0.here hx rfl (pc0 := 46) (pc' := 53) rfl (hb hby own_d1_46) rfl (feq (by decide)).2 (by decide) (by decide) ?_
    show Steps p.tables e below (s₁.setTop (mkF m 53 #[iv 6] [])) _
    refine XS.iloadN X0.here hx rfl (hb hby own_d1_53) rfl ?_
    show Steps p.tables e below (s₁.setTop (mkF m 54 #[iv 6] [(.int 6)])) _
    refine XS.bipush X0.here hx rfl (hb hby own_d1_54) ?_
    show Steps p.tables e below (s₁.setTop (mkF m 56 #[iv 6] [(.int 6), (.int 6)])) _
    refine XS.icmpNo X0.here hx rfl (hb hby own_d1_56) rfl (teq (by decide)).2 ?_
    show Steps p.tables e below (s₁.setTop (mkF m 59 #[iv 6] [])) _
    refine st1 _ ?_
    show Steps p.tables e below (T1.setTop (mkF m 62 #[iv 6] [(.ref w_FLOAT)])) _
    jvm_step X1.here [X1.here.top, hx, (hb hby own_d1_62), X1.method', Bd.returns, Value.isRef, FieldType.isReference]
    first | (intro acts; rw [hr _ acts rfl rfl rfl]) | rw [hr _ _ rfl rfl rfl]
    exact Steps.refl _
  · show own_p_6_Q Z w_STRING w_INTEGER w_LONG w_SHORT w_BYTE w_DOUBLE w_FLOAT w_BIG_DECIMAL w_BIG_INTEGER w_BOOLEAN w_LOCAL_DATE w_LOCAL_TIME w_LOCAL_DATE_TIME h0 n0 _ T1.heap _
    rw [e1]
    exact ⟨rfl, N0, rfl⟩
theorem own_p_7_ef (m : MethodId)  : entryFrame m #[(.int 7)] 1 = mkF m 0 #[iv 7] [] := by first | (simp [entryFrame, mkF, argsToLocals, Value.category]; done) | rfl
def own_p_7_Q (Z : State) (w_STRING : Addr) (w_INTEGER : Addr) (w_LONG : Addr) (w_SHORT : Addr) (w_BYTE : Addr) (w_DOUBLE : Addr) (w_FLOAT : Addr) (w_BIG_DECIMAL : Addr) (w_BIG_INTEGER : Addr) (w_BOOLEAN : Addr) (w_LOCAL_DATE : Addr) (w_LOCAL_TIME : Addr) (w_LOCAL_DATE_TIME : Addr) (h0 : Heap) (n0 : Nat) (v : Option Value) (h : Heap) (L : List Loc) : Prop := v = some (.ref w_BIG_DECIMAL) ∧ Fr n0 L ∧ h = h0
set_option maxRecDepth 65536 in
set_option maxHeartbeats 40000000 in
theorem own_p_7 (l : Launch) (Z : State) (a0 : Array Value) (hw : ∀ d ∈ tables_1, d.before a0 Z = true) (ws : List Jvm.Cond) (w_STRING : Addr) (w_INTEGER : Addr) (w_LONG : Addr) (w_SHORT : Addr) (w_BYTE : Addr) (w_DOUBLE : Addr) (w_FLOAT : Addr) (w_BIG_DECIMAL : Addr) (w_BIG_INTEGER : Addr) (w_BOOLEAN : Addr) (w_LOCAL_DATE : Addr) (w_LOCAL_TIME : Addr) (w_LOCAL_DATE_TIME : Addr) (h0 : Heap) (n0 : Nat) (O0 : Old Z n0 h0) (U_STRING : own_En Z Z.heap "com/example/traversal/traversal/model/BasicType" "STRING" "Lcom/example/traversal/traversal/model/BasicType;" w_STRING (0 : Int32)) (U_INTEGER : own_En Z Z.heap "com/example/traversal/traversal/model/BasicType" "INTEGER" "Lcom/example/traversal/traversal/model/BasicType;" w_INTEGER (1 : Int32)) (U_LONG : own_En Z Z.heap "com/example/traversal/traversal/model/BasicType" "LONG" "Lcom/example/traversal/traversal/model/BasicType;" w_LONG (2 : Int32)) (U_SHORT : own_En Z Z.heap "com/example/traversal/traversal/model/BasicType" "SHORT" "Lcom/example/traversal/traversal/model/BasicType;" w_SHORT (3 : Int32)) (U_BYTE : own_En Z Z.heap "com/example/traversal/traversal/model/BasicType" "BYTE" "Lcom/example/traversal/traversal/model/BasicType;" w_BYTE (4 : Int32)) (U_DOUBLE : own_En Z Z.heap "com/example/traversal/traversal/model/BasicType" "DOUBLE" "Lcom/example/traversal/traversal/model/BasicType;" w_DOUBLE (5 : Int32)) (U_FLOAT : own_En Z Z.heap "com/example/traversal/traversal/model/BasicType" "FLOAT" "Lcom/example/traversal/traversal/model/BasicType;" w_FLOAT (6 : Int32)) (U_BIG_DECIMAL : own_En Z Z.heap "com/example/traversal/traversal/model/BasicType" "BIG_DECIMAL" "Lcom/example/traversal/traversal/model/BasicType;" w_BIG_DECIMAL (7 : Int32)) (U_BIG_INTEGER : own_En Z Z.heap "com/example/traversal/traversal/model/BasicType" "BIG_INTEGER" "Lcom/example/traversal/traversal/model/BasicType;" w_BIG_INTEGER (8 : Int32)) (U_BOOLEAN : own_En Z Z.heap "com/example/traversal/traversal/model/BasicType" "BOOLEAN" "Lcom/example/traversal/traversal/model/BasicType;" w_BOOLEAN (9 : Int32)) (U_LOCAL_DATE : own_En Z Z.heap "com/example/traversal/traversal/model/BasicType" "LOCAL_DATE" "Lcom/example/traversal/traversal/model/BasicType;" w_LOCAL_DATE (10 : Int32)) (U_LOCAL_TIME : own_En Z Z.heap "com/example/traversal/traversal/model/BasicType" "LOCAL_TIME" "Lcom/example/traversal/traversal/model/BasicType;" w_LOCAL_TIME (11 : Int32)) (U_LOCAL_DATE_TIME : own_En Z Z.heap "com/example/traversal/traversal/model/BasicType" "LOCAL_DATE_TIME" "Lcom/example/traversal/traversal/model/BasicType;" w_LOCAL_DATE_TIME (12 : Int32)) :
    MetFree l (⟨"com/example/traversal/traversal/model/BasicTypeIsIntegralPinLaw", "pick", "(I)Lcom/example/traversal/traversal/model/BasicType;"⟩ : MethodName) (head1 (Jvm.Cond.code (⟨"com/example/traversal/traversal/model/BasicTypeIsIntegralPinLaw", "pick", "(I)Lcom/example/traversal/traversal/model/BasicType;"⟩ : MethodName) method_2_code 1 (some (.object "com/example/traversal/traversal/model/BasicType")) :: ws) ({ frames := 0, cells := 0, slots := 0, locals := 0 } : Room)) (fun a U => a = #[(.int 7)] ∧ Z.Warmed39 U.vm ∧ U.heap = h0) (fun _ _ _ _ _ => True) (fun _ U o U' => ∃ v L, o = .returned v ∧ own_p_7_Q Z w_STRING w_INTEGER w_LONG w_SHORT w_BYTE w_DOUBLE w_FLOAT w_BIG_DECIMAL w_BIG_INTEGER w_BOOLEAN w_LOCAL_DATE w_LOCAL_TIME w_LOCAL_DATE_TIME h0 n0 v U'.heap L ∧ FrameEnd U o U' L ({ frames := 0, cells := 0, slots := 0, locals := 0 } : Room).cells ({ frames := 0, cells := 0, slots := 0, locals := 0 } : Room).slots) := by
  refine MetFree.of_bodySF (plainFor_of_name own_pn1) hisR ?_
  intro p e s m args below meth c s₁ Bd hml0 hP hK
  obtain ⟨rfl, hZ, hh⟩ := hP
  have hx := Bd.exec
  have hby := Bd.bytes
  have hml : c.maxLocals = 1 := hml0
  have hown : s.vm.findClass "com/example/traversal/traversal/model/BasicTypeIsIntegralPinLaw" = some m.cls := findClass_of_methodNamed Bd.named
  have hnm := (name_of_methodNamed Bd.named Bd.method).1
  have X0 : Stand p l e ({ frames := 0, cells := 0, slots := 0, locals := 0 } : Room) s m #[(.int 7)] below meth c s₁ [] 0 0 := Stand.of_body Bd
  have e0 : s₁.heap = h0 := by rw [← hh, Bd.state]; rfl
  have N0 := Fr.nil n0
  have pre0 : ∀ t, Steps p.tables e below (s₁.setTop (mkF m 0 #[iv 7] [])) t → Steps p.tables e below (s₁.setTop (entryFrame m #[(.int 7)] 1)) t := fun t k => castTop (own_p_7_ef m ) k
  obtain ⟨T1, X1, e1, st1⟩ := getS2 X0 hx hZ hown (host := "") (Or.inl (hw _ (List.mem_of_getElem? (i := 28) rfl))) Via.refl e0 (U_BIG_DECIMAL.1.ext O0.2) (g := (mkF m 69 #[iv 7] [])) rfl (hb hby own_d1_69)
  obtain ⟨fs, hr, hrun, hended, hW, hsame⟩ := X1.leave (v := some (.ref w_BIG_DECIMAL)) (fun h => by rw [Bd.returns] at h; cases h)
  refine ⟨_, _, pre0 _ ?_, hrun, hended, _, _, rfl, ?_, ⟨_, rfl⟩, hW, hsame.mono (by decide) (by decide)⟩
  · show Steps p.tables e below (s₁.setTop (mkF m 0 #[iv 7] [])) _
    refine XS.iloadN X0.here hx rfl (hb hby own_d1_0) rfl ?_
    show Steps p.tables e below (s₁.setTop (mkF m 1 #[iv 7] [(.int 7)])) _
    refine XS.ifYes X0.here hx rfl (pc0 := 1) (pc' := 8) rfl (hb hby own_d1_1) rfl ((if0 _ _).trans (feq (by decide)).2) (by decide) (by decide) ?_
    show Steps p.tables e below (s₁.setTop (mkF m 8 #[iv 7] [])) _
    refine XS.iloadN X0.here hx rfl (hb hby own_d1_8) rfl ?_
    show Steps p.tables e below (s₁.setTop (mkF m 9 #[iv 7] [(.int 7)])) _
    refine XS.iconst X0.here hx rfl (hb hby own_d1_9) ?_
    show Steps p.tables e below (s₁.setTop (mkF m 10 #[iv 7] [(.int 1), (.int 7)])) _
    refine XS.icmpYes X0.here hx rfl (pc0 := 10) (pc' := 17) rfl (hb hby own_d1_10) rfl (feq (by decide)).2 (by decide) (by decide) ?_
    show Steps p.tables e below (s₁.setTop (mkF m 17 #[iv 7] [])) _
    refine XS.iloadN X0.here hx rfl (hb hby own_d1_17) rfl ?_
    show Steps p.tables e below (s₁.setTop (mkF m 18 #[iv 7] [(.int 7)])) _
    refine XS.iconst X0.here hx rfl (hb hby own_d1_18) ?_
    show Steps p.tables e below (s₁.setTop (mkF m 19 #[iv 7] [(.int 2), (.int 7)])) _
    refine XS.icmpYes X0.here hx rfl (pc0 := 19) (pc' := 26) rfl (hb hby own_d1_19) rfl (feq (by decide)).2 (by decide) (by decide) ?_
    show Steps p.tables e below (s₁.setTop (mkF m 26 #[iv 7] [])) _
    refine XS.iloadN X0.here hx rfl (hb hby own_d1_26) rfl ?_
    show Steps p.tables e below (s₁.setTop (mkF m 27 #[iv 7] [(.int 7)])) _
    refine XS.iconst X0.here hx rfl (hb hby own_d1_27) ?_
    show Steps p.tables e below (s₁.setTop (mkF m 28 #[iv 7] [(.int 3), (.int 7)])) _
    refine XS.icmpYes X0.here hx rfl (pc0 := 28) (pc' := 35) rfl (hb hby own_d1_28) rfl (feq (by decide)).2 (by decide) (by decide) ?_
    show Steps p.tables e below (s₁.setTop (mkF m 35 #[iv 7] [])) _
    refine XS.iloadN X0.here hx rfl (hb hby own_d1_35) rfl ?_
    show Steps p.tables e below (s₁.setTop (mkF m 36 #[iv 7] [(.int 7)])) _
    refine XS.iconst X0.here hx rfl (hb hby own_d1_36) ?_
    show Steps p.tables e below (s₁.setTop (mkF m 37 #[iv 7] [(.int 4), (.int 7)])) _
    refine XS.icmpYes X0.here hx rfl (pc0 := 37) (pc' := 44) rfl (hb hby own_d1_37) rfl (feq (by decide)).2 (by decide) (by decide) ?_
    show Steps p.tables e below (s₁.setTop (mkF m 44 #[iv 7] [])) _
    refine XS.iloadN X0.here hx rfl (hb hby own_d1_44) rfl ?_
    show Steps p.tables e below (s₁.setTop (mkF m 45 #[iv 7] [(.int 7)])) _
    refine XS.iconst X0.here hx rfl (hb hby own_d1_45) ?_
    show Steps p.tables e below (s₁.setTop (mkF m 46 #[iv 7] [(.int 5), (.int 7)])) _
    refine XS.icmpYes X0.here hx rfl (pc0 := 46) (pc' := 53) rfl (hb hby own_d1_46) rfl (feq (by decide)).2 (by decide) (by decide) ?_
    show Steps p.tables e below (s₁.setTop (mkF m 53 #[iv 7] [])) _
    refine XS.iloadN X0.here hx rfl (hb hby own_d1_53) rfl ?_
    show Steps p.tables e below (s₁.setTop (mkF m 54 #[iv 7] [(.int 7)])) _
    refine XS.bipush X0.here hx rfl (hb hby own_d1_54) ?_
    show Steps p.tables e below (s₁.setTop (mkF m 56 #[iv 7] [(.int 6), (.int 7)])) _
    refine XS.icmpYes X0.here hx rfl (pc0 := 56) (pc' := 63) rfl (hb hby own_d1_56) rfl (feq (by decide)).2 (by decide) (by decide) ?_
    show Steps p.tables e below (s₁.setTop (mkF m 63 #[iv 7] [])) _
    refine XS.iloadN X0.here hx rfl (hb hby own_d1_63) rfl ?_
    show Steps p.tables e below (s₁.setTop (mkF m 64 #[iv 7] [(.int 7)])) _
    refine XS.bipush X0.here hx rfl (hb hby own_d1_64) ?_
    show Steps p.tables e below (s₁.setTop (mkF m 66 #[iv 7] [(.int 7), (.int 7)])) _
    refine XS.icmpNo X0.here hx rfl (hb hby own_d1_66) rfl (teq (by decide)).2 ?_
    show Steps p.tables e below (s₁.setTop (mkF m 69 #[iv 7] [])) _
    refine st1 _ ?_
    show Steps p.tables e below (T1.setTop (mkF m 72 #[iv 7] [(.ref w_BIG_DECIMAL)])) _
    jvm_step X1.here [X1.here.top, hx, (hb hby own_d1_72), X1.method', Bd.returns, Value.isRef, FieldType.isReference]
    first | (intro acts; rw [hr _ acts rfl rfl rfl]) | rw [hr _ _ rfl rfl rfl]
    exact Steps.refl _
  · show own_p_7_Q Z w_STRING w_INTEGER w_LONG w_SHORT w_BYTE w_DOUBLE w_FLOAT w_BIG_DECIMAL w_BIG_INTEGER w_BOOLEAN w_LOCAL_DATE w_LOCAL_TIME w_LOCAL_DATE_TIME h0 n0 _ T1.heap _
    rw [e1]
    exact ⟨rfl, N0, rfl⟩
theorem own_p_8_ef (m : MethodId)  : entryFrame m #[(.int 8)] 1 = mkF m 0 #[iv 8] [] := by first | (simp [entryFrame, mkF, argsToLocals, Value.category]; done) | rfl
def own_p_8_Q (Z : State) (w_STRING : Addr) (w_INTEGER : Addr) (w_LONG : Addr) (w_SHORT : Addr) (w_BYTE : Addr) (w_DOUBLE : Addr) (w_FLOAT : Addr) (w_BIG_DECIMAL : Addr) (w_BIG_INTEGER : Addr) (w_BOOLEAN : Addr) (w_LOCAL_DATE : Addr) (w_LOCAL_TIME : Addr) (w_LOCAL_DATE_TIME : Addr) (h0 : Heap) (n0 : Nat) (v : Option Value) (h : Heap) (L : List Loc) : Prop := v = some (.ref w_BIG_INTEGER) ∧ Fr n0 L ∧ h = h0
set_option maxRecDepth 65536 in
set_option maxHeartbeats 40000000 in
theorem own_p_8 (l : Launch) (Z : State) (a0 : Array Value) (hw : ∀ d ∈ tables_1, d.before a0 Z = true) (ws : List Jvm.Cond) (w_STRING : Addr) (w_INTEGER : Addr) (w_LONG : Addr) (w_SHORT : Addr) (w_BYTE : Addr) (w_DOUBLE : Addr) (w_FLOAT : Addr) (w_BIG_DECIMAL : Addr) (w_BIG_INTEGER : Addr) (w_BOOLEAN : Addr) (w_LOCAL_DATE : Addr) (w_LOCAL_TIME : Addr) (w_LOCAL_DATE_TIME : Addr) (h0 : Heap) (n0 : Nat) (O0 : Old Z n0 h0) (U_STRING : own_En Z Z.heap "com/example/traversal/traversal/model/BasicType" "STRING" "Lcom/example/traversal/traversal/model/BasicType;" w_STRING (0 : Int32)) (U_INTEGER : own_En Z Z.heap "com/example/traversal/traversal/model/BasicType" "INTEGER" "Lcom/example/traversal/traversal/model/BasicType;" w_INTEGER (1 : Int32)) (U_LONG : own_En Z Z.heap "com/example/traversal/traversal/model/BasicType" "LONG" "Lcom/example/traversal/traversal/model/BasicType;" w_LONG (2 : Int32)) (U_SHORT : own_En Z Z.heap "com/example/traversal/traversal/model/BasicType" "SHORT" "Lcom/example/traversal/traversal/model/BasicType;" w_SHORT (3 : Int32)) (U_BYTE : own_En Z Z.heap "com/example/traversal/traversal/model/BasicType" "BYTE" "Lcom/example/traversal/traversal/model/BasicType;" w_BYTE (4 : Int32)) (U_DOUBLE : own_En Z Z.heap "com/example/traversal/traversal/model/BasicType" "DOUBLE" "Lcom/example/traversal/traversal/model/BasicType;" w_DOUBLE (5 : Int32)) (U_FLOAT : own_En Z Z.heap "com/example/traversal/traversal/model/BasicType" "FLOAT" "Lcom/example/traversal/traversal/model/BasicType;" w_FLOAT (6 : Int32)) (U_BIG_DECIMAL : own_En Z Z.heap "com/example/traversal/traversal/model/BasicType" "BIG_DECIMAL" "Lcom/example/traversal/traversal/model/BasicType;" w_BIG_DECIMAL (7 : Int32)) (U_BIG_INTEGER : own_En Z Z.heap "com/example/traversal/traversal/model/BasicType" "BIG_INTEGER" "Lcom/example/traversal/traversal/model/BasicType;" w_BIG_INTEGER (8 : Int32)) (U_BOOLEAN : own_En Z Z.heap "com/example/traversal/traversal/model/BasicType" "BOOLEAN" "Lcom/example/traversal/traversal/model/BasicType;" w_BOOLEAN (9 : Int32)) (U_LOCAL_DATE : own_En Z Z.heap "com/example/traversal/traversal/model/BasicType" "LOCAL_DATE" "Lcom/example/traversal/traversal/model/BasicType;" w_LOCAL_DATE (10 : Int32)) (U_LOCAL_TIME : own_En Z Z.heap "com/example/traversal/traversal/model/BasicType" "LOCAL_TIME" "Lcom/example/traversal/traversal/model/BasicType;" w_LOCAL_TIME (11 : Int32)) (U_LOCAL_DATE_TIME : own_En Z Z.heap "com/example/traversal/traversal/model/BasicType" "LOCAL_DATE_TIME" "Lcom/example/traversal/traversal/model/BasicType;" w_LOCAL_DATE_TIME (12 : Int32)) :
    MetFree l (⟨"com/example/traversal/traversal/model/BasicTypeIsIntegralPinLaw", "pick", "(I)Lcom/example/traversal/traversal/model/BasicType;"⟩ : MethodName) (head1 (Jvm.Cond.code (⟨"com/example/traversal/traversal/model/BasicTypeIsIntegralPinLaw", "pick", "(I)Lcom/example/traversal/traversal/model/BasicType;"⟩ : MethodName) method_2_code 1 (some (.object "com/example/traversal/traversal/model/BasicType")) :: ws) ({ frames := 0, cells := 0, slots := 0, locals := 0 } : Room)) (fun a U => a = #[(.int 8)] ∧ Z.Warmed39 U.vm ∧ U.heap = h0) (fun _ _ _ _ _ => True) (fun _ U o U' => ∃ v L, o = .returned v ∧ own_p_8_Q Z w_STRING w_INTEGER w_LONG w_SHORT w_BYTE w_DOUBLE w_FLOAT w_BIG_DECIMAL w_BIG_INTEGER w_BOOLEAN w_LOCAL_DATE w_LOCAL_TIME w_LOCAL_DATE_TIME h0 n0 v U'.heap L ∧ FrameEnd U o U' L ({ frames := 0, cells := 0, slots := 0, locals := 0 } : Room).cells ({ frames := 0, cells := 0, slots := 0, locals := 0 } : Room).slots) := by
  refine MetFree.of_bodySF (plainFor_of_name own_pn1) hisR ?_
  intro p e s m args below meth c s₁ Bd hml0 hP hK
  obtain ⟨rfl, hZ, hh⟩ := hP
  have hx := Bd.exec
  have hby := Bd.bytes
  have hml : c.maxLocals = 1 := hml0
  have hown : s.vm.findClass "com/example/traversal/traversal/model/BasicTypeIsIntegralPinLaw" = some m.cls := findClass_of_methodNamed Bd.named
  have hnm := (name_of_methodNamed Bd.named Bd.method).1
  have X0 : Stand p l e ({ frames := 0, cells := 0, slots := 0, locals := 0 } : Room) s m #[(.int 8)] below meth c s₁ [] 0 0 := Stand.of_body Bd
  have e0 : s₁.heap = h0 := by rw [← hh, Bd.state]; rfl
  have N0 := Fr.nil n0
  have pre0 : ∀ t, Steps p.tables e below (s₁.setTop (mkF m 0 #[iv 8] [])) t → Steps p.tables e below (s₁.setTop (entryFrame m #[(.int 8)] 1)) t := fun t k => castTop (own_p_8_ef m ) k
  obtain ⟨T1, X1, e1, st1⟩ := getS2 X0 hx hZ hown (host := "") (Or.inl (hw _ (List.mem_of_getElem? (i := 36) rfl))) Via.refl e0 (U_BIG_INTEGER.1.ext O0.2) (g := (mkF m 79 #[iv 8] [])) rfl (hb hby own_d1_79)
  obtain ⟨fs, hr, hrun, hended, hW, hsame⟩ := X1.leave (v := some (.ref w_BIG_INTEGER)) (fun h => by rw [Bd.returns] at h; cases h)
  refine ⟨_, _, pre0 _ ?_, hrun, hended, _, _, rfl, ?_, ⟨_, rfl⟩, hW, hsame.mono (by decide) (by decide)⟩
  · show Steps p.tables e below (s₁.setTop (mkF m 0 #[iv 8] [])) _
    refine XS.iloadN X0.here hx rfl (hb hby own_d1_0) rfl ?_
    show Steps p.tables e below (s₁.setTop (mkF m 1 #[iv 8] [(.int 8)])) _
    refine XS.ifYes X0.here hx rfl (pc0 := 1) (pc' := 8) rfl (hb hby own_d1_1) rfl ((if0 _ _).trans (feq (by decide)).2) (by decide) (by decide) ?_
    show Steps p.tables e below (s₁.setTop (mkF m 8 #[iv 8] [])) _
    refine XS.iloadN X0.here hx rfl (hb hby own_d1_8) rfl ?_
    show Steps p.tables e below (s₁.setTop (mkF m 9 #[iv 8] [(.int 8)])) _
    refine XS.iconst X0.here hx rfl (hb hby own_d1_9) ?_
    show Steps p.tables e below (s₁.setTop (mkF m 10 #[iv 8] [(.int 1), (.int 8)])) _
    refine XS.icmpYes X0.here hx rfl (pc0 := 10) (pc' := 17) rfl (hb hby own_d1_10) rfl (feq (by decide)).2 (by decide) (by decide) ?_
    show Steps p.tables e below (s₁.setTop (mkF m 17 #[iv 8] [])) _
    refine XS.iloadN X0.here hx rfl (hb hby own_d1_17) rfl ?_
    show Steps p.tables e below (s₁.setTop (mkF m 18 #[iv 8] [(.int 8)])) _
    refine XS.iconst X0.here hx rfl (hb hby own_d1_18) ?_
    show Steps p.tables e below (s₁.setTop (mkF m 19 #[iv 8] [(.int 2), (.int 8)])) _
    refine XS.icmpYes X0.here hx rfl (pc0 := 19) (pc' := 26) rfl (hb hby own_d1_19) rfl (feq (by decide)).2 (by decide) (by decide) ?_
    show Steps p.tables e below (s₁.setTop (mkF m 26 #[iv 8] [])) _
    refine XS.iloadN X0.here hx rfl (hb hby own_d1_26) rfl ?_
    show Steps p.tables e below (s₁.setTop (mkF m 27 #[iv 8] [(.int 8)])) _
    refine XS.iconst X0.here hx rfl (hb hby own_d1_27) ?_
    show Steps p.tables e below (s₁.setTop (mkF m 28 #[iv 8] [(.int 3), (.int 8)])) _
    refine XS.icmpYes X0.here hx rfl (pc0 := 28) (pc' := 35) rfl (hb hby own_d1_28) rfl (feq (by decide)).2 (by decide) (by decide) ?_
    show Steps p.tables e below (s₁.setTop (mkF m 35 #[iv 8] [])) _
    refine XS.iloadN X0.here hx rfl (hb hby own_d1_35) rfl ?_
    show Steps p.tables e below (s₁.setTop (mkF m 36 #[iv 8] [(.int 8)])) _
    refine XS.iconst X0.here hx rfl (hb hby own_d1_36) ?_
    show Steps p.tables e below (s₁.setTop (mkF m 37 #[iv 8] [(.int 4), (.int 8)])) _
    refine XS.icmpYes X0.here hx rfl (pc0 := 37) (pc' := 44) rfl (hb hby own_d1_37) rfl (feq (by decide)).2 (by decide) (by decide) ?_
    show Steps p.tables e below (s₁.setTop (mkF m 44 #[iv 8] [])) _
    refine XS.iloadN X0.here hx rfl (hb hby own_d1_44) rfl ?_
    show Steps p.tables e below (s₁.setTop (mkF m 45 #[iv 8] [(.int 8)])) _
    refine XS.iconst X0.here hx rfl (hb hby own_d1_45) ?_
    show Steps p.tables e below (s₁.setTop (mkF m 46 #[iv 8] [(.int 5), (.int 8)])) _
    refine XS.icmpYes X0.here hx rfl (pc0 := 46) (pc' := 53) rfl (hb hby own_d1_46) rfl (feq (by decide)).2 (by decide) (by decide) ?_
    show Steps p.tables e below (s₁.setTop (mkF m 53 #[iv 8] [])) _
    refine XS.iloadN X0.here hx rfl (hb hby own_d1_53) rfl ?_
    show Steps p.tables e below (s₁.setTop (mkF m 54 #[iv 8] [(.int 8)])) _
    refine XS.bipush X0.here hx rfl (hb hby own_d1_54) ?_
    show Steps p.tables e below (s₁.setTop (mkF m 56 #[iv 8] [(.int 6), (.int 8)])) _
    refine XS.icmpYes X0.here hx rfl (pc0 := 56) (pc' := 63) rfl (hb hby own_d1_56) rfl (feq (by decide)).2 (by decide) (by decide) ?_
    show Steps p.tables e below (s₁.setTop (mkF m 63 #[iv 8] [])) _
    refine XS.iloadN X0.here hx rfl (hb hby own_d1_63) rfl ?_
    show Steps p.tables e below (s₁.setTop (mkF m 64 #[iv 8] [(.int 8)])) _
    refine XS.bipush X0.here hx rfl (hb hby own_d1_64) ?_
    show Steps p.tables e below (s₁.setTop (mkF m 66 #[iv 8] [(.int 7), (.int 8)])) _
    refine XS.icmpYes X0.here hx rfl (pc0 := 66) (pc' := 73) rfl (hb hby own_d1_66) rfl (feq (by decide)).2 (by decide) (by decide) ?_
    show Steps p.tables e below (s₁.setTop (mkF m 73 #[iv 8] [])) _
    refine XS.iloadN X0.here hx rfl (hb hby own_d1_73) rfl ?_
    show Steps p.tables e below (s₁.setTop (mkF m 74 #[iv 8] [(.int 8)])) _
    refine XS.bipush X0.here hx rfl (hb hby own_d1_74) ?_
    show Steps p.tables e below (s₁.setTop (mkF m 76 #[iv 8] [(.int 8), (.int 8)])) _
    refine XS.icmpNo X0.here hx rfl (hb hby own_d1_76) rfl (teq (by decide)).2 ?_
    show Steps p.tables e below (s₁.setTop (mkF m 79 #[iv 8] [])) _
    refine st1 _ ?_
    show Steps p.tables e below (T1.setTop (mkF m 82 #[iv 8] [(.ref w_BIG_INTEGER)])) _
    jvm_step X1.here [X1.here.top, hx, (hb hby own_d1_82), X1.method', Bd.returns, Value.isRef, FieldType.isReference]
    first | (intro acts; rw [hr _ acts rfl rfl rfl]) | rw [hr _ _ rfl rfl rfl]
    exact Steps.refl _
  · show own_p_8_Q Z w_STRING w_INTEGER w_LONG w_SHORT w_BYTE w_DOUBLE w_FLOAT w_BIG_DECIMAL w_BIG_INTEGER w_BOOLEAN w_LOCAL_DATE w_LOCAL_TIME w_LOCAL_DATE_TIME h0 n0 _ T1.heap _
    rw [e1]
    exact ⟨rfl, N0, rfl⟩
theorem own_p_9_ef (m : MethodId)  : entryFrame m #[(.int 9)] 1 = mkF m 0 #[iv 9] [] := by first | (simp [entryFrame, mkF, argsToLocals, Value.category]; done) | rfl
def own_p_9_Q (Z : State) (w_STRING : Addr) (w_INTEGER : Addr) (w_LONG : Addr) (w_SHORT : Addr) (w_BYTE : Addr) (w_DOUBLE : Addr) (w_FLOAT : Addr) (w_BIG_DECIMAL : Addr) (w_BIG_INTEGER : Addr) (w_BOOLEAN : Addr) (w_LOCAL_DATE : Addr) (w_LOCAL_TIME : Addr) (w_LOCAL_DATE_TIME : Addr) (h0 : Heap) (n0 : Nat) (v : Option Value) (h : Heap) (L : List Loc) : Prop := v = some (.ref w_BOOLEAN) ∧ Fr n0 L ∧ h = h0
set_option maxRecDepth 65536 in
set_option maxHeartbeats 40000000 in
theorem own_p_9 (l : Launch) (Z : State) (a0 : Array Value) (hw : ∀ d ∈ tables_1, d.before a0 Z = true) (ws : List Jvm.Cond) (w_STRING : Addr) (w_INTEGER : Addr) (w_LONG : Addr) (w_SHORT : Addr) (w_BYTE : Addr) (w_DOUBLE : Addr) (w_FLOAT : Addr) (w_BIG_DECIMAL : Addr) (w_BIG_INTEGER : Addr) (w_BOOLEAN : Addr) (w_LOCAL_DATE : Addr) (w_LOCAL_TIME : Addr) (w_LOCAL_DATE_TIME : Addr) (h0 : Heap) (n0 : Nat) (O0 : Old Z n0 h0) (U_STRING : own_En Z Z.heap "com/example/traversal/traversal/model/BasicType" "STRING" "Lcom/example/traversal/traversal/model/BasicType;" w_STRING (0 : Int32)) (U_INTEGER : own_En Z Z.heap "com/example/traversal/traversal/model/BasicType" "INTEGER" "Lcom/example/traversal/traversal/model/BasicType;" w_INTEGER (1 : Int32)) (U_LONG : own_En Z Z.heap "com/example/traversal/traversal/model/BasicType" "LONG" "Lcom/example/traversal/traversal/model/BasicType;" w_LONG (2 : Int32)) (U_SHORT : own_En Z Z.heap "com/example/traversal/traversal/model/BasicType" "SHORT" "Lcom/example/traversal/traversal/model/BasicType;" w_SHORT (3 : Int32)) (U_BYTE : own_En Z Z.heap "com/example/traversal/traversal/model/BasicType" "BYTE" "Lcom/example/traversal/traversal/model/BasicType;" w_BYTE (4 : Int32)) (U_DOUBLE : own_En Z Z.heap "com/example/traversal/traversal/model/BasicType" "DOUBLE" "Lcom/example/traversal/traversal/model/BasicType;" w_DOUBLE (5 : Int32)) (U_FLOAT : own_En Z Z.heap "com/example/traversal/traversal/model/BasicType" "FLOAT" "Lcom/example/traversal/traversal/model/BasicType;" w_FLOAT (6 : Int32)) (U_BIG_DECIMAL : own_En Z Z.heap "com/example/traversal/traversal/model/BasicType" "BIG_DECIMAL" "Lcom/example/traversal/traversal/model/BasicType;" w_BIG_DECIMAL (7 : Int32)) (U_BIG_INTEGER : own_En Z Z.heap "com/example/traversal/traversal/model/BasicType" "BIG_INTEGER" "Lcom/example/traversal/traversal/model/BasicType;" w_BIG_INTEGER (8 : Int32)) (U_BOOLEAN : own_En Z Z.heap "com/example/traversal/traversal/model/BasicType" "BOOLEAN" "Lcom/example/traversal/traversal/model/BasicType;" w_BOOLEAN (9 : Int32)) (U_LOCAL_DATE : own_En Z Z.heap "com/example/traversal/traversal/model/BasicType" "LOCAL_DATE" "Lcom/example/traversal/traversal/model/BasicType;" w_LOCAL_DATE (10 : Int32)) (U_LOCAL_TIME : own_En Z Z.heap "com/example/traversal/traversal/model/BasicType" "LOCAL_TIME" "Lcom/example/traversal/traversal/model/BasicType;" w_LOCAL_TIME (11 : Int32)) (U_LOCAL_DATE_TIME : own_En Z Z.heap "com/example/traversal/traversal/model/BasicType" "LOCAL_DATE_TIME" "Lcom/example/traversal/traversal/model/BasicType;" w_LOCAL_DATE_TIME (12 : Int32)) :
    MetFree l (⟨"com/example/traversal/traversal/model/BasicTypeIsIntegralPinLaw", "pick", "(I)Lcom/example/traversal/traversal/model/BasicType;"⟩ : MethodName) (head1 (Jvm.Cond.code (⟨"com/example/traversal/traversal/model/BasicTypeIsIntegralPinLaw", "pick", "(I)Lcom/example/traversal/traversal/model/BasicType;"⟩ : MethodName) method_2_code 1 (some (.object "com/example/traversal/traversal/model/BasicType")) :: ws) ({ frames := 0, cells := 0, slots := 0, locals := 0 } : Room)) (fun a U => a = #[(.int 9)] ∧ Z.Warmed39 U.vm ∧ U.heap = h0) (fun _ _ _ _ _ => True) (fun _ U o U' => ∃ v L, o = .returned v ∧ own_p_9_Q Z w_STRING w_INTEGER w_LONG w_SHORT w_BYTE w_DOUBLE w_FLOAT w_BIG_DECIMAL w_BIG_INTEGER w_BOOLEAN w_LOCAL_DATE w_LOCAL_TIME w_LOCAL_DATE_TIME h0 n0 v U'.heap L ∧ FrameEnd U o U' L ({ frames := 0, cells := 0, slots := 0, locals := 0 } : Room).cells ({ frames := 0, cells := 0, slots := 0, locals := 0 } : Room).slots) := by
  refine MetFree.of_bodySF (plainFor_of_name own_pn1) hisR ?_
  intro p e s m args below meth c s₁ Bd hml0 hP hK
  obtain ⟨rfl, hZ, hh⟩ := hP
  have hx := Bd.exec
  have hby := Bd.bytes
  have hml : c.maxLocals = 1 := hml0
  have hown : s.vm.findClass "com/example/traversal/traversal/model/BasicTypeIsIntegralPinLaw" = some m.cls := findClass_of_methodNamed Bd.named
  have hnm := (name_of_methodNamed Bd.named Bd.method).1
  have X0 : Stand p l e ({ frames := 0, cells := 0, slots := 0, locals := 0 } : Room) s m #[(.int 9)] below meth c s₁ [] 0 0 := Stand.of_body Bd
  have e0 : s₁.heap = h0 := by rw [← hh, Bd.state]; rfl
  have N0 := Fr.nil n0
  have pre0 : ∀ t, Steps p.tables e below (s₁.setTop (mkF m 0 #[iv 9] [])) t → Steps p.tables e below (s₁.setTop (entryFrame m #[(.int 9)] 1)) t := fun t k => castTop (own_p_9_ef m ) k
  obtain ⟨T1, X1, e1, st1⟩ := getS2 X0 hx hZ hown (host := "") (Or.inl (hw _ (List.mem_of_getElem? (i := 30) rfl))) Via.refl e0 (U_BOOLEAN.1.ext O0.2) (g := (mkF m 89 #[iv 9] [])) rfl (hb hby own_d1_89)
  obtain ⟨fs, hr, hrun, hended, hW, hsame⟩ := X1.leave (v := some (.ref w_BOOLEAN)) (fun h => by rw [Bd.returns] at h; cases h)
  refine ⟨_, _, pre0 _ ?_, hrun, hended, _, _, rfl, ?_, ⟨_, rfl⟩, hW, hsame.mono (by decide) (by decide)⟩
  · show Steps p.tables e below (s₁.setTop (mkF m 0 #[iv 9] [])) _
    refine XS.iloadN X0.here hx rfl (hb hby own_d1_0) rfl ?_
    show Steps p.tables e below (s₁.setTop (mkF m 1 #[iv 9] [(.int 9)])) _
    refine XS.ifYes X0.here hx rfl (pc0 := 1) (pc' := 8) rfl (hb hby own_d1_1) rfl ((if0 _ _).trans (feq (by decide)).2) (by decide) (by decide) ?_
    show Steps p.tables e below (s₁.setTop (mkF m 8 #[iv 9] [])) _
    refine XS.iloadN X0.here hx rfl (hb hby own_d1_8) rfl ?_
    show Steps p.tables e below (s₁.setTop (mkF m 9 #[iv 9] [(.int 9)])) _
    refine XS.iconst X0.here hx rfl (hb hby own_d1_9) ?_
    show Steps p.tables e below (s₁.setTop (mkF m 10 #[iv 9] [(.int 1), (.int 9)])) _
    refine XS.icmpYes X0.here hx rfl (pc0 := 10) (pc' := 17) rfl (hb hby own_d1_10) rfl (feq (by decide)).2 (by decide) (by decide) ?_
    show Steps p.tables e below (s₁.setTop (mkF m 17 #[iv 9] [])) _
    refine XS.iloadN X0.here hx rfl (hb hby own_d1_17) rfl ?_
    show Steps p.tables e below (s₁.setTop (mkF m 18 #[iv 9] [(.int 9)])) _
    refine XS.iconst X0.here hx rfl (hb hby own_d1_18) ?_
    show Steps p.tables e below (s₁.setTop (mkF m 19 #[iv 9] [(.int 2), (.int 9)])) _
    refine XS.icmpYes X0.here hx rfl (pc0 := 19) (pc' := 26) rfl (hb hby own_d1_19) rfl (feq (by decide)).2 (by decide) (by decide) ?_
    show Steps p.tables e below (s₁.setTop (mkF m 26 #[iv 9] [])) _
    refine XS.iloadN X0.here hx rfl (hb hby own_d1_26) rfl ?_
    show Steps p.tables e below (s₁.setTop (mkF m 27 #[iv 9] [(.int 9)])) _
    refine XS.iconst X0.here hx rfl (hb hby own_d1_27) ?_
    show Steps p.tables e below (s₁.setTop (mkF m 28 #[iv 9] [(.int 3), (.int 9)])) _
    refine XS.icmpYes X0.here hx rfl (pc0 := 28) (pc' := 35) rfl (hb hby own_d1_28) rfl (feq (by decide)).2 (by decide) (by decide) ?_
    show Steps p.tables e below (s₁.setTop (mkF m 35 #[iv 9] [])) _
    refine XS.iloadN X0.here hx rfl (hb hby own_d1_35) rfl ?_
    show Steps p.tables e below (s₁.setTop (mkF m 36 #[iv 9] [(.int 9)])) _
    refine XS.iconst X0.here hx rfl (hb hby own_d1_36) ?_
    show Steps p.tables e below (s₁.setTop (mkF m 37 #[iv 9] [(.int 4), (.int 9)])) _
    refine XS.icmpYes X0.here hx rfl (pc0 := 37) (pc' := 44) rfl (hb hby own_d1_37) rfl (feq (by decide)).2 (by decide) (by decide) ?_
    show Steps p.tables e below (s₁.setTop (mkF m 44 #[iv 9] [])) _
    refine XS.iloadN X0.here hx rfl (hb hby own_d1_44) rfl ?_
    show Steps p.tables e below (s₁.setTop (mkF m 45 #[iv 9] [(.int 9)])) _
    refine XS.iconst X0.here hx rfl (hb hby own_d1_45) ?_
    show Steps p.tables e below (s₁.setTop (mkF m 46 #[iv 9] [(.int 5), (.int 9)])) _
    refine XS.icmpYes X0.here hx rfl (pc0 := 46) (pc' := 53) rfl (hb hby own_d1_46) rfl (feq (by decide)).2 (by decide) (by decide) ?_
    show Steps p.tables e below (s₁.setTop (mkF m 53 #[iv 9] [])) _
    refine XS.iloadN X0.here hx rfl (hb hby own_d1_53) rfl ?_
    show Steps p.tables e below (s₁.setTop (mkF m 54 #[iv 9] [(.int 9)])) _
    refine XS.bipush X0.here hx rfl (hb hby own_d1_54) ?_
    show Steps p.tables e below (s₁.setTop (mkF m 56 #[iv 9] [(.int 6), (.int 9)])) _
    refine XS.icmpYes X0.here hx rfl (pc0 := 56) (pc' := 63) rfl (hb hby own_d1_56) rfl (feq (by decide)).2 (by decide) (by decide) ?_
    show Steps p.tables e below (s₁.setTop (mkF m 63 #[iv 9] [])) _
    refine XS.iloadN X0.here hx rfl (hb hby own_d1_63) rfl ?_
    show Steps p.tables e below (s₁.setTop (mkF m 64 #[iv 9] [(.int 9)])) _
    refine XS.bipush X0.here hx rfl (hb hby own_d1_64) ?_
    show Steps p.tables e below (s₁.setTop (mkF m 66 #[iv 9] [(.int 7), (.int 9)])) _
    refine XS.icmpYes X0.here hx rfl (pc0 := 66) (pc' := 73) rfl (hb hby own_d1_66) rfl (feq (by decide)).2 (by decide) (by decide) ?_
    show Steps p.tables e below (s₁.setTop (mkF m 73 #[iv 9] [])) _
    refine XS.iloadN X0.here hx rfl (hb hby own_d1_73) rfl ?_
    show Steps p.tables e below (s₁.setTop (mkF m 74 #[iv 9] [(.int 9)])) _
    refine XS.bipush X0.here hx rfl (hb hby own_d1_74) ?_
    show Steps p.tables e below (s₁.setTop (mkF m 76 #[iv 9] [(.int 8), (.int 9)])) _
    refine XS.icmpYes X0.here hx rfl (pc0 := 76) (pc' := 83) rfl (hb hby own_d1_76) rfl (feq (by decide)).2 (by decide) (by decide) ?_
    show Steps p.tables e below (s₁.setTop (mkF m 83 #[iv 9] [])) _
    refine XS.iloadN X0.here hx rfl (hb hby own_d1_83) rfl ?_
    show Steps p.tables e below (s₁.setTop (mkF m 84 #[iv 9] [(.int 9)])) _
    refine XS.bipush X0.here hx rfl (hb hby own_d1_84) ?_
    show Steps p.tables e below (s₁.setTop (mkF m 86 #[iv 9] [(.int 9), (.int 9)])) _
    refine XS.icmpNo X0.here hx rfl (hb hby own_d1_86) rfl (teq (by decide)).2 ?_
    show Steps p.tables e below (s₁.setTop (mkF m 89 #[iv 9] [])) _
    refine st1 _ ?_
    show Steps p.tables e below (T1.setTop (mkF m 92 #[iv 9] [(.ref w_BOOLEAN)])) _
    jvm_step X1.here [X1.here.top, hx, (hb hby own_d1_92), X1.method', Bd.returns, Value.isRef, FieldType.isReference]
    first | (intro acts; rw [hr _ acts rfl rfl rfl]) | rw [hr _ _ rfl rfl rfl]
    exact Steps.refl _
  · show own_p_9_Q Z w_STRING w_INTEGER w_LONG w_SHORT w_BYTE w_DOUBLE w_FLOAT w_BIG_DECIMAL w_BIG_INTEGER w_BOOLEAN w_LOCAL_DATE w_LOCAL_TIME w_LOCAL_DATE_TIME h0 n0 _ T1.heap _
    rw [e1]
    exact ⟨rfl, N0, rfl⟩
theorem own_p_10_ef (m : MethodId)  : entryFrame m #[(.int 10)] 1 = mkF m 0 #[iv 10] [] := by first | (simp [entryFrame, mkF, argsToLocals, Value.category]; done) | rfl
def own_p_10_Q (Z : State) (w_STRING : Addr) (w_INTEGER : Addr) (w_LONG : Addr) (w_SHORT : Addr) (w_BYTE : Addr) (w_DOUBLE : Addr) (w_FLOAT : Addr) (w_BIG_DECIMAL : Addr) (w_BIG_INTEGER : Addr) (w_BOOLEAN : Addr) (w_LOCAL_DATE : Addr) (w_LOCAL_TIME : Addr) (w_LOCAL_DATE_TIME : Addr) (h0 : Heap) (n0 : Nat) (v : Option Value) (h : Heap) (L : List Loc) : Prop := v = some (.ref w_LOCAL_DATE) ∧ Fr n0 L ∧ h = h0
set_option maxRecDepth 65536 in
set_option maxHeartbeats 40000000 in
theorem own_p_10 (l : Launch) (Z : State) (a0 : Array Value) (hw : ∀ d ∈ tables_1, d.before a0 Z = true) (ws : List Jvm.Cond) (w_STRING : Addr) (w_INTEGER : Addr) (w_LONG : Addr) (w_SHORT : Addr) (w_BYTE : Addr) (w_DOUBLE : Addr) (w_FLOAT : Addr) (w_BIG_DECIMAL : Addr) (w_BIG_INTEGER : Addr) (w_BOOLEAN : Addr) (w_LOCAL_DATE : Addr) (w_LOCAL_TIME : Addr) (w_LOCAL_DATE_TIME : Addr) (h0 : Heap) (n0 : Nat) (O0 : Old Z n0 h0) (U_STRING : own_En Z Z.heap "com/example/traversal/traversal/model/BasicType" "STRING" "Lcom/example/traversal/traversal/model/BasicType;" w_STRING (0 : Int32)) (U_INTEGER : own_En Z Z.heap "com/example/traversal/traversal/model/BasicType" "INTEGER" "Lcom/example/traversal/traversal/model/BasicType;" w_INTEGER (1 : Int32)) (U_LONG : own_En Z Z.heap "com/example/traversal/traversal/model/BasicType" "LONG" "Lcom/example/traversal/traversal/model/BasicType;" w_LONG (2 : Int32)) (U_SHORT : own_En Z Z.heap "com/example/traversal/traversal/model/BasicType" "SHORT" "Lcom/example/traversal/traversal/model/BasicType;" w_SHORT (3 : Int32)) (U_BYTE : own_En Z Z.heap "com/example/traversal/traversal/model/BasicType" "BYTE" "Lcom/example/traversal/traversal/model/BasicType;" w_BYTE (4 : Int32)) (U_DOUBLE : own_En Z Z.heap "com/example/traversal/traversal/model/BasicType" "DOUBLE" "Lcom/example/traversal/traversal/model/BasicType;" w_DOUBLE (5 : Int32)) (U_FLOAT : own_En Z Z.heap "com/example/traversal/traversal/model/BasicType" "FLOAT" "Lcom/example/traversal/traversal/model/BasicType;" w_FLOAT (6 : Int32)) (U_BIG_DECIMAL : own_En Z Z.heap "com/example/traversal/traversal/model/BasicType" "BIG_DECIMAL" "Lcom/example/traversal/traversal/model/BasicType;" w_BIG_DECIMAL (7 : Int32)) (U_BIG_INTEGER : own_En Z Z.heap "com/example/traversal/traversal/model/BasicType" "BIG_INTEGER" "Lcom/example/traversal/traversal/model/BasicType;" w_BIG_INTEGER (8 : Int32)) (U_BOOLEAN : own_En Z Z.heap "com/example/traversal/traversal/model/BasicType" "BOOLEAN" "Lcom/example/traversal/traversal/model/BasicType;" w_BOOLEAN (9 : Int32)) (U_LOCAL_DATE : own_En Z Z.heap "com/example/traversal/traversal/model/BasicType" "LOCAL_DATE" "Lcom/example/traversal/traversal/model/BasicType;" w_LOCAL_DATE (10 : Int32)) (U_LOCAL_TIME : own_En Z Z.heap "com/example/traversal/traversal/model/BasicType" "LOCAL_TIME" "Lcom/example/traversal/traversal/model/BasicType;" w_LOCAL_TIME (11 : Int32)) (U_LOCAL_DATE_TIME : own_En Z Z.heap "com/example/traversal/traversal/model/BasicType" "LOCAL_DATE_TIME" "Lcom/example/traversal/traversal/model/BasicType;" w_LOCAL_DATE_TIME (12 : Int32)) :
    MetFree l (⟨"com/example/traversal/traversal/model/BasicTypeIsIntegralPinLaw", "pick", "(I)Lcom/example/traversal/traversal/model/BasicType;"⟩ : MethodName) (head1 (Jvm.Cond.code (⟨"com/example/traversal/traversal/model/BasicTypeIsIntegralPinLaw", "pick", "(I)Lcom/example/traversal/traversal/model/BasicType;"⟩ : MethodName) method_2_code 1 (some (.object "com/example/traversal/traversal/model/BasicType")) :: ws) ({ frames := 0, cells := 0, slots := 0, locals := 0 } : Room)) (fun a U => a = #[(.int 10)] ∧ Z.Warmed39 U.vm ∧ U.heap = h0) (fun _ _ _ _ _ => True) (fun _ U o U' => ∃ v L, o = .returned v ∧ own_p_10_Q Z w_STRING w_INTEGER w_LONG w_SHORT w_BYTE w_DOUBLE w_FLOAT w_BIG_DECIMAL w_BIG_INTEGER w_BOOLEAN w_LOCAL_DATE w_LOCAL_TIME w_LOCAL_DATE_TIME h0 n0 v U'.heap L ∧ FrameEnd U o U' L ({ frames := 0, cells := 0, slots := 0, locals := 0 } : Room).cells ({ frames := 0, cells := 0, slots := 0, locals := 0 } : Room).slots) := by
  refine MetFree.of_bodySF (plainFor_of_name own_pn1) hisR ?_
  intro p e s m args below meth c s₁ Bd hml0 hP hK
  obtain ⟨rfl, hZ, hh⟩ := hP
  have hx := Bd.exec
  have hby := Bd.bytes
  have hml : c.maxLocals = 1 := hml0
  have hown : s.vm.findClass "com/example/traversal/traversal/model/BasicTypeIsIntegralPinLaw" = some m.cls := findClass_of_methodNamed Bd.named
  have hnm := (name_of_methodNamed Bd.named Bd.method).1
  have X0 : Stand p l e ({ frames := 0, cells := 0, slots := 0, locals := 0 } : Room) s m #[(.int 10)] below meth c s₁ [] 0 0 := Stand.of_body Bd
  have e0 : s₁.heap = h0 := by rw [← hh, Bd.state]; rfl
  have N0 := Fr.nil n0
  have pre0 : ∀ t, Steps p.tables e below (s₁.setTop (mkF m 0 #[iv 10] [])) t → Steps p.tables e below (s₁.setTop (entryFrame m #[(.int 10)] 1)) t := fun t k => castTop (own_p_10_ef m ) k
  obtain ⟨T1, X1, e1, st1⟩ := getS2 X0 hx hZ hown (host := "") (Or.inl (hw _ (List.mem_of_getElem? (i := 37) rfl))) Via.refl e0 (U_LOCAL_DATE.1.ext O0.2) (g := (mkF m 99 #[iv 10] [])) rfl (hb hby own_d1_99)
  obtain ⟨fs, hr, hrun, hended, hW, hsame⟩ := X1.leave (v := some (.ref w_LOCAL_DATE)) (fun h => by rw [Bd.returns] at h; cases h)
  refine ⟨_, _, pre0 _ ?_, hrun, hended, _, _, rfl, ?_, ⟨_, rfl⟩, hW, hsame.mono (by decide) (by decide)⟩
  · show Steps p.tables e below (s₁.setTop (mkF m 0 #[iv 10] [])) _
    refine XS.iloadN X0.here hx rfl (hb hby own_d1_0) rfl ?_
    show Steps p.tables e below (s₁.setTop (mkF m 1 #[iv 10] [(.int 10)])) _
    refine XS.ifYes X0.here hx rfl (pc0 := 1) (pc' := 8) rfl (hb hby own_d1_1) rfl ((if0 _ _).trans (feq (by decide)).2) (by decide) (by decide) ?_
    show Steps p.tables e below (s₁.setTop (mkF m 8 #[iv 10] [])) _
    refine XS.iloadN X0.here hx rfl (hb hby own_d1_8) rfl ?_
    show Steps p.tables e below (s₁.setTop (mkF m 9 #[iv 10] [(.int 10)])) _
    refine XS.iconst X0.here hx rfl (hb hby own_d1_9) ?_
    show Steps p.tables e below (s₁.setTop (mkF m 10 #[iv 10] [(.int 1), (.int 10)])) _
    refine XS.icmpYes X0.here hx rfl (pc0 := 10) (pc' := 17) rfl (hb hby own_d1_10) rfl (feq (by decide)).2 (by decide) (by decide) ?_
    show Steps p.tables e below (s₁.setTop (mkF m 17 #[iv 10] [])) _
    refine XS.iloadN X0.here hx rfl (hb hby own_d1_17) rfl ?_
    show Steps p.tables e below (s₁.setTop (mkF m 18 #[iv 10] [(.int 10)])) _
    refine XS.iconst X0.here hx rfl (hb hby own_d1_18) ?_
    show Steps p.tables e below (s₁.setTop (mkF m 19 #[iv 10] [(.int 2), (.int 10)])) _
    refine XS.icmpYes X0.here hx rfl (pc0 := 19) (pc' := 26) rfl (hb hby own_d1_19) rfl (feq (by decide)).2 (by decide) (by decide) ?_
    show Steps p.tables e below (s₁.setTop (mkF m 26 #[iv 10] [])) _
    refine XS.iloadN X0.here hx rfl (hb hby own_d1_26) rfl ?_
    show Steps p.tables e below (s₁.setTop (mkF m 27 #[iv 10] [(.int 10)])) _
    refine XS.iconst X0.here hx rfl (hb hby own_d1_27) ?_
    show Steps p.tables e below (s₁.setTop (mkF m 28 #[iv 10] [(.int 3), (.int 10)])) _
    refine XS.icmpYes X0.here hx rfl (pc0 := 28) (pc' := 35) rfl (hb hby own_d1_28) rfl (feq (by decide)).2 (by decide) (by decide) ?_
    show Steps p.tables e below (s₁.setTop (mkF m 35 #[iv 10] [])) _
    refine XS.iloadN X0.here hx rfl (hb hby own_d1_35) rfl ?_
    show Steps p.tables e below (s₁.setTop (mkF m 36 #[iv 10] [(.int 10)])) _
    refine XS.iconst X0.here hx rfl (hb hby own_d1_36) ?_
    show Steps p.tables e below (s₁.setTop (mkF m 37 #[iv 10] [(.int 4), (.int 10)])) _
    refine XS.icmpYes X0.here hx rfl (pc0 := 37) (pc' := 44) rfl (hb hby own_d1_37) rfl (feq (by decide)).2 (by decide) (by decide) ?_
    show Steps p.tables e below (s₁.setTop (mkF m 44 #[iv 10] [])) _
    refine XS.iloadN X0.here hx rfl (hb hby own_d1_44) rfl ?_
    show Steps p.tables e below (s₁.setTop (mkF m 45 #[iv 10] [(.int 10)])) _
    refine XS.iconst X0.here hx rfl (hb hby own_d1_45) ?_
    show Steps p.tables e below (s₁.setTop (mkF m 46 #[iv 10] [(.int 5), (.int 10)])) _
    refine XS.icmpYes X0.here hx rfl (pc0 := 46) (pc' := 53) rfl (hb hby own_d1_46) rfl (feq (by decide)).2 (by decide) (by decide) ?_
    show Steps p.tables e below (s₁.setTop (mkF m 53 #[iv 10] [])) _
    refine XS.iloadN X0.here hx rfl (hb hby own_d1_53) rfl ?_
    show Steps p.tables e below (s₁.setTop (mkF m 54 #[iv 10] [(.int 10)])) _
    refine XS.bipush X0.here hx rfl (hb hby own_d1_54) ?_
    show Steps p.tables e below (s₁.setTop (mkF m 56 #[iv 10] [(.int 6), (.int 10)])) _
    refine XS.icmpYes X0.here hx rfl (pc0 := 56) (pc' := 63) rfl (hb hby own_d1_56) rfl (feq (by decide)).2 (by decide) (by decide) ?_
    show Steps p.tables e below (s₁.setTop (mkF m 63 #[iv 10] [])) _
    refine XS.iloadN X0.here hx rfl (hb hby own_d1_63) rfl ?_
    show Steps p.tables e below (s₁.setTop (mkF m 64 #[iv 10] [(.int 10)])) _
    refine XS.bipush X0.here hx rfl (hb hby own_d1_64) ?_
    show Steps p.tables e below (s₁.setTop (mkF m 66 #[iv 10] [(.int 7), (.int 10)])) _
    refine XS.icmpYes X0.here hx rfl (pc0 := 66) (pc' := 73) rfl (hb hby own_d1_66) rfl (feq (by decide)).2 (by decide) (by decide) ?_
    show Steps p.tables e below (s₁.setTop (mkF m 73 #[iv 10] [])) _
    refine XS.iloadN X0.here hx rfl (hb hby own_d1_73) rfl ?_
    show Steps p.tables e below (s₁.setTop (mkF m 74 #[iv 10] [(.int 10)])) _
    refine XS.bipush X0.here hx rfl (hb hby own_d1_74) ?_
    show Steps p.tables e below (s₁.setTop (mkF m 76 #[iv 10] [(.int 8), (.int 10)])) _
    refine XS.icmpYes X0.here hx rfl (pc0 := 76) (pc' := 83) rfl (hb hby own_d1_76) rfl (feq (by decide)).2 (by decide) (by decide) ?_
    show Steps p.tables e below (s₁.setTop (mkF m 83 #[iv 10] [])) _
    refine XS.iloadN X0.here hx rfl (hb hby own_d1_83) rfl ?_
    show Steps p.tables e below (s₁.setTop (mkF m 84 #[iv 10] [(.int 10)])) _
    refine XS.bipush X0.here hx rfl (hb hby own_d1_84) ?_
    show Steps p.tables e below (s₁.setTop (mkF m 86 #[iv 10] [(.int 9), (.int 10)])) _
    refine XS.icmpYes X0.here hx rfl (pc0 := 86) (pc' := 93) rfl (hb hby own_d1_86) rfl (feq (by decide)).2 (by decide) (by decide) ?_
    show Steps p.tables e below (s₁.setTop (mkF m 93 #[iv 10] [])) _
    refine XS.iloadN X0.here hx rfl (hb hby own_d1_93) rfl ?_
    show Steps p.tables e below (s₁.setTop (mkF m 94 #[iv 10] [(.int 10)])) _
    refine XS.bipush X0.here hx rfl (hb hby own_d1_94) ?_
    show Steps p.tables e below (s₁.setTop (mkF m 96 #[iv 10] [(.int 10), (.int 10)])) _
    refine XS.icmpNo X0.here hx rfl (hb hby own_d1_96) rfl (teq (by decide)).2 ?_
    show Steps p.tables e below (s₁.setTop (mkF m 99 #[iv 10] [])) _
    refine st1 _ ?_
    show Steps p.tables e below (T1.setTop (mkF m 102 #[iv 10] [(.ref w_LOCAL_DATE)])) _
    jvm_step X1.here [X1.here.top, hx, (hb hby own_d1_102), X1.method', Bd.returns, Value.isRef, FieldType.isReference]
    first | (intro acts; rw [hr _ acts rfl rfl rfl]) | rw [hr _ _ rfl rfl rfl]
    exact Steps.refl _
  · show own_p_10_Q Z w_STRING w_INTEGER w_LONG w_SHORT w_BYTE w_DOUBLE w_FLOAT w_BIG_DECIMAL w_BIG_INTEGER w_BOOLEAN w_LOCAL_DATE w_LOCAL_TIME w_LOCAL_DATE_TIME h0 n0 _ T1.heap _
    rw [e1]
    exact ⟨rfl, N0, rfl⟩
theorem own_p_11_ef (m : MethodId)  : entryFrame m #[(.int 11)] 1 = mkF m 0 #[iv 11] [] := by first | (simp [entryFrame, mkF, argsToLocals, Value.category]; done) | rfl
def own_p_11_Q (Z : State) (w_STRING : Addr) (w_INTEGER : Addr) (w_LONG : Addr) (w_SHORT : Addr) (w_BYTE : Addr) (w_DOUBLE : Addr) (w_FLOAT : Addr) (w_BIG_DECIMAL : Addr) (w_BIG_INTEGER : Addr) (w_BOOLEAN : Addr) (w_LOCAL_DATE : Addr) (w_LOCAL_TIME : Addr) (w_LOCAL_DATE_TIME : Addr) (h0 : Heap) (n0 : Nat) (v : Option Value) (h : Heap) (L : List Loc) : Prop := v = some (.ref w_LOCAL_TIME) ∧ Fr n0 L ∧ h = h0
set_option maxRecDepth 65536 in
set_option maxHeartbeats 40000000 in
theorem own_p_11 (l : Launch) (Z : State) (a0 : Array Value) (hw : ∀ d ∈ tables_1, d.before a0 Z = true) (ws : List Jvm.Cond) (w_STRING : Addr) (w_INTEGER : Addr) (w_LONG : Addr) (w_SHORT : Addr) (w_BYTE : Addr) (w_DOUBLE : Addr) (w_FLOAT : Addr) (w_BIG_DECIMAL : Addr) (w_BIG_INTEGER : Addr) (w_BOOLEAN : Addr) (w_LOCAL_DATE : Addr) (w_LOCAL_TIME : Addr) (w_LOCAL_DATE_TIME : Addr) (h0 : Heap) (n0 : Nat) (O0 : Old Z n0 h0) (U_STRING : own_En Z Z.heap "com/example/traversal/traversal/model/BasicType" "STRING" "Lcom/example/traversal/traversal/model/BasicType;" w_STRING (0 : Int32)) (U_INTEGER : own_En Z Z.heap "com/example/traversal/traversal/model/BasicType" "INTEGER" "Lcom/example/traversal/traversal/model/BasicType;" w_INTEGER (1 : Int32)) (U_LONG : own_En Z Z.heap "com/example/traversal/traversal/model/BasicType" "LONG" "Lcom/example/traversal/traversal/model/BasicType;" w_LONG (2 : Int32)) (U_SHORT : own_En Z Z.heap "com/example/traversal/traversal/model/BasicType" "SHORT" "Lcom/example/traversal/traversal/model/BasicType;" w_SHORT (3 : Int32)) (U_BYTE : own_En Z Z.heap "com/example/traversal/traversal/model/BasicType" "BYTE" "Lcom/example/traversal/traversal/model/BasicType;" w_BYTE (4 : Int32)) (U_DOUBLE : own_En Z Z.heap "com/example/traversal/traversal/model/BasicType" "DOUBLE" "Lcom/example/traversal/traversal/model/BasicType;" w_DOUBLE (5 : Int32)) (U_FLOAT : own_En Z Z.heap "com/example/traversal/traversal/model/BasicType" "FLOAT" "Lcom/example/traversal/traversal/model/BasicType;" w_FLOAT (6 : Int32)) (U_BIG_DECIMAL : own_En Z Z.heap "com/example/traversal/traversal/model/BasicType" "BIG_DECIMAL" "Lcom/example/traversal/traversal/model/BasicType;" w_BIG_DECIMAL (7 : Int32)) (U_BIG_INTEGER : own_En Z Z.heap "com/example/traversal/traversal/model/BasicType" "BIG_INTEGER" "Lcom/example/traversal/traversal/model/BasicType;" w_BIG_INTEGER (8 : Int32)) (U_BOOLEAN : own_En Z Z.heap "com/example/traversal/traversal/model/BasicType" "BOOLEAN" "Lcom/example/traversal/traversal/model/BasicType;" w_BOOLEAN (9 : Int32)) (U_LOCAL_DATE : own_En Z Z.heap "com/example/traversal/traversal/model/BasicType" "LOCAL_DATE" "Lcom/example/traversal/traversal/model/BasicType;" w_LOCAL_DATE (10 : Int32)) (U_LOCAL_TIME : own_En Z Z.heap "com/example/traversal/traversal/model/BasicType" "LOCAL_TIME" "Lcom/example/traversal/traversal/model/BasicType;" w_LOCAL_TIME (11 : Int32)) (U_LOCAL_DATE_TIME : own_En Z Z.heap "com/example/traversal/traversal/model/BasicType" "LOCAL_DATE_TIME" "Lcom/example/traversal/traversal/model/BasicType;" w_LOCAL_DATE_TIME (12 : Int32)) :
    MetFree l (⟨"com/example/traversal/traversal/model/BasicTypeIsIntegralPinLaw", "pick", "(I)Lcom/example/traversal/traversal/model/BasicType;"⟩ : MethodName) (head1 (Jvm.Cond.code (⟨"com/example/traversal/traversal/model/BasicTypeIsIntegralPinLaw", "pick", "(I)Lcom/example/traversal/traversal/model/BasicType;"⟩ : MethodName) method_2_code 1 (some (.object "com/example/traversal/traversal/model/BasicType")) :: ws) ({ frames := 0, cells := 0, slots := 0, locals := 0 } : Room)) (fun a U => a = #[(.int 11)] ∧ Z.Warmed39 U.vm ∧ U.heap = h0) (fun _ _ _ _ _ => True) (fun _ U o U' => ∃ v L, o = .returned v ∧ own_p_11_Q Z w_STRING w_INTEGER w_LONG w_SHORT w_BYTE w_DOUBLE w_FLOAT w_BIG_DECIMAL w_BIG_INTEGER w_BOOLEAN w_LOCAL_DATE w_LOCAL_TIME w_LOCAL_DATE_TIME h0 n0 v U'.heap L ∧ FrameEnd U o U' L ({ frames := 0, cells := 0, slots := 0, locals := 0 } : Room).cells ({ frames := 0, cells := 0, slots := 0, locals := 0 } : Room).slots) := by
  refine MetFree.of_bodySF (plainFor_of_name own_pn1) hisR ?_
  intro p e s m args below meth c s₁ Bd hml0 hP hK
  obtain ⟨rfl, hZ, hh⟩ := hP
  have hx := Bd.exec
  have hby := Bd.bytes
  have hml : c.maxLocals = 1 := hml0
  have hown : s.vm.findClass "com/example/traversal/traversal/model/BasicTypeIsIntegralPinLaw" = some m.cls := findClass_of_methodNamed Bd.named
  have hnm := (name_of_methodNamed Bd.named Bd.method).1
  have X0 : Stand p l e ({ frames := 0, cells := 0, slots := 0, locals := 0 } : Room) s m #[(.int 11)] below meth c s₁ [] 0 0 := Stand.of_body Bd
  have e0 : s₁.heap = h0 := by rw [← hh, Bd.state]; rfl
  have N0 := Fr.nil n0
  have pre0 : ∀ t, Steps p.tables e below (s₁.setTop (mkF m 0 #[iv 11] [])) t → Steps p.tables e below (s₁.setTop (entryFrame m #[(.int 11)] 1)) t := fun t k => castTop (own_p_11_ef m ) k
  obtain ⟨T1, X1, e1, st1⟩ := getS2 X0 hx hZ hown (host := "") (Or.inl (hw _ (List.mem_of_getElem? (i := 33) rfl))) Via.refl e0 (U_LOCAL_TIME.1.ext O0.2) (g := (mkF m 109 #[iv 11] [])) rfl (hb hby own_d1_109)
  obtain ⟨fs, hr, hrun, hended, hW, hsame⟩ := X1.leave (v := some (.ref w_LOCAL_TIME)) (fun h => by rw [Bd.returns] at h; cases h)
  refine ⟨_, _, pre0 _ ?_, hrun, hended, _, _, rfl, ?_, ⟨_, rfl⟩, hW, hsame.mono (by decide) (by decide)⟩
  · show Steps p.tables e below (s₁.setTop (mkF m 0 #[iv 11] [])) _
    refine XS.iloadN X0.here hx rfl (hb hby own_d1_0) rfl ?_
    show Steps p.tables e below (s₁.setTop (mkF m 1 #[iv 11] [(.int 11)])) _
    refine XS.ifYes X0.here hx rfl (pc0 := 1) (pc' := 8) rfl (hb hby own_d1_1) rfl ((if0 _ _).trans (feq (by decide)).2) (by decide) (by decide) ?_
    show Steps p.tables e below (s₁.setTop (mkF m 8 #[iv 11] [])) _
    refine XS.iloadN X0.here hx rfl (hb hby own_d1_8) rfl ?_
    show Steps p.tables e below (s₁.setTop (mkF m 9 #[iv 11] [(.int 11)])) _
    refine XS.iconst X0.here hx rfl (hb hby own_d1_9) ?_
    show Steps p.tables e below (s₁.setTop (mkF m 10 #[iv 11] [(.int 1), (.int 11)])) _
    refine XS.icmpYes X0.here hx rfl (pc0 := 10) (pc' := 17) rfl (hb hby own_d1_10) rfl (feq (by decide)).2 (by decide) (by decide) ?_
    show Steps p.tables e below (s₁.setTop (mkF m 17 #[iv 11] [])) _
    refine XS.iloadN X0.here hx rfl (hb hby own_d1_17) rfl ?_
    show Steps p.tables e below (s₁.setTop (mkF m 18 #[iv 11] [(.int 11)])) _
    refine XS.iconst X0.here hx rfl (hb hby own_d1_18) ?_
    show Steps p.tables e below (s₁.setTop (mkF m 19 #[iv 11] [(.int 2), (.int 11)])) _
    refine XS.icmpYes X0.here hx rfl (pc0 := 19) (pc' := 26) rfl (hb hby own_d1_19) rfl (feq (by decide)).2 (by decide) (by decide) ?_
    show Steps p.tables e below (s₁.setTop (mkF m 26 #[iv 11] [])) _
    refine XS.iloadN X0.here hx rfl (hb hby own_d1_26) rfl ?_
    show Steps p.tables e below (s₁.setTop (mkF m 27 #[iv 11] [(.int 11)])) _
    refine XS.iconst X0.here hx rfl (hb hby own_d1_27) ?_
    show Steps p.tables e below (s₁.setTop (mkF m 28 #[iv 11] [(.int 3), (.int 11)])) _
    refine XS.icmpYes X0.here hx rfl (pc0 := 28) (pc' := 35) rfl (hb hby own_d1_28) rfl (feq (by decide)).2 (by decide) (by decide) ?_
    show Steps p.tables e below (s₁.setTop (mkF m 35 #[iv 11] [])) _
    refine XS.iloadN X0.here hx rfl (hb hby own_d1_35) rfl ?_
    show Steps p.tables e below (s₁.setTop (mkF m 36 #[iv 11] [(.int 11)])) _
    refine XS.iconst X0.here hx rfl (hb hby own_d1_36) ?_
    show Steps p.tables e below (s₁.setTop (mkF m 37 #[iv 11] [(.int 4), (.int 11)])) _
    refine XS.icmpYes X0.here hx rfl (pc0 := 37) (pc' := 44) rfl (hb hby own_d1_37) rfl (feq (by decide)).2 (by decide) (by decide) ?_
    show Steps p.tables e below (s₁.setTop (mkF m 44 #[iv 11] [])) _
    refine XS.iloadN X0.here hx rfl (hb hby own_d1_44) rfl ?_
    show Steps p.tables e below (s₁.setTop (mkF m 45 #[iv 11] [(.int 11)])) _
    refine XS.iconst X0.here hx rfl (hb hby own_d1_45) ?_
    show Steps p.tables e below (s₁.setTop (mkF m 46 #[iv 11] [(.int 5), (.int 11)])) _
    refine XS.icmpYes X0.here hx rfl (pc0 := 46) (pc' := 53) rfl (hb hby own_d1_46) rfl (feq (by decide)).2 (by decide) (by decide) ?_
    show Steps p.tables e below (s₁.setTop (mkF m 53 #[iv 11] [])) _
    refine XS.iloadN X0.here hx rfl (hb hby own_d1_53) rfl ?_
    show Steps p.tables e below (s₁.setTop (mkF m 54 #[iv 11] [(.int 11)])) _
    refine XS.bipush X0.here hx rfl (hb hby own_d1_54) ?_
    show Steps p.tables e below (s₁.setTop (mkF m 56 #[iv 11] [(.int 6), (.int 11)])) _
    refine XS.icmpYes X0.here hx rfl (pc0 := 56) (pc' := 63) rfl (hb hby own_d1_56) rfl (feq (by decide)).2 (by decide) (by decide) ?_
    show Steps p.tables e below (s₁.setTop (mkF m 63 #[iv 11] [])) _
    refine XS.iloadN X0.here hx rfl (hb hby own_d1_63) rfl ?_
    show Steps p.tables e below (s₁.setTop (mkF m 64 #[iv 11] [(.int 11)])) _
    refine XS.bipush X0.here hx rfl (hb hby own_d1_64) ?_
    show Steps p.tables e below (s₁.setTop (mkF m 66 #[iv 11] [(.int 7), (.int 11)])) _
    refine XS.icmpYes X0.here hx rfl (pc0 := 66) (pc' := 73) rfl (hb hby own_d1_66) rfl (feq (by decide)).2 (by decide) (by decide) ?_
    show Steps p.tables e below (s₁.setTop (mkF m 73 #[iv 11] [])) _
    refine XS.iloadN X0.here hx rfl (hb hby own_d1_73) rfl ?_
    show Steps p.tables e below (s₁.setTop (mkF m 74 #[iv 11] [(.int 11)])) _
    refine XS.bipush X0.here hx rfl (hb hby own_d1_74) ?_
    show Steps p.tables e below (s₁.setTop (mkF m 76 #[iv 11] [(.int 8), (.int 11)])) _
    refine XS.icmpYes X0.here hx rfl (pc0 := 76) (pc' := 83) rfl (hb hby own_d1_76) rfl (feq (by decide)).2 (by decide) (by decide) ?_
    show Steps p.tables e below (s₁.setTop (mkF m 83 #[iv 11] [])) _
    refine XS.iloadN X0.here hx rfl (hb hby own_d1_83) rfl ?_
    show Steps p.tables e below (s₁.setTop (mkF m 84 #[iv 11] [(.int 11)])) _
    refine XS.bipush X0.here hx rfl (hb hby own_d1_84) ?_
    show Steps p.tables e below (s₁.setTop (mkF m 86 #[iv 11] [(.int 9), (.int 11)])) _
    refine XS.icmpYes X0.here hx rfl (pc0 := 86) (pc' := 93) rfl (hb hby own_d1_86) rfl (feq (by decide)).2 (by decide) (by decide) ?_
    show Steps p.tables e below (s₁.setTop (mkF m 93 #[iv 11] [])) _
    refine XS.iloadN X0.here hx rfl (hb hby own_d1_93) rfl ?_
    show Steps p.tables e below (s₁.setTop (mkF m 94 #[iv 11] [(.int 11)])) _
    refine XS.bipush X0.here hx rfl (hb hby own_d1_94) ?_
    show Steps p.tables e below (s₁.setTop (mkF m 96 #[iv 11] [(.int 10), (.int 11)])) _
    refine XS.icmpYes X0.here hx rfl (pc0 := 96) (pc' := 103) rfl (hb hby own_d1_96) rfl (feq (by decide)).2 (by decide) (by decide) ?_
    show Steps p.tables e below (s₁.setTop (mkF m 103 #[iv 11] [])) _
    refine XS.iloadN X0.here hx rfl (hb hby own_d1_103) rfl ?_
    show Steps p.tables e below (s₁.setTop (mkF m 104 #[iv 11] [(.int 11)])) _
    refine XS.bipush X0.here hx rfl (hb hby own_d1_104) ?_
    show Steps p.tables e below (s₁.setTop (mkF m 106 #[iv 11] [(.int 11), (.int 11)])) _
    refine XS.icmpNo X0.here hx rfl (hb hby own_d1_106) rfl (teq (by decide)).2 ?_
    show Steps p.tables e below (s₁.setTop (mkF m 109 #[iv 11] [])) _
    refine st1 _ ?_
    show Steps p.tables e below (T1.setTop (mkF m 112 #[iv 11] [(.ref w_LOCAL_TIME)])) _
    jvm_step X1.here [X1.here.top, hx, (hb hby own_d1_112), X1.method', Bd.returns, Value.isRef, FieldType.isReference]
    first | (intro acts; rw [hr _ acts rfl rfl rfl]) | rw [hr _ _ rfl rfl rfl]
    exact Steps.refl _
  · show own_p_11_Q Z w_STRING w_INTEGER w_LONG w_SHORT w_BYTE w_DOUBLE w_FLOAT w_BIG_DECIMAL w_BIG_INTEGER w_BOOLEAN w_LOCAL_DATE w_LOCAL_TIME w_LOCAL_DATE_TIME h0 n0 _ T1.heap _
    rw [e1]
    exact ⟨rfl, N0, rfl⟩
theorem own_p_12_ef (m : MethodId)  : entryFrame m #[(.int 12)] 1 = mkF m 0 #[iv 12] [] := by first | (simp [entryFrame, mkF, argsToLocals, Value.category]; done) | rfl
def own_p_12_Q (Z : State) (w_STRING : Addr) (w_INTEGER : Addr) (w_LONG : Addr) (w_SHORT : Addr) (w_BYTE : Addr) (w_DOUBLE : Addr) (w_FLOAT : Addr) (w_BIG_DECIMAL : Addr) (w_BIG_INTEGER : Addr) (w_BOOLEAN : Addr) (w_LOCAL_DATE : Addr) (w_LOCAL_TIME : Addr) (w_LOCAL_DATE_TIME : Addr) (h0 : Heap) (n0 : Nat) (v : Option Value) (h : Heap) (L : List Loc) : Prop := v = some (.ref w_LOCAL_DATE_TIME) ∧ Fr n0 L ∧ h = h0
set_option maxRecDepth 65536 in
set_option maxHeartbeats 40000000 in
theorem own_p_12 (l : Launch) (Z : State) (a0 : Array Value) (hw : ∀ d ∈ tables_1, d.before a0 Z = true) (ws : List Jvm.Cond) (w_STRING : Addr) (w_INTEGER : Addr) (w_LONG : Addr) (w_SHORT : Addr) (w_BYTE : Addr) (w_DOUBLE : Addr) (w_FLOAT : Addr) (w_BIG_DECIMAL : Addr) (w_BIG_INTEGER : Addr) (w_BOOLEAN : Addr) (w_LOCAL_DATE : Addr) (w_LOCAL_TIME : Addr) (w_LOCAL_DATE_TIME : Addr) (h0 : Heap) (n0 : Nat) (O0 : Old Z n0 h0) (U_STRING : own_En Z Z.heap "com/example/traversal/traversal/model/BasicType" "STRING" "Lcom/example/traversal/traversal/model/BasicType;" w_STRING (0 : Int32)) (U_INTEGER : own_En Z Z.heap "com/example/traversal/traversal/model/BasicType" "INTEGER" "Lcom/example/traversal/traversal/model/BasicType;" w_INTEGER (1 : Int32)) (U_LONG : own_En Z Z.heap "com/example/traversal/traversal/model/BasicType" "LONG" "Lcom/example/traversal/traversal/model/BasicType;" w_LONG (2 : Int32)) (U_SHORT : own_En Z Z.heap "com/example/traversal/traversal/model/BasicType" "SHORT" "Lcom/example/traversal/traversal/model/BasicType;" w_SHORT (3 : Int32)) (U_BYTE : own_En Z Z.heap "com/example/traversal/traversal/model/BasicType" "BYTE" "Lcom/example/traversal/traversal/model/BasicType;" w_BYTE (4 : Int32)) (U_DOUBLE : own_En Z Z.heap "com/example/traversal/traversal/model/BasicType" "DOUBLE" "Lcom/example/traversal/traversal/model/BasicType;" w_DOUBLE (5 : Int32)) (U_FLOAT : own_En Z Z.heap "com/example/traversal/traversal/model/BasicType" "FLOAT" "Lcom/example/traversal/traversal/model/BasicType;" w_FLOAT (6 : Int32)) (U_BIG_DECIMAL : own_En Z Z.heap "com/example/traversal/traversal/model/BasicType" "BIG_DECIMAL" "Lcom/example/traversal/traversal/model/BasicType;" w_BIG_DECIMAL (7 : Int32)) (U_BIG_INTEGER : own_En Z Z.heap "com/example/traversal/traversal/model/BasicType" "BIG_INTEGER" "Lcom/example/traversal/traversal/model/BasicType;" w_BIG_INTEGER (8 : Int32)) (U_BOOLEAN : own_En Z Z.heap "com/example/traversal/traversal/model/BasicType" "BOOLEAN" "Lcom/example/traversal/traversal/model/BasicType;" w_BOOLEAN (9 : Int32)) (U_LOCAL_DATE : own_En Z Z.heap "com/example/traversal/traversal/model/BasicType" "LOCAL_DATE" "Lcom/example/traversal/traversal/model/BasicType;" w_LOCAL_DATE (10 : Int32)) (U_LOCAL_TIME : own_En Z Z.heap "com/example/traversal/traversal/model/BasicType" "LOCAL_TIME" "Lcom/example/traversal/traversal/model/BasicType;" w_LOCAL_TIME (11 : Int32)) (U_LOCAL_DATE_TIME : own_En Z Z.heap "com/example/traversal/traversal/model/BasicType" "LOCAL_DATE_TIME" "Lcom/example/traversal/traversal/model/BasicType;" w_LOCAL_DATE_TIME (12 : Int32)) :
    MetFree l (⟨"com/example/traversal/traversal/model/BasicTypeIsIntegralPinLaw", "pick", "(I)Lcom/example/traversal/traversal/model/BasicType;"⟩ : MethodName) (head1 (Jvm.Cond.code (⟨"com/example/traversal/traversal/model/BasicTypeIsIntegralPinLaw", "pick", "(I)Lcom/example/traversal/traversal/model/BasicType;"⟩ : MethodName) method_2_code 1 (some (.object "com/example/traversal/traversal/model/BasicType")) :: ws) ({ frames := 0, cells := 0, slots := 0, locals := 0 } : Room)) (fun a U => a = #[(.int 12)] ∧ Z.Warmed39 U.vm ∧ U.heap = h0) (fun _ _ _ _ _ => True) (fun _ U o U' => ∃ v L, o = .returned v ∧ own_p_12_Q Z w_STRING w_INTEGER w_LONG w_SHORT w_BYTE w_DOUBLE w_FLOAT w_BIG_DECIMAL w_BIG_INTEGER w_BOOLEAN w_LOCAL_DATE w_LOCAL_TIME w_LOCAL_DATE_TIME h0 n0 v U'.heap L ∧ FrameEnd U o U' L ({ frames := 0, cells := 0, slots := 0, locals := 0 } : Room).cells ({ frames := 0, cells := 0, slots := 0, locals := 0 } : Room).slots) := by
  refine MetFree.of_bodySF (plainFor_of_name own_pn1) hisR ?_
  intro p e s m args below meth c s₁ Bd hml0 hP hK
  obtain ⟨rfl, hZ, hh⟩ := hP
  have hx := Bd.exec
  have hby := Bd.bytes
  have hml : c.maxLocals = 1 := hml0
  have hown : s.vm.findClass "com/example/traversal/traversal/model/BasicTypeIsIntegralPinLaw" = some m.cls := findClass_of_methodNamed Bd.named
  have hnm := (name_of_methodNamed Bd.named Bd.method).1
  have X0 : Stand p l e ({ frames := 0, cells := 0, slots := 0, locals := 0 } : Room) s m #[(.int 12)] below meth c s₁ [] 0 0 := Stand.of_body Bd
  have e0 : s₁.heap = h0 := by rw [← hh, Bd.state]; rfl
  have N0 := Fr.nil n0
  have pre0 : ∀ t, Steps p.tables e below (s₁.setTop (mkF m 0 #[iv 12] [])) t → Steps p.tables e below (s₁.setTop (entryFrame m #[(.int 12)] 1)) t := fun t k => castTop (own_p_12_ef m ) k
  obtain ⟨T1, X1, e1, st1⟩ := getS2 X0 hx hZ hown (host := "") (Or.inl (hw _ (List.mem_of_getElem? (i := 39) rfl))) Via.refl e0 (U_LOCAL_DATE_TIME.1.ext O0.2) (g := (mkF m 113 #[iv 12] [])) rfl (hb hby own_d1_113)
  obtain ⟨fs, hr, hrun, hended, hW, hsame⟩ := X1.leave (v := some (.ref w_LOCAL_DATE_TIME)) (fun h => by rw [Bd.returns] at h; cases h)
  refine ⟨_, _, pre0 _ ?_, hrun, hended, _, _, rfl, ?_, ⟨_, rfl⟩, hW, hsame.mono (by decide) (by decide)⟩
  · show Steps p.tables e below (s₁.setTop (mkF m 0 #[iv 12] [])) _
    refine XS.iloadN X0.here hx rfl (hb hby own_d1_0) rfl ?_
    show Steps p.tables e below (s₁.setTop (mkF m 1 #[iv 12] [(.int 12)])) _
    refine XS.ifYes X0.here hx rfl (pc0 := 1) (pc' := 8) rfl (hb hby own_d1_1) rfl ((if0 _ _).trans (feq (by decide)).2) (by decide) (by decide) ?_
    show Steps p.tables e below (s₁.setTop (mkF m 8 #[iv 12] [])) _
    refine XS.iloadN X0.here hx rfl (hb hby own_d1_8) rfl ?_
    show Steps p.tables e below (s₁.setTop (mkF m 9 #[iv 12] [(.int 12)])) _
    refine XS.iconst X0.here hx rfl (hb hby own_d1_9) ?_
    show Steps p.tables e below (s₁.setTop (mkF m 10 #[iv 12] [(.int 1), (.int 12)])) _
    refine XS.icmpYes X0.here hx rfl (pc0 := 10) (pc' := 17) rfl (hb hby own_d1_10) rfl (feq (by decide)).2 (by decide) (by decide) ?_
    show Steps p.tables e below (s₁.setTop (mkF m 17 #[iv 12] [])) _
    refine XS.iloadN X0.here hx rfl (hb hby own_d1_17) rfl ?_
    show Steps p.tables e below (s₁.setTop (mkF m 18 #[iv 12] [(.int 12)])) _
    refine XS.iconst X0.here hx rfl (hb hby own_d1_18) ?_
    show Steps p.tables e below (s₁.setTop (mkF m 19 #[iv 12] [(.int 2), (.int 12)])) _
    refine XS.icmpYes X0.here hx rfl (pc0 := 19) (pc' := 26) rfl (hb hby own_d1_19) rfl (feq (by decide)).2 (by decide) (by decide) ?_
    show Steps p.tables e below (s₁.setTop (mkF m 26 #[iv 12] [])) _
    refine XS.iloadN X0.here hx rfl (hb hby own_d1_26) rfl ?_
    show Steps p.tables e below (s₁.setTop (mkF m 27 #[iv 12] [(.int 12)])) _
    refine XS.iconst X0.here hx rfl (hb hby own_d1_27) ?_
    show Steps p.tables e below (s₁.setTop (mkF m 28 #[iv 12] [(.int 3), (.int 12)])) _
    refine XS.icmpYes X0.here hx rfl (pc0 := 28) (pc' := 35) rfl (hb hby own_d1_28) rfl (feq (by decide)).2 (by decide) (by decide) ?_
    show Steps p.tables e below (s₁.setTop (mkF m 35 #[iv 12] [])) _
    refine XS.iloadN X0.here hx rfl (hb hby own_d1_35) rfl ?_
    show Steps p.tables e below (s₁.setTop (mkF m 36 #[iv 12] [(.int 12)])) _
    refine XS.iconst X0.here hx rfl (hb hby own_d1_36) ?_
    show Steps p.tables e below (s₁.setTop (mkF m 37 #[iv 12] [(.int 4), (.int 12)])) _
    refine XS.icmpYes X0.here hx rfl (pc0 := 37) (pc' := 44) rfl (hb hby own_d1_37) rfl (feq (by decide)).2 (by decide) (by decide) ?_
    show Steps p.tables e below (s₁.setTop (mkF m 44 #[iv 12] [])) _
    refine XS.iloadN X0.here hx rfl (hb hby own_d1_44) rfl ?_
    show Steps p.tables e below (s₁.setTop (mkF m 45 #[iv 12] [(.int 12)])) _
    refine XS.iconst X0.here hx rfl (hb hby own_d1_45) ?_
    show Steps p.tables e below (s₁.setTop (mkF m 46 #[iv 12] [(.int 5), (.int 12)])) _
    refine XS.icmpYes X0.here hx rfl (pc0 := 46) (pc' := 53) rfl (hb hby own_d1_46) rfl (feq (by decide)).2 (by decide) (by decide) ?_
    show Steps p.tables e below (s₁.setTop (mkF m 53 #[iv 12] [])) _
    refine XS.iloadN X0.here hx rfl (hb hby own_d1_53) rfl ?_
    show Steps p.tables e below (s₁.setTop (mkF m 54 #[iv 12] [(.int 12)])) _
    refine XS.bipush X0.here hx rfl (hb hby own_d1_54) ?_
    show Steps p.tables e below (s₁.setTop (mkF m 56 #[iv 12] [(.int 6), (.int 12)])) _
    refine XS.icmpYes X0.here hx rfl (pc0 := 56) (pc' := 63) rfl (hb hby own_d1_56) rfl (feq (by decide)).2 (by decide) (by decide) ?_
    show Steps p.tables e below (s₁.setTop (mkF m 63 #[iv 12] [])) _
    refine XS.iloadN X0.here hx rfl (hb hby own_d1_63) rfl ?_
    show Steps p.tables e below (s₁.setTop (mkF m 64 #[iv 12] [(.int 12)])) _
    refine XS.bipush X0.here hx rfl (hb hby own_d1_64) ?_
    show Steps p.tables e below (s₁.setTop (mkF m 66 #[iv 12] [(.int 7), (.int 12)])) _
    refine XS.icmpYes X0.here hx rfl (pc0 := 66) (pc' := 73) rfl (hb hby own_d1_66) rfl (feq (by decide)).2 (by decide) (by decide) ?_
    show Steps p.tables e below (s₁.setTop (mkF m 73 #[iv 12] [])) _
    refine XS.iloadN X0.here hx rfl (hb hby own_d1_73) rfl ?_
    show Steps p.tables e below (s₁.setTop (mkF m 74 #[iv 12] [(.int 12)])) _
    refine XS.bipush X0.here hx rfl (hb hby own_d1_74) ?_
    show Steps p.tables e below (s₁.setTop (mkF m 76 #[iv 12] [(.int 8), (.int 12)])) _
    refine XS.icmpYes X0.here hx rfl (pc0 := 76) (pc' := 83) rfl (hb hby own_d1_76) rfl (feq (by decide)).2 (by decide) (by decide) ?_
    show Steps p.tables e below (s₁.setTop (mkF m 83 #[iv 12] [])) _
    refine XS.iloadN X0.here hx rfl (hb hby own_d1_83) rfl ?_
    show Steps p.tables e below (s₁.setTop (mkF m 84 #[iv 12] [(.int 12)])) _
    refine XS.bipush X0.here hx rfl (hb hby own_d1_84) ?_
    show Steps p.tables e below (s₁.setTop (mkF m 86 #[iv 12] [(.int 9), (.int 12)])) _
    refine XS.icmpYes X0.here hx rfl (pc0 := 86) (pc' := 93) rfl (hb hby own_d1_86) rfl (feq (by decide)).2 (by decide) (by decide) ?_
    show Steps p.tables e below (s₁.setTop (mkF m 93 #[iv 12] [])) _
    refine XS.iloadN X0.here hx rfl (hb hby own_d1_93) rfl ?_
    show Steps p.tables e below (s₁.setTop (mkF m 94 #[iv 12] [(.int 12)])) _
    refine XS.bipush X0.here hx rfl (hb hby own_d1_94) ?_
    show Steps p.tables e below (s₁.setTop (mkF m 96 #[iv 12] [(.int 10), (.int 12)])) _
    refine XS.icmpYes X0.here hx rfl (pc0 := 96) (pc' := 103) rfl (hb hby own_d1_96) rfl (feq (by decide)).2 (by decide) (by decide) ?_
    show Steps p.tables e below (s₁.setTop (mkF m 103 #[iv 12] [])) _
    refine XS.iloadN X0.here hx rfl (hb hby own_d1_103) rfl ?_
    show Steps p.tables e below (s₁.setTop (mkF m 104 #[iv 12] [(.int 12)])) _
    refine XS.bipush X0.here hx rfl (hb hby own_d1_104) ?_
    show Steps p.tables e below (s₁.setTop (mkF m 106 #[iv 12] [(.int 11), (.int 12)])) _
    refine XS.icmpYes X0.here hx rfl (pc0 := 106) (pc' := 113) rfl (hb hby own_d1_106) rfl (feq (by decide)).2 (by decide) (by decide) ?_
    show Steps p.tables e below (s₁.setTop (mkF m 113 #[iv 12] [])) _
    refine st1 _ ?_
    show Steps p.tables e below (T1.setTop (mkF m 116 #[iv 12] [(.ref w_LOCAL_DATE_TIME)])) _
    jvm_step X1.here [X1.here.top, hx, (hb hby own_d1_116), X1.method', Bd.returns, Value.isRef, FieldType.isReference]
    first | (intro acts; rw [hr _ acts rfl rfl rfl]) | rw [hr _ _ rfl rfl rfl]
    exact Steps.refl _
  · show own_p_12_Q Z w_STRING w_INTEGER w_LONG w_SHORT w_BYTE w_DOUBLE w_FLOAT w_BIG_DECIMAL w_BIG_INTEGER w_BOOLEAN w_LOCAL_DATE w_LOCAL_TIME w_LOCAL_DATE_TIME h0 n0 _ T1.heap _
    rw [e1]
    exact ⟨rfl, N0, rfl⟩
theorem own_law0_ef (m : MethodId) (p0 : Int32) : entryFrame m #[(.int p0)] maxLocals = mkF m 0 #[iv p0, .unset, .unset, .unset] [] := by first | (simp [entryFrame, mkF, argsToLocals, Value.category, maxLocals]; done) | rfl
def own_law0_Q (Z : State) (w_STRING : Addr) (w_INTEGER : Addr) (w_LONG : Addr) (w_SHORT : Addr) (w_BYTE : Addr) (w_DOUBLE : Addr) (w_FLOAT : Addr) (w_BIG_DECIMAL : Addr) (w_BIG_INTEGER : Addr) (w_BOOLEAN : Addr) (w_LOCAL_DATE : Addr) (w_LOCAL_TIME : Addr) (w_LOCAL_DATE_TIME : Addr) (p0 : Int32) (h0 : Heap) (n0 : Nat) (v : Option Value) (h : Heap) (L : List Loc) : Prop := v = some (.int 1) ∧ Fr n0 L ∧ True
set_option maxRecDepth 65536 in
set_option maxHeartbeats 40000000 in
theorem own_law0 (l : Launch) (Z : State) (a0 : Array Value) (hw : ∀ d ∈ tables_1, d.before a0 Z = true) (ws : List Jvm.Cond) (w_STRING : Addr) (w_INTEGER : Addr) (w_LONG : Addr) (w_SHORT : Addr) (w_BYTE : Addr) (w_DOUBLE : Addr) (w_FLOAT : Addr) (w_BIG_DECIMAL : Addr) (w_BIG_INTEGER : Addr) (w_BOOLEAN : Addr) (w_LOCAL_DATE : Addr) (w_LOCAL_TIME : Addr) (w_LOCAL_DATE_TIME : Addr) (p0 : Int32) (h0 : Heap) (n0 : Nat) (O0 : Old Z n0 h0) (U_STRING : own_En Z Z.heap "com/example/traversal/traversal/model/BasicType" "STRING" "Lcom/example/traversal/traversal/model/BasicType;" w_STRING (0 : Int32)) (U_INTEGER : own_En Z Z.heap "com/example/traversal/traversal/model/BasicType" "INTEGER" "Lcom/example/traversal/traversal/model/BasicType;" w_INTEGER (1 : Int32)) (U_LONG : own_En Z Z.heap "com/example/traversal/traversal/model/BasicType" "LONG" "Lcom/example/traversal/traversal/model/BasicType;" w_LONG (2 : Int32)) (U_SHORT : own_En Z Z.heap "com/example/traversal/traversal/model/BasicType" "SHORT" "Lcom/example/traversal/traversal/model/BasicType;" w_SHORT (3 : Int32)) (U_BYTE : own_En Z Z.heap "com/example/traversal/traversal/model/BasicType" "BYTE" "Lcom/example/traversal/traversal/model/BasicType;" w_BYTE (4 : Int32)) (U_DOUBLE : own_En Z Z.heap "com/example/traversal/traversal/model/BasicType" "DOUBLE" "Lcom/example/traversal/traversal/model/BasicType;" w_DOUBLE (5 : Int32)) (U_FLOAT : own_En Z Z.heap "com/example/traversal/traversal/model/BasicType" "FLOAT" "Lcom/example/traversal/traversal/model/BasicType;" w_FLOAT (6 : Int32)) (U_BIG_DECIMAL : own_En Z Z.heap "com/example/traversal/traversal/model/BasicType" "BIG_DECIMAL" "Lcom/example/traversal/traversal/model/BasicType;" w_BIG_DECIMAL (7 : Int32)) (U_BIG_INTEGER : own_En Z Z.heap "com/example/traversal/traversal/model/BasicType" "BIG_INTEGER" "Lcom/example/traversal/traversal/model/BasicType;" w_BIG_INTEGER (8 : Int32)) (U_BOOLEAN : own_En Z Z.heap "com/example/traversal/traversal/model/BasicType" "BOOLEAN" "Lcom/example/traversal/traversal/model/BasicType;" w_BOOLEAN (9 : Int32)) (U_LOCAL_DATE : own_En Z Z.heap "com/example/traversal/traversal/model/BasicType" "LOCAL_DATE" "Lcom/example/traversal/traversal/model/BasicType;" w_LOCAL_DATE (10 : Int32)) (U_LOCAL_TIME : own_En Z Z.heap "com/example/traversal/traversal/model/BasicType" "LOCAL_TIME" "Lcom/example/traversal/traversal/model/BasicType;" w_LOCAL_TIME (11 : Int32)) (U_LOCAL_DATE_TIME : own_En Z Z.heap "com/example/traversal/traversal/model/BasicType" "LOCAL_DATE_TIME" "Lcom/example/traversal/traversal/model/BasicType;" w_LOCAL_DATE_TIME (12 : Int32)) (hk : (p0 &&& (2147483647 : Int32)) % (13 : Int32) = (0 : Int32)) :
    MetFree l x (head1 (Jvm.Cond.code x code maxLocals ret :: ws) room_1) (fun a U => a = #[(.int p0)] ∧ Z.Warmed39 U.vm ∧ U.heap = h0) (fun _ _ _ _ _ => True) (fun _ U o U' => ∃ v L, o = .returned v ∧ own_law0_Q Z w_STRING w_INTEGER w_LONG w_SHORT w_BYTE w_DOUBLE w_FLOAT w_BIG_DECIMAL w_BIG_INTEGER w_BOOLEAN w_LOCAL_DATE w_LOCAL_TIME w_LOCAL_DATE_TIME p0 h0 n0 v U'.heap L ∧ FrameEnd U o U' L 0 0) := by
  refine MetFree.of_bodySF (plainFor_of_name own_pn1) hisR ?_
  intro p e s m args below meth c s₁ Bd hml0 hP hK
  obtain ⟨rfl, hZ, hh⟩ := hP
  have hx := Bd.exec
  have hby := Bd.bytes
  have hml : c.maxLocals = 4 := hml0
  have hown : s.vm.findClass "com/example/traversal/traversal/model/BasicTypeIsIntegralPinLaw" = some m.cls := findClass_of_methodNamed Bd.named
  have hnm := (name_of_methodNamed Bd.named Bd.method).1
  have X0 : Stand p l e room_1 s m #[(.int p0)] below meth c s₁ [] 0 0 := Stand.of_body Bd
  have e0 : s₁.heap = h0 := by rw [← hh, Bd.state]; rfl
  have N0 := Fr.nil n0
  have pre0 : ∀ t, Steps p.tables e below (s₁.setTop (mkF m 0 #[iv p0, .unset, .unset, .unset] [])) t → Steps p.tables e below (s₁.setTop (entryFrame m #[(.int p0)] maxLocals)) t := fun t k => castTop (own_law0_ef m p0) k
  obtain ⟨_, _, ⟨T1, L1, k1, n1⟩, -, X1, ⟨Lc1, hQ1, l1, y1, z1⟩, st1⟩ := Jvm.LawKit.callS X0 hx (y := (⟨"com/example/traversal/traversal/model/BasicTypeIsIntegralPinLaw", "pick", "(I)Lcom/example/traversal/traversal/model/BasicType;"⟩ : MethodName)) hown (mvT hZ (hw _ (List.mem_of_getElem? (i := 1) rfl))) (mvT hZ (hw _ (List.mem_of_getElem? (i := 2) rfl))) (mvT hZ (hw _ (List.mem_of_getElem? (i := 3) rfl))) (mvT hZ (hw _ (List.mem_of_getElem? (i := 4) rfl))) (by decide) (backOf (W := 0) (own_p_0 l Z a0 hw [] w_STRING w_INTEGER w_LONG w_SHORT w_BYTE w_DOUBLE w_FLOAT w_BIG_DECIMAL w_BIG_INTEGER w_BOOLEAN w_LOCAL_DATE w_LOCAL_TIME w_LOCAL_DATE_TIME  h0 n0 O0 U_STRING U_INTEGER U_LONG U_SHORT U_BYTE U_DOUBLE U_FLOAT U_BIG_DECIMAL U_BIG_INTEGER U_BOOLEAN U_LOCAL_DATE U_LOCAL_TIME U_LOCAL_DATE_TIME ) hZ (hw _ (List.mem_of_getElem? (i := 4) rfl)) (hw _ (List.mem_of_getElem? (i := 3) rfl)) (by decide) (by decide)) (g := (mkF m 9 #[iv p0, iv 0, .unset, .unset] [(.int 0)])) rfl (by rw [hml]; rfl) (argsL := [(.int 0)]) (rest := []) (lenOf own_pd0 rfl) rfl (by show 2 * 0 + _ ≤ _; exact Nat.le_of_eq rfl) (hb hby at_9) (fun _ _ => ⟨rfl, e0, (by decide : 0 + 0 ≤ _), (by decide : 0 + 0 ≤ _)⟩)
  dsimp only [Pt.U, Pt.locs, Pt.cells, Pt.slots] at X1 l1 y1 z1 st1 hQ1
  subst l1 y1 z1
  obtain ⟨rfl, N1q, e1⟩ := hQ1
  have N1 := Fr.app N0 N1q
  obtain ⟨cq2, kq2, q2a, q2b, q2c⟩ := isOf hZ e1 (U_STRING.2.1.ext O0.2)
  obtain ⟨_, _, ⟨T2, L2, k2, n2⟩, -, X2, ⟨Lc2, hQ2, l2, y2, z2⟩, st2⟩ := X1.virtualBack hx (y := (⟨"com/example/traversal/traversal/model/BasicType", "isIntegral", "()Z"⟩ : MethodName)) (z := (⟨"com/example/traversal/traversal/model/BasicType", "isIntegral", "()Z"⟩ : MethodName)) hown (mvT hZ (hw _ (List.mem_of_getElem? (i := 8) rfl))) (mvT hZ (hw _ (List.mem_of_getElem? (i := 9) rfl))) (notFace_of_selects (args := #[]) (mvT hZ (hw _ (List.mem_of_getElem? (i := 11) rfl)))) (mvT hZ (hw _ (List.mem_of_getElem? (i := 11) rfl))) (mvT hZ (hw _ (List.mem_of_getElem? (i := 10) rfl))) (by decide) (backOf (W := 0) (own_m_STRING l Z a0 hw [] w_STRING w_INTEGER w_LONG w_SHORT w_BYTE w_DOUBLE w_FLOAT w_BIG_DECIMAL w_BIG_INTEGER w_BOOLEAN w_LOCAL_DATE w_LOCAL_TIME w_LOCAL_DATE_TIME  h0 n0 O0 U_STRING U_INTEGER U_LONG U_SHORT U_BYTE U_DOUBLE U_FLOAT U_BIG_DECIMAL U_BIG_INTEGER U_BOOLEAN U_LOCAL_DATE U_LOCAL_TIME U_LOCAL_DATE_TIME ) hZ (hw _ (List.mem_of_getElem? (i := 12) rfl)) (hw _ (List.mem_of_getElem? (i := 6) rfl)) (by decide) (by decide)) q2a q2c (g := (mkF m 36 #[iv p0, iv 0, rv w_STRING, iv 0] [(.ref w_STRING)])) rfl (by rw [hml]; rfl) (Steps.refl _) (argsL := []) (rest := []) (lenOf own_pd1 rfl) rfl (by show 2 * 0 + _ ≤ _; exact Nat.le_of_eq rfl) (hb hby at_36) (fun _ _ => ⟨rfl, e1, (by decide : 0 + 0 ≤ _), (by decide : 0 + 0 ≤ _)⟩)
  dsimp only [Pt.U, Pt.locs, Pt.cells, Pt.slots] at X2 l2 y2 z2 st2 hQ2
  subst l2 y2 z2
  obtain ⟨rfl, N2q, e2⟩ := hQ2
  have N2 := Fr.app N1 N2q
  obtain ⟨fs, hr, hrun, hended, hW, hsame⟩ := X2.leave (v := some (.int 1)) (fun h => by rw [Bd.returns] at h; cases h)
  refine ⟨_, _, pre0 _ ?_, hrun, hended, _, _, rfl, ?_, ⟨_, rfl⟩, hW, hsame.mono (by decide) (by decide)⟩
  · show Steps p.tables e below (s₁.setTop (mkF m 0 #[iv p0, .unset, .unset, .unset] [])) _
    refine XS.iloadN X0.here hx rfl (hb hby at_0) rfl ?_
    show Steps p.tables e below (s₁.setTop (mkF m 1 #[iv p0, .unset, .unset, .unset] [(.int p0)])) _
    refine X0.ldcInt hx hown (mvT hZ (hw _ (List.mem_of_getElem? (i := 0) rfl))) (g := (mkF m 1 #[iv p0, .unset, .unset, .unset] [(.int p0)])) rfl (hb hby at_1) _ ?_
    show Steps p.tables e below (s₁.setTop (mkF m 3 #[iv p0, .unset, .unset, .unset] [(.int 2147483647), (.int p0)])) _
    refine XS.iand X0.here hx rfl (hb hby at_3) rfl ?_
    show Steps p.tables e below (s₁.setTop (mkF m 4 #[iv p0, .unset, .unset, .unset] [(.int (p0 &&& (2147483647 : Int32)))])) _
    refine XS.bipush X0.here hx rfl (hb hby at_4) ?_
    show Steps p.tables e below (s₁.setTop (mkF m 6 #[iv p0, .unset, .unset, .unset] [(.int 13), (.int (p0 &&& (2147483647 : Int32)))])) _
    refine iremM X0 hx rfl (hb hby at_6) rfl (by decide) ?_
    show Steps p.tables e below (s₁.setTop (mkF m 7 #[iv p0, .unset, .unset, .unset] [(.int ((p0 &&& (2147483647 : Int32)) % (13 : Int32)))])) _
    refine own_top (v' := (.int 0)) (congrArg Value.int hk) ?_
    show Steps p.tables e below (s₁.setTop (mkF m 7 #[iv p0, .unset, .unset, .unset] [(.int 0)])) _
    refine XS.istoreN X0.here hx rfl (hb hby at_7) rfl (l' := #[iv p0, iv 0, .unset, .unset]) rfl ?_
    show Steps p.tables e below (s₁.setTop (mkF m 8 #[iv p0, iv 0, .unset, .unset] [])) _
    refine XS.iloadN X0.here hx rfl (hb hby at_8) rfl ?_
    show Steps p.tables e below (s₁.setTop (mkF m 9 #[iv p0, iv 0, .unset, .unset] [(.int 0)])) _
    refine st1 _ ?_
    show Steps p.tables e below (T1.setTop (mkF m 12 #[iv p0, iv 0, .unset, .unset] [(.ref w_STRING)])) _
    refine XS.astoreN X1.here hx rfl (hb hby at_12) rfl rfl (l' := #[iv p0, iv 0, rv w_STRING, .unset]) rfl ?_
    show Steps p.tables e below (T1.setTop (mkF m 13 #[iv p0, iv 0, rv w_STRING, .unset] [])) _
    refine XS.iloadN X1.here hx rfl (hb hby at_13) rfl ?_
    show Steps p.tables e below (T1.setTop (mkF m 14 #[iv p0, iv 0, rv w_STRING, .unset] [(.int 0)])) _
    refine XS.iconst X1.here hx rfl (hb hby at_14) ?_
    show Steps p.tables e below (T1.setTop (mkF m 15 #[iv p0, iv 0, rv w_STRING, .unset] [(.int 1), (.int 0)])) _
    refine XS.icmpYes X1.here hx rfl (pc0 := 15) (pc' := 23) rfl (hb hby at_15) rfl (tlt (by decide)).1 (by decide) (by decide) ?_
    show Steps p.tables e below (T1.setTop (mkF m 23 #[iv p0, iv 0, rv w_STRING, .unset] [])) _
    refine XS.iloadN X1.here hx rfl (hb hby at_23) rfl ?_
    show Steps p.tables e below (T1.setTop (mkF m 24 #[iv p0, iv 0, rv w_STRING, .unset] [(.int 0)])) _
    refine XS.bipush X1.here hx rfl (hb hby at_24) ?_
    show Steps p.tables e below (T1.setTop (mkF m 26 #[iv p0, iv 0, rv w_STRING, .unset] [(.int 8), (.int 0)])) _
    refine XS.icmpYes X1.here hx rfl (pc0 := 26) (pc' := 33) rfl (hb hby at_26) rfl (feq (by decide)).2 (by decide) (by decide) ?_
    show Steps p.tables e below (T1.setTop (mkF m 33 #[iv p0, iv 0, rv w_STRING, .unset] [])) _
    refine XS.iconst X1.here hx rfl (hb hby at_33) ?_
    show Steps p.tables e below (T1.setTop (mkF m 34 #[iv p0, iv 0, rv w_STRING, .unset] [(.int 0)])) _
    refine XS.istoreN X1.here hx rfl (hb hby at_34) rfl (l' := #[iv p0, iv 0, rv w_STRING, iv 0]) rfl ?_
    show Steps p.tables e below (T1.setTop (mkF m 35 #[iv p0, iv 0, rv w_STRING, iv 0] [])) _
    refine XS.aloadN X1.here hx rfl (hb hby at_35) rfl rfl ?_
    show Steps p.tables e below (T1.setTop (mkF m 36 #[iv p0, iv 0, rv w_STRING, iv 0] [(.ref w_STRING)])) _
    refine st2.trans ?_
    show Steps p.tables e below (T2.setTop (mkF m 39 #[iv p0, iv 0, rv w_STRING, iv 0] [(.int 0)])) _
    refine XS.iloadN X2.here hx rfl (hb hby at_39) rfl ?_
    show Steps p.tables e below (T2.setTop (mkF m 40 #[iv p0, iv 0, rv w_STRING, iv 0] [(.int 0), (.int 0)])) _
    refine XS.icmpNo X2.here hx rfl (hb hby at_40) rfl (teq (by decide)).2 ?_
    show Steps p.tables e below (T2.setTop (mkF m 43 #[iv p0, iv 0, rv w_STRING, iv 0] [])) _
    refine XS.iconst X2.here hx rfl (hb hby at_43) ?_
    show Steps p.tables e below (T2.setTop (mkF m 44 #[iv p0, iv 0, rv w_STRING, iv 0] [(.int 1)])) _
    refine XS.goto X2.here hx rfl (pc0 := 44) (pc' := 48) rfl (hb hby at_44) (by decide) (by decide) ?_
    show Steps p.tables e below (T2.setTop (mkF m 48 #[iv p0, iv 0, rv w_STRING, iv 0] [(.int 1)])) _
    exact retN X2 hx (t := .boolean) Bd.returns (by simp) (hb hby at_48) hr
  · show own_law0_Q Z w_STRING w_INTEGER w_LONG w_SHORT w_BYTE w_DOUBLE w_FLOAT w_BIG_DECIMAL w_BIG_INTEGER w_BOOLEAN w_LOCAL_DATE w_LOCAL_TIME w_LOCAL_DATE_TIME p0 h0 n0 _ T2.heap _
    rw [e2]
    exact ⟨rfl, N2, trivial⟩
theorem own_law1_ef (m : MethodId) (p0 : Int32) : entryFrame m #[(.int p0)] maxLocals = mkF m 0 #[iv p0, .unset, .unset, .unset] [] := by first | (simp [entryFrame, mkF, argsToLocals, Value.category, maxLocals]; done) | rfl
def own_law1_Q (Z : State) (w_STRING : Addr) (w_INTEGER : Addr) (w_LONG : Addr) (w_SHORT : Addr) (w_BYTE : Addr) (w_DOUBLE : Addr) (w_FLOAT : Addr) (w_BIG_DECIMAL : Addr) (w_BIG_INTEGER : Addr) (w_BOOLEAN : Addr) (w_LOCAL_DATE : Addr) (w_LOCAL_TIME : Addr) (w_LOCAL_DATE_TIME : Addr) (p0 : Int32) (h0 : Heap) (n0 : Nat) (v : Option Value) (h : Heap) (L : List Loc) : Prop := v = some (.int 1) ∧ Fr n0 L ∧ True
set_option maxRecDepth 65536 in
set_option maxHeartbeats 40000000 in
theorem own_law1 (l : Launch) (Z : State) (a0 : Array Value) (hw : ∀ d ∈ tables_1, d.before a0 Z = true) (ws : List Jvm.Cond) (w_STRING : Addr) (w_INTEGER : Addr) (w_LONG : Addr) (w_SHORT : Addr) (w_BYTE : Addr) (w_DOUBLE : Addr) (w_FLOAT : Addr) (w_BIG_DECIMAL : Addr) (w_BIG_INTEGER : Addr) (w_BOOLEAN : Addr) (w_LOCAL_DATE : Addr) (w_LOCAL_TIME : Addr) (w_LOCAL_DATE_TIME : Addr) (p0 : Int32) (h0 : Heap) (n0 : Nat) (O0 : Old Z n0 h0) (U_STRING : own_En Z Z.heap "com/example/traversal/traversal/model/BasicType" "STRING" "Lcom/example/traversal/traversal/model/BasicType;" w_STRING (0 : Int32)) (U_INTEGER : own_En Z Z.heap "com/example/traversal/traversal/model/BasicType" "INTEGER" "Lcom/example/traversal/traversal/model/BasicType;" w_INTEGER (1 : Int32)) (U_LONG : own_En Z Z.heap "com/example/traversal/traversal/model/BasicType" "LONG" "Lcom/example/traversal/traversal/model/BasicType;" w_LONG (2 : Int32)) (U_SHORT : own_En Z Z.heap "com/example/traversal/traversal/model/BasicType" "SHORT" "Lcom/example/traversal/traversal/model/BasicType;" w_SHORT (3 : Int32)) (U_BYTE : own_En Z Z.heap "com/example/traversal/traversal/model/BasicType" "BYTE" "Lcom/example/traversal/traversal/model/BasicType;" w_BYTE (4 : Int32)) (U_DOUBLE : own_En Z Z.heap "com/example/traversal/traversal/model/BasicType" "DOUBLE" "Lcom/example/traversal/traversal/model/BasicType;" w_DOUBLE (5 : Int32)) (U_FLOAT : own_En Z Z.heap "com/example/traversal/traversal/model/BasicType" "FLOAT" "Lcom/example/traversal/traversal/model/BasicType;" w_FLOAT (6 : Int32)) (U_BIG_DECIMAL : own_En Z Z.heap "com/example/traversal/traversal/model/BasicType" "BIG_DECIMAL" "Lcom/example/traversal/traversal/model/BasicType;" w_BIG_DECIMAL (7 : Int32)) (U_BIG_INTEGER : own_En Z Z.heap "com/example/traversal/traversal/model/BasicType" "BIG_INTEGER" "Lcom/example/traversal/traversal/model/BasicType;" w_BIG_INTEGER (8 : Int32)) (U_BOOLEAN : own_En Z Z.heap "com/example/traversal/traversal/model/BasicType" "BOOLEAN" "Lcom/example/traversal/traversal/model/BasicType;" w_BOOLEAN (9 : Int32)) (U_LOCAL_DATE : own_En Z Z.heap "com/example/traversal/traversal/model/BasicType" "LOCAL_DATE" "Lcom/example/traversal/traversal/model/BasicType;" w_LOCAL_DATE (10 : Int32)) (U_LOCAL_TIME : own_En Z Z.heap "com/example/traversal/traversal/model/BasicType" "LOCAL_TIME" "Lcom/example/traversal/traversal/model/BasicType;" w_LOCAL_TIME (11 : Int32)) (U_LOCAL_DATE_TIME : own_En Z Z.heap "com/example/traversal/traversal/model/BasicType" "LOCAL_DATE_TIME" "Lcom/example/traversal/traversal/model/BasicType;" w_LOCAL_DATE_TIME (12 : Int32)) (hk : (p0 &&& (2147483647 : Int32)) % (13 : Int32) = (1 : Int32)) :
    MetFree l x (head1 (Jvm.Cond.code x code maxLocals ret :: ws) room_1) (fun a U => a = #[(.int p0)] ∧ Z.Warmed39 U.vm ∧ U.heap = h0) (fun _ _ _ _ _ => True) (fun _ U o U' => ∃ v L, o = .returned v ∧ own_law1_Q Z w_STRING w_INTEGER w_LONG w_SHORT w_BYTE w_DOUBLE w_FLOAT w_BIG_DECIMAL w_BIG_INTEGER w_BOOLEAN w_LOCAL_DATE w_LOCAL_TIME w_LOCAL_DATE_TIME p0 h0 n0 v U'.heap L ∧ FrameEnd U o U' L 0 0) := by
  refine MetFree.of_bodySF (plainFor_of_name own_pn1) hisR ?_
  intro p e s m args below meth c s₁ Bd hml0 hP hK
  obtain ⟨rfl, hZ, hh⟩ := hP
  have hx := Bd.exec
  have hby := Bd.bytes
  have hml : c.maxLocals = 4 := hml0
  have hown : s.vm.findClass "com/example/traversal/traversal/model/BasicTypeIsIntegralPinLaw" = some m.cls := findClass_of_methodNamed Bd.named
  have hnm := (name_of_methodNamed Bd.named Bd.method).1
  have X0 : Stand p l e room_1 s m #[(.int p0)] below meth c s₁ [] 0 0 := Stand.of_body Bd
  have e0 : s₁.heap = h0 := by rw [← hh, Bd.state]; rfl
  have N0 := Fr.nil n0
  have pre0 : ∀ t, Steps p.tables e below (s₁.setTop (mkF m 0 #[iv p0, .unset, .unset, .unset] [])) t → Steps p.tables e below (s₁.setTop (entryFrame m #[(.int p0)] maxLocals)) t := fun t k => castTop (own_law1_ef m p0) k
  obtain ⟨_, _, ⟨T1, L1, k1, n1⟩, -, X1, ⟨Lc1, hQ1, l1, y1, z1⟩, st1⟩ := Jvm.LawKit.callS X0 hx (y := (⟨"com/example/traversal/traversal/model/BasicTypeIsIntegralPinLaw", "pick", "(I)Lcom/example/traversal/traversal/model/BasicType;"⟩ : MethodName)) hown (mvT hZ (hw _ (List.mem_of_getElem? (i := 1) rfl))) (mvT hZ (hw _ (List.mem_of_getElem? (i := 2) rfl))) (mvT hZ (hw _ (List.mem_of_getElem? (i := 3) rfl))) (mvT hZ (hw _ (List.mem_of_getElem? (i := 4) rfl))) (by decide) (backOf (W := 0) (own_p_1 l Z a0 hw [] w_STRING w_INTEGER w_LONG w_SHORT w_BYTE w_DOUBLE w_FLOAT w_BIG_DECIMAL w_BIG_INTEGER w_BOOLEAN w_LOCAL_DATE w_LOCAL_TIME w_LOCAL_DATE_TIME  h0 n0 O0 U_STRING U_INTEGER U_LONG U_SHORT U_BYTE U_DOUBLE U_FLOAT U_BIG_DECIMAL U_BIG_INTEGER U_BOOLEAN U_LOCAL_DATE U_LOCAL_TIME U_LOCAL_DATE_TIME ) hZ (hw _ (List.mem_of_getElem? (i := 4) rfl)) (hw _ (List.mem_of_getElem? (i := 3) rfl)) (by decide) (by decide)) (g := (mkF m 9 #[iv p0, iv 1, .unset, .unset] [(.int 1)])) rfl (by rw [hml]; rfl) (argsL := [(.int 1)]) (rest := []) (lenOf own_pd0 rfl) rfl (by show 2 * 0 + _ ≤ _; exact Nat.le_of_eq rfl) (hb hby at_9) (fun _ _ => ⟨rfl, e0, (by decide : 0 + 0 ≤ _), (by decide : 0 + 0 ≤ _)⟩)
  dsimp only [Pt.U, Pt.locs, Pt.cells, Pt.slots] at X1 l1 y1 z1 st1 hQ1
  subst l1 y1 z1
  obtain ⟨rfl, N1q, e1⟩ := hQ1
  have N1 := Fr.app N0 N1q
  obtain ⟨cq2, kq2, q2a, q2b, q2c⟩ := isOf hZ e1 (U_INTEGER.2.1.ext O0.2)
  obtain ⟨_, _, ⟨T2, L2, k2, n2⟩, -, X2, ⟨Lc2, hQ2, l2, y2, z2⟩, st2⟩ := X1.virtualBack hx (y := (⟨"com/example/traversal/traversal/model/BasicType", "isIntegral", "()Z"⟩ : MethodName)) (z := (⟨"com/example/traversal/traversal/model/BasicType", "isIntegral", "()Z"⟩ : MethodName)) hown (mvT hZ (hw _ (List.mem_of_getElem? (i := 8) rfl))) (mvT hZ (hw _ (List.mem_of_getElem? (i := 9) rfl))) (notFace_of_selects (args := #[]) (mvT hZ (hw _ (List.mem_of_getElem? (i := 11) rfl)))) (mvT hZ (hw _ (List.mem_of_getElem? (i := 11) rfl))) (mvT hZ (hw _ (List.mem_of_getElem? (i := 10) rfl))) (by decide) (backOf (W := 0) (own_m_INTEGER l Z a0 hw [] w_STRING w_INTEGER w_LONG w_SHORT w_BYTE w_DOUBLE w_FLOAT w_BIG_DECIMAL w_BIG_INTEGER w_BOOLEAN w_LOCAL_DATE w_LOCAL_TIME w_LOCAL_DATE_TIME  h0 n0 O0 U_STRING U_INTEGER U_LONG U_SHORT U_BYTE U_DOUBLE U_FLOAT U_BIG_DECIMAL U_BIG_INTEGER U_BOOLEAN U_LOCAL_DATE U_LOCAL_TIME U_LOCAL_DATE_TIME ) hZ (hw _ (List.mem_of_getElem? (i := 12) rfl)) (hw _ (List.mem_of_getElem? (i := 6) rfl)) (by decide) (by decide)) q2a q2c (g := (mkF m 36 #[iv p0, iv 1, rv w_INTEGER, iv 1] [(.ref w_INTEGER)])) rfl (by rw [hml]; rfl) (Steps.refl _) (argsL := []) (rest := []) (lenOf own_pd1 rfl) rfl (by show 2 * 0 + _ ≤ _; exact Nat.le_of_eq rfl) (hb hby at_36) (fun _ _ => ⟨rfl, e1, (by decide : 0 + 0 ≤ _), (by decide : 0 + 0 ≤ _)⟩)
  dsimp only [Pt.U, Pt.locs, Pt.cells, Pt.slots] at X2 l2 y2 z2 st2 hQ2
  subst l2 y2 z2
  obtain ⟨rfl, N2q, e2⟩ := hQ2
  have N2 := Fr.app N1 N2q
  obtain ⟨fs, hr, hrun, hended, hW, hsame⟩ := X2.leave (v := some (.int 1)) (fun h => by rw [Bd.returns] at h; cases h)
  refine ⟨_, _, pre0 _ ?_, hrun, hended, _, _, rfl, ?_, ⟨_, rfl⟩, hW, hsame.mono (by decide) (by decide)⟩
  · show Steps p.tables e below (s₁.setTop (mkF m 0 #[iv p0, .unset, .unset, .unset] [])) _
    refine XS.iloadN X0.here hx rfl (hb hby at_0) rfl ?_
    show Steps p.tables e below (s₁.setTop (mkF m 1 #[iv p0, .unset, .unset, .unset] [(.int p0)])) _
    refine X0.ldcInt hx hown (mvT hZ (hw _ (List.mem_of_getElem? (i := 0) rfl))) (g := (mkF m 1 #[iv p0, .unset, .unset, .unset] [(.int p0)])) rfl (hb hby at_1) _ ?_
    show Steps p.tables e below (s₁.setTop (mkF m 3 #[iv p0, .unset, .unset, .unset] [(.int 2147483647), (.int p0)])) _
    refine XS.iand X0.here hx rfl (hb hby at_3) rfl ?_
    show Steps p.tables e below (s₁.setTop (mkF m 4 #[iv p0, .unset, .unset, .unset] [(.int (p0 &&& (2147483647 : Int32)))])) _
    refine XS.bipush X0.here hx rfl (hb hby at_4) ?_
    show Steps p.tables e below (s₁.setTop (mkF m 6 #[iv p0, .unset, .unset, .unset] [(.int 13), (.int (p0 &&& (2147483647 : Int32)))])) _
    refine iremM X0 hx rfl (hb hby at_6) rfl (by decide) ?_
    show Steps p.tables e below (s₁.setTop (mkF m 7 #[iv p0, .unset, .unset, .unset] [(.int ((p0 &&& (2147483647 : Int32)) % (13 : Int32)))])) _
    refine own_top (v' := (.int 1)) (congrArg Value.int hk) ?_
    show Steps p.tables e below (s₁.setTop (mkF m 7 #[iv p0, .unset, .unset, .unset] [(.int 1)])) _
    refine XS.istoreN X0.here hx rfl (hb hby at_7) rfl (l' := #[iv p0, iv 1, .unset, .unset]) rfl ?_
    show Steps p.tables e below (s₁.setTop (mkF m 8 #[iv p0, iv 1, .unset, .unset] [])) _
    refine XS.iloadN X0.here hx rfl (hb hby at_8) rfl ?_
    show Steps p.tables e below (s₁.setTop (mkF m 9 #[iv p0, iv 1, .unset, .unset] [(.int 1)])) _
    refine st1 _ ?_
    show Steps p.tables e below (T1.setTop (mkF m 12 #[iv p0, iv 1, .unset, .unset] [(.ref w_INTEGER)])) _
    refine XS.astoreN X1.here hx rfl (hb hby at_12) rfl rfl (l' := #[iv p0, iv 1, rv w_INTEGER, .unset]) rfl ?_
    show Steps p.tables e below (T1.setTop (mkF m 13 #[iv p0, iv 1, rv w_INTEGER, .unset] [])) _
    refine XS.iloadN X1.here hx rfl (hb hby at_13) rfl ?_
    show Steps p.tables e below (T1.setTop (mkF m 14 #[iv p0, iv 1, rv w_INTEGER, .unset] [(.int 1)])) _
    refine XS.iconst X1.here hx rfl (hb hby at_14) ?_
    show Steps p.tables e below (T1.setTop (mkF m 15 #[iv p0, iv 1, rv w_INTEGER, .unset] [(.int 1), (.int 1)])) _
    refine XS.icmpNo X1.here hx rfl (hb hby at_15) rfl (flt (by decide)).1 ?_
    show Steps p.tables e below (T1.setTop (mkF m 18 #[iv p0, iv 1, rv w_INTEGER, .unset] [])) _
    refine XS.iloadN X1.here hx rfl (hb hby at_18) rfl ?_
    show Steps p.tables e below (T1.setTop (mkF m 19 #[iv p0, iv 1, rv w_INTEGER, .unset] [(.int 1)])) _
    refine XS.iconst X1.here hx rfl (hb hby at_19) ?_
    show Steps p.tables e below (T1.setTop (mkF m 20 #[iv p0, iv 1, rv w_INTEGER, .unset] [(.int 4), (.int 1)])) _
    refine XS.icmpYes X1.here hx rfl (pc0 := 20) (pc' := 29) rfl (hb hby at_20) rfl (flt (by decide)).2.2.2 (by decide) (by decide) ?_
    show Steps p.tables e below (T1.setTop (mkF m 29 #[iv p0, iv 1, rv w_INTEGER, .unset] [])) _
    refine XS.iconst X1.here hx rfl (hb hby at_29) ?_
    show Steps p.tables e below (T1.setTop (mkF m 30 #[iv p0, iv 1, rv w_INTEGER, .unset] [(.int 1)])) _
    refine XS.goto X1.here hx rfl (pc0 := 30) (pc' := 34) rfl (hb hby at_30) (by decide) (by decide) ?_
    show Steps p.tables e below (T1.setTop (mkF m 34 #[iv p0, iv 1, rv w_INTEGER, .unset] [(.int 1)])) _
    refine XS.istoreN X1.here hx rfl (hb hby at_34) rfl (l' := #[iv p0, iv 1, rv w_INTEGER, iv 1]) rfl ?_
    show Steps p.tables e below (T1.setTop (mkF m 35 #[iv p0, iv 1, rv w_INTEGER, iv 1] [])) _
    refine XS.aloadN X1.here hx rfl (hb hby at_35) rfl rfl ?_
    show Steps p.tables e below (T1.setTop (mkF m 36 #[iv p0, iv 1, rv w_INTEGER, iv 1] [(.ref w_INTEGER)])) _
    refine st2.trans ?_
    show Steps p.tables e below (T2.setTop (mkF m 39 #[iv p0, iv 1, rv w_INTEGER, iv 1] [(.int 1)])) _
    refine XS.iloadN X2.here hx rfl (hb hby at_39) rfl ?_
    show Steps p.tables e below (T2.setTop (mkF m 40 #[iv p0, iv 1, rv w_INTEGER, iv 1] [(.int 1), (.int 1)])) _
    refine XS.icmpNo X2.here hx rfl (hb hby at_40) rfl (teq (by decide)).2 ?_
    show Steps p.tables e below (T2.setTop (mkF m 43 #[iv p0, iv 1, rv w_INTEGER, iv 1] [])) _
    refine XS.iconst X2.here hx rfl (hb hby at_43) ?_
    show Steps p.tables e below (T2.setTop (mkF m 44 #[iv p0, iv 1, rv w_INTEGER, iv 1] [(.int 1)])) _
    refine XS.goto X2.here hx rfl (pc0 := 44) (pc' := 48) rfl (hb hby at_44) (by decide) (by decide) ?_
    show Steps p.tables e below (T2.setTop (mkF m 48 #[iv p0, iv 1, rv w_INTEGER, iv 1] [(.int 1)])) _
    exact retN X2 hx (t := .boolean) Bd.returns (by simp) (hb hby at_48) hr
  · show own_law1_Q Z w_STRING w_INTEGER w_LONG w_SHORT w_BYTE w_DOUBLE w_FLOAT w_BIG_DECIMAL w_BIG_INTEGER w_BOOLEAN w_LOCAL_DATE w_LOCAL_TIME w_LOCAL_DATE_TIME p0 h0 n0 _ T2.heap _
    rw [e2]
    exact ⟨rfl, N2, trivial⟩
theorem own_law2_ef (m : MethodId) (p0 : Int32) : entryFrame m #[(.int p0)] maxLocals = mkF m 0 #[iv p0, .unset, .unset, .unset] [] := by first | (simp [entryFrame, mkF, argsToLocals, Value.category, maxLocals]; done) | rfl
def own_law2_Q (Z : State) (w_STRING : Addr) (w_INTEGER : Addr) (w_LONG : Addr) (w_SHORT : Addr) (w_BYTE : Addr) (w_DOUBLE : Addr) (w_FLOAT : Addr) (w_BIG_DECIMAL : Addr) (w_BIG_INTEGER : Addr) (w_BOOLEAN : Addr) (w_LOCAL_DATE : Addr) (w_LOCAL_TIME : Addr) (w_LOCAL_DATE_TIME : Addr) (p0 : Int32) (h0 : Heap) (n0 : Nat) (v : Option Value) (h : Heap) (L : List Loc) : Prop := v = some (.int 1) ∧ Fr n0 L ∧ True
set_option maxRecDepth 65536 in
set_option maxHeartbeats 40000000 in
theorem own_law2 (l : Launch) (Z : State) (a0 : Array Value) (hw : ∀ d ∈ tables_1, d.before a0 Z = true) (ws : List Jvm.Cond) (w_STRING : Addr) (w_INTEGER : Addr) (w_LONG : Addr) (w_SHORT : Addr) (w_BYTE : Addr) (w_DOUBLE : Addr) (w_FLOAT : Addr) (w_BIG_DECIMAL : Addr) (w_BIG_INTEGER : Addr) (w_BOOLEAN : Addr) (w_LOCAL_DATE : Addr) (w_LOCAL_TIME : Addr) (w_LOCAL_DATE_TIME : Addr) (p0 : Int32) (h0 : Heap) (n0 : Nat) (O0 : Old Z n0 h0) (U_STRING : own_En Z Z.heap "com/example/traversal/traversal/model/BasicType" "STRING" "Lcom/example/traversal/traversal/model/BasicType;" w_STRING (0 : Int32)) (U_INTEGER : own_En Z Z.heap "com/example/traversal/traversal/model/BasicType" "INTEGER" "Lcom/example/traversal/traversal/model/BasicType;" w_INTEGER (1 : Int32)) (U_LONG : own_En Z Z.heap "com/example/traversal/traversal/model/BasicType" "LONG" "Lcom/example/traversal/traversal/model/BasicType;" w_LONG (2 : Int32)) (U_SHORT : own_En Z Z.heap "com/example/traversal/traversal/model/BasicType" "SHORT" "Lcom/example/traversal/traversal/model/BasicType;" w_SHORT (3 : Int32)) (U_BYTE : own_En Z Z.heap "com/example/traversal/traversal/model/BasicType" "BYTE" "Lcom/example/traversal/traversal/model/BasicType;" w_BYTE (4 : Int32)) (U_DOUBLE : own_En Z Z.heap "com/example/traversal/traversal/model/BasicType" "DOUBLE" "Lcom/example/traversal/traversal/model/BasicType;" w_DOUBLE (5 : Int32)) (U_FLOAT : own_En Z Z.heap "com/example/traversal/traversal/model/BasicType" "FLOAT" "Lcom/example/traversal/traversal/model/BasicType;" w_FLOAT (6 : Int32)) (U_BIG_DECIMAL : own_En Z Z.heap "com/example/traversal/traversal/model/BasicType" "BIG_DECIMAL" "Lcom/example/traversal/traversal/model/BasicType;" w_BIG_DECIMAL (7 : Int32)) (U_BIG_INTEGER : own_En Z Z.heap "com/example/traversal/traversal/model/BasicType" "BIG_INTEGER" "Lcom/example/traversal/traversal/model/BasicType;" w_BIG_INTEGER (8 : Int32)) (U_BOOLEAN : own_En Z Z.heap "com/example/traversal/traversal/model/BasicType" "BOOLEAN" "Lcom/example/traversal/traversal/model/BasicType;" w_BOOLEAN (9 : Int32)) (U_LOCAL_DATE : own_En Z Z.heap "com/example/traversal/traversal/model/BasicType" "LOCAL_DATE" "Lcom/example/traversal/traversal/model/BasicType;" w_LOCAL_DATE (10 : Int32)) (U_LOCAL_TIME : own_En Z Z.heap "com/example/traversal/traversal/model/BasicType" "LOCAL_TIME" "Lcom/example/traversal/traversal/model/BasicType;" w_LOCAL_TIME (11 : Int32)) (U_LOCAL_DATE_TIME : own_En Z Z.heap "com/example/traversal/traversal/model/BasicType" "LOCAL_DATE_TIME" "Lcom/example/traversal/traversal/model/BasicType;" w_LOCAL_DATE_TIME (12 : Int32)) (hk : (p0 &&& (2147483647 : Int32)) % (13 : Int32) = (2 : Int32)) :
    MetFree l x (head1 (Jvm.Cond.code x code maxLocals ret :: ws) room_1) (fun a U => a = #[(.int p0)] ∧ Z.Warmed39 U.vm ∧ U.heap = h0) (fun _ _ _ _ _ => True) (fun _ U o U' => ∃ v L, o = .returned v ∧ own_law2_Q Z w_STRING w_INTEGER w_LONG w_SHORT w_BYTE w_DOUBLE w_FLOAT w_BIG_DECIMAL w_BIG_INTEGER w_BOOLEAN w_LOCAL_DATE w_LOCAL_TIME w_LOCAL_DATE_TIME p0 h0 n0 v U'.heap L ∧ FrameEnd U o U' L 0 0) := by
  refine MetFree.of_bodySF (plainFor_of_name own_pn1) hisR ?_
  intro p e s m args below meth c s₁ Bd hml0 hP hK
  obtain ⟨rfl, hZ, hh⟩ := hP
  have hx := Bd.exec
  have hby := Bd.bytes
  have hml : c.maxLocals = 4 := hml0
  have hown : s.vm.findClass "com/example/traversal/traversal/model/BasicTypeIsIntegralPinLaw" = some m.cls := findClass_of_methodNamed Bd.named
  have hnm := (name_of_methodNamed Bd.named Bd.method).1
  have X0 : Stand p l e room_1 s m #[(.int p0)] below meth c s₁ [] 0 0 := Stand.of_body Bd
  have e0 : s₁.heap = h0 := by rw [← hh, Bd.state]; rfl
  have N0 := Fr.nil n0
  have pre0 : ∀ t, Steps p.tables e below (s₁.setTop (mkF m 0 #[iv p0, .unset, .unset, .unset] [])) t → Steps p.tables e below (s₁.setTop (entryFrame m #[(.int p0)] maxLocals)) t := fun t k => castTop (own_law2_ef m p0) k
  obtain ⟨_, _, ⟨T1, L1, k1, n1⟩, -, X1, ⟨Lc1, hQ1, l1, y1, z1⟩, st1⟩ := Jvm.LawKit.callS X0 hx (y := (⟨"com/example/traversal/traversal/model/BasicTypeIsIntegralPinLaw", "pick", "(I)Lcom/example/traversal/traversal/model/BasicType;"⟩ : MethodName)) hown (mvT hZ (hw _ (List.mem_of_getElem? (i := 1) rfl))) (mvT hZ (hw _ (List.mem_of_getElem? (i := 2) rfl))) (mvT hZ (hw _ (List.mem_of_getElem? (i := 3) rfl))) (mvT hZ (hw _ (List.mem_of_getElem? (i := 4) rfl))) (by decide) (backOf (W := 0) (own_p_2 l Z a0 hw [] w_STRING w_INTEGER w_LONG w_SHORT w_BYTE w_DOUBLE w_FLOAT w_BIG_DECIMAL w_BIG_INTEGER w_BOOLEAN w_LOCAL_DATE w_LOCAL_TIME w_LOCAL_DATE_TIME  h0 n0 O0 U_STRING U_INTEGER U_LONG U_SHORT U_BYTE U_DOUBLE U_FLOAT U_BIG_DECIMAL U_BIG_INTEGER U_BOOLEAN U_LOCAL_DATE U_LOCAL_TIME U_LOCAL_DATE_TIME ) hZ (hw _ (List.mem_of_getElem? (i := 4) rfl)) (hw _ (List.mem_of_getElem? (i := 3) rfl)) (by decide) (by decide)) (g := (mkF m 9 #[iv p0, iv 2, .unset, .unset] [(.int 2)])) rfl (by rw [hml]; rfl) (argsL := [(.int 2)]) (rest := []) (lenOf own_pd0 rfl) rfl (by show 2 * 0 + _ ≤ _; exact Nat.le_of_eq rfl) (hb hby at_9) (fun _ _ => ⟨rfl, e0, (by decide : 0 + 0 ≤ _), (by decide : 0 + 0 ≤ _)⟩)
  dsimp only [Pt.U, Pt.locs, Pt.cells, Pt.slots] at X1 l1 y1 z1 st1 hQ1
  subst l1 y1 z1
  obtain ⟨rfl, N1q, e1⟩ := hQ1
  have N1 := Fr.app N0 N1q
  obtain ⟨cq2, kq2, q2a, q2b, q2c⟩ := isOf hZ e1 (U_LONG.2.1.ext O0.2)
  obtain ⟨_, _, ⟨T2, L2, k2, n2⟩, -, X2, ⟨Lc2, hQ2, l2, y2, z2⟩, st2⟩ := X1.virtualBack hx (y := (⟨"com/example/traversal/traversal/model/BasicType", "isIntegral", "()Z"⟩ : MethodName)) (z := (⟨"com/example/traversal/traversal/model/BasicType", "isIntegral", "()Z"⟩ : MethodName)) hown (mvT hZ (hw _ (List.mem_of_getElem? (i := 8) rfl))) (mvT hZ (hw _ (List.mem_of_getElem? (i := 9) rfl))) (notFace_of_selects (args := #[]) (mvT hZ (hw _ (List.mem_of_getElem? (i := 11) rfl)))) (mvT hZ (hw _ (List.mem_of_getElem? (i := 11) rfl))) (mvT hZ (hw _ (List.mem_of_getElem? (i := 10) rfl))) (by decide) (backOf (W := 0) (own_m_LONG l Z a0 hw [] w_STRING w_INTEGER w_LONG w_SHORT w_BYTE w_DOUBLE w_FLOAT w_BIG_DECIMAL w_BIG_INTEGER w_BOOLEAN w_LOCAL_DATE w_LOCAL_TIME w_LOCAL_DATE_TIME  h0 n0 O0 U_STRING U_INTEGER U_LONG U_SHORT U_BYTE U_DOUBLE U_FLOAT U_BIG_DECIMAL U_BIG_INTEGER U_BOOLEAN U_LOCAL_DATE U_LOCAL_TIME U_LOCAL_DATE_TIME ) hZ (hw _ (List.mem_of_getElem? (i := 12) rfl)) (hw _ (List.mem_of_getElem? (i := 6) rfl)) (by decide) (by decide)) q2a q2c (g := (mkF m 36 #[iv p0, iv 2, rv w_LONG, iv 1] [(.ref w_LONG)])) rfl (by rw [hml]; rfl) (Steps.refl _) (argsL := []) (rest := []) (lenOf own_pd1 rfl) rfl (by show 2 * 0 + _ ≤ _; exact Nat.le_of_eq rfl) (hb hby at_36) (fun _ _ => ⟨rfl, e1, (by decide : 0 + 0 ≤ _), (by decide : 0 + 0 ≤ _)⟩)
  dsimp only [Pt.U, Pt.locs, Pt.cells, Pt.slots] at X2 l2 y2 z2 st2 hQ2
  subst l2 y2 z2
  obtain ⟨rfl, N2q, e2⟩ := hQ2
  have N2 := Fr.app N1 N2q
  obtain ⟨fs, hr, hrun, hended, hW, hsame⟩ := X2.leave (v := some (.int 1)) (fun h => by rw [Bd.returns] at h; cases h)
  refine ⟨_, _, pre0 _ ?_, hrun, hended, _, _, rfl, ?_, ⟨_, rfl⟩, hW, hsame.mono (by decide) (by decide)⟩
  · show Steps p.tables e below (s₁.setTop (mkF m 0 #[iv p0, .unset, .unset, .unset] [])) _
    refine XS.iloadN X0.here hx rfl (hb hby at_0) rfl ?_
    show Steps p.tables e below (s₁.setTop (mkF m 1 #[iv p0, .unset, .unset, .unset] [(.int p0)])) _
    refine X0.ldcInt hx hown (mvT hZ (hw _ (List.mem_of_getElem? (i := 0) rfl))) (g := (mkF m 1 #[iv p0, .unset, .unset, .unset] [(.int p0)])) rfl (hb hby at_1) _ ?_
    show Steps p.tables e below (s₁.setTop (mkF m 3 #[iv p0, .unset, .unset, .unset] [(.int 2147483647), (.int p0)])) _
    refine XS.iand X0.here hx rfl (hb hby at_3) rfl ?_
    show Steps p.tables e below (s₁.setTop (mkF m 4 #[iv p0, .unset, .unset, .unset] [(.int (p0 &&& (2147483647 : Int32)))])) _
    refine XS.bipush X0.here hx rfl (hb hby at_4) ?_
    show Steps p.tables e below (s₁.setTop (mkF m 6 #[iv p0, .unset, .unset, .unset] [(.int 13), (.int (p0 &&& (2147483647 : Int32)))])) _
    refine iremM X0 hx rfl (hb hby at_6) rfl (by decide) ?_
    show Steps p.tables e below (s₁.setTop (mkF m 7 #[iv p0, .unset, .unset, .unset] [(.int ((p0 &&& (2147483647 : Int32)) % (13 : Int32)))])) _
    refine own_top (v' := (.int 2)) (congrArg Value.int hk) ?_
    show Steps p.tables e below (s₁.setTop (mkF m 7 #[iv p0, .unset, .unset, .unset] [(.int 2)])) _
    refine XS.istoreN X0.here hx rfl (hb hby at_7) rfl (l' := #[iv p0, iv 2, .unset, .unset]) rfl ?_
    show Steps p.tables e below (s₁.setTop (mkF m 8 #[iv p0, iv 2, .unset, .unset] [])) _
    refine XS.iloadN X0.here hx rfl (hb hby at_8) rfl ?_
    show Steps p.tables e below (s₁.setTop (mkF m 9 #[iv p0, iv 2, .unset, .unset] [(.int 2)])) _
    refine st1 _ ?_
    show Steps p.tables e below (T1.setTop (mkF m 12 #[iv p0, iv 2, .unset, .unset] [(.ref w_LONG)])) _
    refine XS.astoreN X1.here hx rfl (hb hby at_12) rfl rfl (l' := #[iv p0, iv 2, rv w_LONG, .unset]) rfl ?_
    show Steps p.tables e below (T1.setTop (mkF m 13 #[iv p0, iv 2, rv w_LONG, .unset] [])) _
    refine XS.iloadN X1.here hx rfl (hb hby at_13) rfl ?_
    show Steps p.tables e below (T1.setTop (mkF m 14 #[iv p0, iv 2, rv w_LONG, .unset] [(.int 2)])) _
    refine XS.iconst X1.here hx rfl (hb hby at_14) ?_
    show Steps p.tables e below (T1.setTop (mkF m 15 #[iv p0, iv 2, rv w_LONG, .unset] [(.int 1), (.int 2)])) _
    refine XS.icmpNo X1.here hx rfl (hb hby at_15) rfl (flt (by decide)).1 ?_
    show Steps p.tables e below (T1.setTop (mkF m 18 #[iv p0, iv 2, rv w_LONG, .unset] [])) _
    refine XS.iloadN X1.here hx rfl (hb hby at_18) rfl ?_
    show Steps p.tables e below (T1.setTop (mkF m 19 #[iv p0, iv 2, rv w_LONG, .unset] [(.int 2)])) _
    refine XS.iconst X1.here hx rfl (hb hby at_19) ?_
    show Steps p.tables e below (T1.setTop (mkF m 20 #[iv p0, iv 2, rv w_LONG, .unset] [(.int 4), (.int 2)])) _
    refine XS.icmpYes X1.here hx rfl (pc0 := 20) (pc' := 29) rfl (hb hby at_20) rfl (flt (by decide)).2.2.2 (by decide) (by decide) ?_
    show Steps p.tables e below (T1.setTop (mkF m 29 #[iv p0, iv 2, rv w_LONG, .unset] [])) _
    refine XS.iconst X1.here hx rfl (hb hby at_29) ?_
    show Steps p.tables e below (T1.setTop (mkF m 30 #[iv p0, iv 2, rv w_LONG, .unset] [(.int 1)])) _
    refine XS.goto X1.here hx rfl (pc0 := 30) (pc' := 34) rfl (hb hby at_30) (by decide) (by decide) ?_
    show Steps p.tables e below (T1.setTop (mkF m 34 #[iv p0, iv 2, rv w_LONG, .unset] [(.int 1)])) _
    refine XS.istoreN X1.here hx rfl (hb hby at_34) rfl (l' := #[iv p0, iv 2, rv w_LONG, iv 1]) rfl ?_
    show Steps p.tables e below (T1.setTop (mkF m 35 #[iv p0, iv 2, rv w_LONG, iv 1] [])) _
    refine XS.aloadN X1.here hx rfl (hb hby at_35) rfl rfl ?_
    show Steps p.tables e below (T1.setTop (mkF m 36 #[iv p0, iv 2, rv w_LONG, iv 1] [(.ref w_LONG)])) _
    refine st2.trans ?_
    show Steps p.tables e below (T2.setTop (mkF m 39 #[iv p0, iv 2, rv w_LONG, iv 1] [(.int 1)])) _
    refine XS.iloadN X2.here hx rfl (hb hby at_39) rfl ?_
    show Steps p.tables e below (T2.setTop (mkF m 40 #[iv p0, iv 2, rv w_LONG, iv 1] [(.int 1), (.int 1)])) _
    refine XS.icmpNo X2.here hx rfl (hb hby at_40) rfl (teq (by decide)).2 ?_
    show Steps p.tables e below (T2.setTop (mkF m 43 #[iv p0, iv 2, rv w_LONG, iv 1] [])) _
    refine XS.iconst X2.here hx rfl (hb hby at_43) ?_
    show Steps p.tables e below (T2.setTop (mkF m 44 #[iv p0, iv 2, rv w_LONG, iv 1] [(.int 1)])) _
    refine XS.goto X2.here hx rfl (pc0 := 44) (pc' := 48) rfl (hb hby at_44) (by decide) (by decide) ?_
    show Steps p.tables e below (T2.setTop (mkF m 48 #[iv p0, iv 2, rv w_LONG, iv 1] [(.int 1)])) _
    exact retN X2 hx (t := .boolean) Bd.returns (by simp) (hb hby at_48) hr
  · show own_law2_Q Z w_STRING w_INTEGER w_LONG w_SHORT w_BYTE w_DOUBLE w_FLOAT w_BIG_DECIMAL w_BIG_INTEGER w_BOOLEAN w_LOCAL_DATE w_LOCAL_TIME w_LOCAL_DATE_TIME p0 h0 n0 _ T2.heap _
    rw [e2]
    exact ⟨rfl, N2, trivial⟩
theorem own_law3_ef (m : MethodId) (p0 : Int32) : entryFrame m #[(.int p0)] maxLocals = mkF m 0 #[iv p0, .unset, .unset, .unset] [] := by first | (simp [entryFrame, mkF, argsToLocals, Value.category, maxLocals]; done) | rfl
def own_law3_Q (Z : State) (w_STRING : Addr) (w_INTEGER : Addr) (w_LONG : Addr) (w_SHORT : Addr) (w_BYTE : Addr) (w_DOUBLE : Addr) (w_FLOAT : Addr) (w_BIG_DECIMAL : Addr) (w_BIG_INTEGER : Addr) (w_BOOLEAN : Addr) (w_LOCAL_DATE : Addr) (w_LOCAL_TIME : Addr) (w_LOCAL_DATE_TIME : Addr) (p0 : Int32) (h0 : Heap) (n0 : Nat) (v : Option Value) (h : Heap) (L : List Loc) : Prop := v = some (.int 1) ∧ Fr n0 L ∧ True
set_option maxRecDepth 65536 in
set_option maxHeartbeats 40000000 in
theorem own_law3 (l : Launch) (Z : State) (a0 : Array Value) (hw : ∀ d ∈ tables_1, d.before a0 Z = true) (ws : List Jvm.Cond) (w_STRING : Addr) (w_INTEGER : Addr) (w_LONG : Addr) (w_SHORT : Addr) (w_BYTE : Addr) (w_DOUBLE : Addr) (w_FLOAT : Addr) (w_BIG_DECIMAL : Addr) (w_BIG_INTEGER : Addr) (w_BOOLEAN : Addr) (w_LOCAL_DATE : Addr) (w_LOCAL_TIME : Addr) (w_LOCAL_DATE_TIME : Addr) (p0 : Int32) (h0 : Heap) (n0 : Nat) (O0 : Old Z n0 h0) (U_STRING : own_En Z Z.heap "com/example/traversal/traversal/model/BasicType" "STRING" "Lcom/example/traversal/traversal/model/BasicType;" w_STRING (0 : Int32)) (U_INTEGER : own_En Z Z.heap "com/example/traversal/traversal/model/BasicType" "INTEGER" "Lcom/example/traversal/traversal/model/BasicType;" w_INTEGER (1 : Int32)) (U_LONG : own_En Z Z.heap "com/example/traversal/traversal/model/BasicType" "LONG" "Lcom/example/traversal/traversal/model/BasicType;" w_LONG (2 : Int32)) (U_SHORT : own_En Z Z.heap "com/example/traversal/traversal/model/BasicType" "SHORT" "Lcom/example/traversal/traversal/model/BasicType;" w_SHORT (3 : Int32)) (U_BYTE : own_En Z Z.heap "com/example/traversal/traversal/model/BasicType" "BYTE" "Lcom/example/traversal/traversal/model/BasicType;" w_BYTE (4 : Int32)) (U_DOUBLE : own_En Z Z.heap "com/example/traversal/traversal/model/BasicType" "DOUBLE" "Lcom/example/traversal/traversal/model/BasicType;" w_DOUBLE (5 : Int32)) (U_FLOAT : own_En Z Z.heap "com/example/traversal/traversal/model/BasicType" "FLOAT" "Lcom/example/traversal/traversal/model/BasicType;" w_FLOAT (6 : Int32)) (U_BIG_DECIMAL : own_En Z Z.heap "com/example/traversal/traversal/model/BasicType" "BIG_DECIMAL" "Lcom/example/traversal/traversal/model/BasicType;" w_BIG_DECIMAL (7 : Int32)) (U_BIG_INTEGER : own_En Z Z.heap "com/example/traversal/traversal/model/BasicType" "BIG_INTEGER" "Lcom/example/traversal/traversal/model/BasicType;" w_BIG_INTEGER (8 : Int32)) (U_BOOLEAN : own_En Z Z.heap "com/example/traversal/traversal/model/BasicType" "BOOLEAN" "Lcom/example/traversal/traversal/model/BasicType;" w_BOOLEAN (9 : Int32)) (U_LOCAL_DATE : own_En Z Z.heap "com/example/traversal/traversal/model/BasicType" "LOCAL_DATE" "Lcom/example/traversal/traversal/model/BasicType;" w_LOCAL_DATE (10 : Int32)) (U_LOCAL_TIME : own_En Z Z.heap "com/example/traversal/traversal/model/BasicType" "LOCAL_TIME" "Lcom/example/traversal/traversal/model/BasicType;" w_LOCAL_TIME (11 : Int32)) (U_LOCAL_DATE_TIME : own_En Z Z.heap "com/example/traversal/traversal/model/BasicType" "LOCAL_DATE_TIME" "Lcom/example/traversal/traversal/model/BasicType;" w_LOCAL_DATE_TIME (12 : Int32)) (hk : (p0 &&& (2147483647 : Int32)) % (13 : Int32) = (3 : Int32)) :
    MetFree l x (head1 (Jvm.Cond.code x code maxLocals ret :: ws) room_1) (fun a U => a = #[(.int p0)] ∧ Z.Warmed39 U.vm ∧ U.heap = h0) (fun _ _ _ _ _ => True) (fun _ U o U' => ∃ v L, o = .returned v ∧ own_law3_Q Z w_STRING w_INTEGER w_LONG w_SHORT w_BYTE w_DOUBLE w_FLOAT w_BIG_DECIMAL w_BIG_INTEGER w_BOOLEAN w_LOCAL_DATE w_LOCAL_TIME w_LOCAL_DATE_TIME p0 h0 n0 v U'.heap L ∧ FrameEnd U o U' L 0 0) := by
  refine MetFree.of_bodySF (plainFor_of_name own_pn1) hisR ?_
  intro p e s m args below meth c s₁ Bd hml0 hP hK
  obtain ⟨rfl, hZ, hh⟩ := hP
  have hx := Bd.exec
  have hby := Bd.bytes
  have hml : c.maxLocals = 4 := hml0
  have hown : s.vm.findClass "com/example/traversal/traversal/model/BasicTypeIsIntegralPinLaw" = some m.cls := findClass_of_methodNamed Bd.named
  have hnm := (name_of_methodNamed Bd.named Bd.method).1
  have X0 : Stand p l e room_1 s m #[(.int p0)] below meth c s₁ [] 0 0 := Stand.of_body Bd
  have e0 : s₁.heap = h0 := by rw [← hh, Bd.state]; rfl
  have N0 := Fr.nil n0
  have pre0 : ∀ t, Steps p.tables e below (s₁.setTop (mkF m 0 #[iv p0, .unset, .unset, .unset] [])) t → Steps p.tables e below (s₁.setTop (entryFrame m #[(.int p0)] maxLocals)) t := fun t k => castTop (own_law3_ef m p0) k
  obtain ⟨_, _, ⟨T1, L1, k1, n1⟩, -, X1, ⟨Lc1, hQ1, l1, y1, z1⟩, st1⟩ := Jvm.LawKit.callS X0 hx (y := (⟨"com/example/traversal/traversal/model/BasicTypeIsIntegralPinLaw", "pick", "(I)Lcom/example/traversal/traversal/model/BasicType;"⟩ : MethodName)) hown (mvT hZ (hw _ (List.mem_of_getElem? (i := 1) rfl))) (mvT hZ (hw _ (List.mem_of_getElem? (i := 2) rfl))) (mvT hZ (hw _ (List.mem_of_getElem? (i := 3) rfl))) (mvT hZ (hw _ (List.mem_of_getElem? (i := 4) rfl))) (by decide) (backOf (W := 0) (own_p_3 l Z a0 hw [] w_STRING w_INTEGER w_LONG w_SHORT w_BYTE w_DOUBLE w_FLOAT w_BIG_DECIMAL w_BIG_INTEGER w_BOOLEAN w_LOCAL_DATE w_LOCAL_TIME w_LOCAL_DATE_TIME  h0 n0 O0 U_STRING U_INTEGER U_LONG U_SHORT U_BYTE U_DOUBLE U_FLOAT U_BIG_DECIMAL U_BIG_INTEGER U_BOOLEAN U_LOCAL_DATE U_LOCAL_TIME U_LOCAL_DATE_TIME ) hZ (hw _ (List.mem_of_getElem? (i := 4) rfl)) (hw _ (List.mem_of_getElem? (i := 3) rfl)) (by decide) (by decide)) (g := (mkF m 9 #[iv p0, iv 3, .unset, .unset] [(.int 3)])) rfl (by rw [hml]; rfl) (argsL := [(.int 3)]) (rest := []) (lenOf own_pd0 rfl) rfl (by show 2 * 0 + _ ≤ _; exact Nat.le_of_eq rfl) (hb hby at_9) (fun _ _ => ⟨rfl, e0, (by decide : 0 + 0 ≤ _), (by decide : 0 + 0 ≤ _)⟩)
  dsimp only [Pt.U, Pt.locs, Pt.cells, Pt.slots] at X1 l1 y1 z1 st1 hQ1
  subst l1 y1 z1
  obtain ⟨rfl, N1q, e1⟩ := hQ1
  have N1 := Fr.app N0 N1q
  obtain ⟨cq2, kq2, q2a, q2b, q2c⟩ := isOf hZ e1 (U_SHORT.2.1.ext O0.2)
  obtain ⟨_, _, ⟨T2, L2, k2, n2⟩, -, X2, ⟨Lc2, hQ2, l2, y2, z2⟩, st2⟩ := X1.virtualBack hx (y := (⟨"com/example/traversal/traversal/model/BasicType", "isIntegral", "()Z"⟩ : MethodName)) (z := (⟨"com/example/traversal/traversal/model/BasicType", "isIntegral", "()Z"⟩ : MethodName)) hown (mvT hZ (hw _ (List.mem_of_getElem? (i := 8) rfl))) (mvT hZ (hw _ (List.mem_of_getElem? (i := 9) rfl))) (notFace_of_selects (args := #[]) (mvT hZ (hw _ (List.mem_of_getElem? (i := 11) rfl)))) (mvT hZ (hw _ (List.mem_of_getElem? (i := 11) rfl))) (mvT hZ (hw _ (List.mem_of_getElem? (i := 10) rfl))) (by decide) (backOf (W := 0) (own_m_SHORT l Z a0 hw [] w_STRING w_INTEGER w_LONG w_SHORT w_BYTE w_DOUBLE w_FLOAT w_BIG_DECIMAL w_BIG_INTEGER w_BOOLEAN w_LOCAL_DATE w_LOCAL_TIME w_LOCAL_DATE_TIME  h0 n0 O0 U_STRING U_INTEGER U_LONG U_SHORT U_BYTE U_DOUBLE U_FLOAT U_BIG_DECIMAL U_BIG_INTEGER U_BOOLEAN U_LOCAL_DATE U_LOCAL_TIME U_LOCAL_DATE_TIME ) hZ (hw _ (List.mem_of_getElem? (i := 12) rfl)) (hw _ (List.mem_of_getElem? (i := 6) rfl)) (by decide) (by decide)) q2a q2c (g := (mkF m 36 #[iv p0, iv 3, rv w_SHORT, iv 1] [(.ref w_SHORT)])) rfl (by rw [hml]; rfl) (Steps.refl _) (argsL := []) (rest := []) (lenOf own_pd1 rfl) rfl (by show 2 * 0 + _ ≤ _; exact Nat.le_of_eq rfl) (hb hby at_36) (fun _ _ => ⟨rfl, e1, (by decide : 0 + 0 ≤ _), (by decide : 0 + 0 ≤ _)⟩)
  dsimp only [Pt.U, Pt.locs, Pt.cells, Pt.slots] at X2 l2 y2 z2 st2 hQ2
  subst l2 y2 z2
  obtain ⟨rfl, N2q, e2⟩ := hQ2
  have N2 := Fr.app N1 N2q
  obtain ⟨fs, hr, hrun, hended, hW, hsame⟩ := X2.leave (v := some (.int 1)) (fun h => by rw [Bd.returns] at h; cases h)
  refine ⟨_, _, pre0 _ ?_, hrun, hended, _, _, rfl, ?_, ⟨_, rfl⟩, hW, hsame.mono (by decide) (by decide)⟩
  · show Steps p.tables e below (s₁.setTop (mkF m 0 #[iv p0, .unset, .unset, .unset] [])) _
    refine XS.iloadN X0.here hx rfl (hb hby at_0) rfl ?_
    show Steps p.tables e below (s₁.setTop (mkF m 1 #[iv p0, .unset, .unset, .unset] [(.int p0)])) _
    refine X0.ldcInt hx hown (mvT hZ (hw _ (List.mem_of_getElem? (i := 0) rfl))) (g := (mkF m 1 #[iv p0, .unset, .unset, .unset] [(.int p0)])) rfl (hb hby at_1) _ ?_
    show Steps p.tables e below (s₁.setTop (mkF m 3 #[iv p0, .unset, .unset, .unset] [(.int 2147483647), (.int p0)])) _
    refine XS.iand X0.here hx rfl (hb hby at_3) rfl ?_
    show Steps p.tables e below (s₁.setTop (mkF m 4 #[iv p0, .unset, .unset, .unset] [(.int (p0 &&& (2147483647 : Int32)))])) _
    refine XS.bipush X0.here hx rfl (hb hby at_4) ?_
    show Steps p.tables e below (s₁.setTop (mkF m 6 #[iv p0, .unset, .unset, .unset] [(.int 13), (.int (p0 &&& (2147483647 : Int32)))])) _
    refine iremM X0 hx rfl (hb hby at_6) rfl (by decide) ?_
    show Steps p.tables e below (s₁.setTop (mkF m 7 #[iv p0, .unset, .unset, .unset] [(.int ((p0 &&& (2147483647 : Int32)) % (13 : Int32)))])) _
    refine own_top (v' := (.int 3)) (congrArg Value.int hk) ?_
    show Steps p.tables e below (s₁.setTop (mkF m 7 #[iv p0, .unset, .unset, .unset] [(.int 3)])) _
    refine XS.istoreN X0.here hx rfl (hb hby at_7) rfl (l' := #[iv p0, iv 3, .unset, .unset]) rfl ?_
    show Steps p.tables e below (s₁.setTop (mkF m 8 #[iv p0, iv 3, .unset, .unset] [])) _
    refine XS.iloadN X0.here hx rfl (hb hby at_8) rfl ?_
    show Steps p.tables e below (s₁.setTop (mkF m 9 #[iv p0, iv 3, .unset, .unset] [(.int 3)])) _
    refine st1 _ ?_
    show Steps p.tables e below (T1.setTop (mkF m 12 #[iv p0, iv 3, .unset, .unset] [(.ref w_SHORT)])) _
    refine XS.astoreN X1.here hx rfl (hb hby at_12) rfl rfl (l' := #[iv p0, iv 3, rv w_SHORT, .unset]) rfl ?_
    show Steps p.tables e below (T1.setTop (mkF m 13 #[iv p0, iv 3, rv w_SHORT, .unset] [])) _
    refine XS.iloadN X1.here hx rfl (hb hby at_13) rfl ?_
    show Steps p.tables e below (T1.setTop (mkF m 14 #[iv p0, iv 3, rv w_SHORT, .unset] [(.int 3)])) _
    refine XS.iconst X1.here hx rfl (hb hby at_14) ?_
    show Steps p.tables e below (T1.setTop (mkF m 15 #[iv p0, iv 3, rv w_SHORT, .unset] [(.int 1), (.int 3)])) _
    refine XS.icmpNo X1.here hx rfl (hb hby at_15) rfl (flt (by decide)).1 ?_
    show Steps p.tables e below (T1.setTop (mkF m 18 #[iv p0, iv 3, rv w_SHORT, .unset] [])) _
    refine XS.iloadN X1.here hx rfl (hb hby at_18) rfl ?_
    show Steps p.tables e below (T1.setTop (mkF m 19 #[iv p0, iv 3, rv w_SHORT, .unset] [(.int 3)])) _
    refine XS.iconst X1.here hx rfl (hb hby at_19) ?_
    show Steps p.tables e below (T1.setTop (mkF m 20 #[iv p0, iv 3, rv w_SHORT, .unset] [(.int 4), (.int 3)])) _
    refine XS.icmpYes X1.here hx rfl (pc0 := 20) (pc' := 29) rfl (hb hby at_20) rfl (flt (by decide)).2.2.2 (by decide) (by decide) ?_
    show Steps p.tables e below (T1.setTop (mkF m 29 #[iv p0, iv 3, rv w_SHORT, .unset] [])) _
    refine XS.iconst X1.here hx rfl (hb hby at_29) ?_
    show Steps p.tables e below (T1.setTop (mkF m 30 #[iv p0, iv 3, rv w_SHORT, .unset] [(.int 1)])) _
    refine XS.goto X1.here hx rfl (pc0 := 30) (pc' := 34) rfl (hb hby at_30) (by decide) (by decide) ?_
    show Steps p.tables e below (T1.setTop (mkF m 34 #[iv p0, iv 3, rv w_SHORT, .unset] [(.int 1)])) _
    refine XS.istoreN X1.here hx rfl (hb hby at_34) rfl (l' := #[iv p0, iv 3, rv w_SHORT, iv 1]) rfl ?_
    show Steps p.tables e below (T1.setTop (mkF m 35 #[iv p0, iv 3, rv w_SHORT, iv 1] [])) _
    refine XS.aloadN X1.here hx rfl (hb hby at_35) rfl rfl ?_
    show Steps p.tables e below (T1.setTop (mkF m 36 #[iv p0, iv 3, rv w_SHORT, iv 1] [(.ref w_SHORT)])) _
    refine st2.trans ?_
    show Steps p.tables e below (T2.setTop (mkF m 39 #[iv p0, iv 3, rv w_SHORT, iv 1] [(.int 1)])) _
    refine XS.iloadN X2.here hx rfl (hb hby at_39) rfl ?_
    show Steps p.tables e below (T2.setTop (mkF m 40 #[iv p0, iv 3, rv w_SHORT, iv 1] [(.int 1), (.int 1)])) _
    refine XS.icmpNo X2.here hx rfl (hb hby at_40) rfl (teq (by decide)).2 ?_
    show Steps p.tables e below (T2.setTop (mkF m 43 #[iv p0, iv 3, rv w_SHORT, iv 1] [])) _
    refine XS.iconst X2.here hx rfl (hb hby at_43) ?_
    show Steps p.tables e below (T2.setTop (mkF m 44 #[iv p0, iv 3, rv w_SHORT, iv 1] [(.int 1)])) _
    refine XS.goto X2.here hx rfl (pc0 := 44) (pc' := 48) rfl (hb hby at_44) (by decide) (by decide) ?_
    show Steps p.tables e below (T2.setTop (mkF m 48 #[iv p0, iv 3, rv w_SHORT, iv 1] [(.int 1)])) _
    exact retN X2 hx (t := .boolean) Bd.returns (by simp) (hb hby at_48) hr
  · show own_law3_Q Z w_STRING w_INTEGER w_LONG w_SHORT w_BYTE w_DOUBLE w_FLOAT w_BIG_DECIMAL w_BIG_INTEGER w_BOOLEAN w_LOCAL_DATE w_LOCAL_TIME w_LOCAL_DATE_TIME p0 h0 n0 _ T2.heap _
    rw [e2]
    exact ⟨rfl, N2, trivial⟩
theorem own_law4_ef (m : MethodId) (p0 : Int32) : entryFrame m #[(.int p0)] maxLocals = mkF m 0 #[iv p0, .unset, .unset, .unset] [] := by first | (simp [entryFrame, mkF, argsToLocals, Value.category, maxLocals]; done) | rfl
def own_law4_Q (Z : State) (w_STRING : Addr) (w_INTEGER : Addr) (w_LONG : Addr) (w_SHORT : Addr) (w_BYTE : Addr) (w_DOUBLE : Addr) (w_FLOAT : Addr) (w_BIG_DECIMAL : Addr) (w_BIG_INTEGER : Addr) (w_BOOLEAN : Addr) (w_LOCAL_DATE : Addr) (w_LOCAL_TIME : Addr) (w_LOCAL_DATE_TIME : Addr) (p0 : Int32) (h0 : Heap) (n0 : Nat) (v : Option Value) (h : Heap) (L : List Loc) : Prop := v = some (.int 1) ∧ Fr n0 L ∧ True
set_option maxRecDepth 65536 in
set_option maxHeartbeats 40000000 in
theorem own_law4 (l : Launch) (Z : State) (a0 : Array Value) (hw : ∀ d ∈ tables_1, d.before a0 Z = true) (ws : List Jvm.Cond) (w_STRING : Addr) (w_INTEGER : Addr) (w_LONG : Addr) (w_SHORT : Addr) (w_BYTE : Addr) (w_DOUBLE : Addr) (w_FLOAT : Addr) (w_BIG_DECIMAL : Addr) (w_BIG_INTEGER : Addr) (w_BOOLEAN : Addr) (w_LOCAL_DATE : Addr) (w_LOCAL_TIME : Addr) (w_LOCAL_DATE_TIME : Addr) (p0 : Int32) (h0 : Heap) (n0 : Nat) (O0 : Old Z n0 h0) (U_STRING : own_En Z Z.heap "com/example/traversal/traversal/model/BasicType" "STRING" "Lcom/example/traversal/traversal/model/BasicType;" w_STRING (0 : Int32)) (U_INTEGER : own_En Z Z.heap "com/example/traversal/traversal/model/BasicType" "INTEGER" "Lcom/example/traversal/traversal/model/BasicType;" w_INTEGER (1 : Int32)) (U_LONG : own_En Z Z.heap "com/example/traversal/traversal/model/BasicType" "LONG" "Lcom/example/traversal/traversal/model/BasicType;" w_LONG (2 : Int32)) (U_SHORT : own_En Z Z.heap "com/example/traversal/traversal/model/BasicType" "SHORT" "Lcom/example/traversal/traversal/model/BasicType;" w_SHORT (3 : Int32)) (U_BYTE : own_En Z Z.heap "com/example/traversal/traversal/model/BasicType" "BYTE" "Lcom/example/traversal/traversal/model/BasicType;" w_BYTE (4 : Int32)) (U_DOUBLE : own_En Z Z.heap "com/example/traversal/traversal/model/BasicType" "DOUBLE" "Lcom/example/traversal/traversal/model/BasicType;" w_DOUBLE (5 : Int32)) (U_FLOAT : own_En Z Z.heap "com/example/traversal/traversal/model/BasicType" "FLOAT" "Lcom/example/traversal/traversal/model/BasicType;" w_FLOAT (6 : Int32)) (U_BIG_DECIMAL : own_En Z Z.heap "com/example/traversal/traversal/model/BasicType" "BIG_DECIMAL" "Lcom/example/traversal/traversal/model/BasicType;" w_BIG_DECIMAL (7 : Int32)) (U_BIG_INTEGER : own_En Z Z.heap "com/example/traversal/traversal/model/BasicType" "BIG_INTEGER" "Lcom/example/traversal/traversal/model/BasicType;" w_BIG_INTEGER (8 : Int32)) (U_BOOLEAN : own_En Z Z.heap "com/example/traversal/traversal/model/BasicType" "BOOLEAN" "Lcom/example/traversal/traversal/model/BasicType;" w_BOOLEAN (9 : Int32)) (U_LOCAL_DATE : own_En Z Z.heap "com/example/traversal/traversal/model/BasicType" "LOCAL_DATE" "Lcom/example/traversal/traversal/model/BasicType;" w_LOCAL_DATE (10 : Int32)) (U_LOCAL_TIME : own_En Z Z.heap "com/example/traversal/traversal/model/BasicType" "LOCAL_TIME" "Lcom/example/traversal/traversal/model/BasicType;" w_LOCAL_TIME (11 : Int32)) (U_LOCAL_DATE_TIME : own_En Z Z.heap "com/example/traversal/traversal/model/BasicType" "LOCAL_DATE_TIME" "Lcom/example/traversal/traversal/model/BasicType;" w_LOCAL_DATE_TIME (12 : Int32)) (hk : (p0 &&& (2147483647 : Int32)) % (13 : Int32) = (4 : Int32)) :
    MetFree l x (head1 (Jvm.Cond.code x code maxLocals ret :: ws) room_1) (fun a U => a = #[(.int p0)] ∧ Z.Warmed39 U.vm ∧ U.heap = h0) (fun _ _ _ _ _ => True) (fun _ U o U' => ∃ v L, o = .returned v ∧ own_law4_Q Z w_STRING w_INTEGER w_LONG w_SHORT w_BYTE w_DOUBLE w_FLOAT w_BIG_DECIMAL w_BIG_INTEGER w_BOOLEAN w_LOCAL_DATE w_LOCAL_TIME w_LOCAL_DATE_TIME p0 h0 n0 v U'.heap L ∧ FrameEnd U o U' L 0 0) := by
  refine MetFree.of_bodySF (plainFor_of_name own_pn1) hisR ?_
  intro p e s m args below meth c s₁ Bd hml0 hP hK
  obtain ⟨rfl, hZ, hh⟩ := hP
  have hx := Bd.exec
  have hby := Bd.bytes
  have hml : c.maxLocals = 4 := hml0
  have hown : s.vm.findClass "com/example/traversal/traversal/model/BasicTypeIsIntegralPinLaw" = some m.cls := findClass_of_methodNamed Bd.named
  have hnm := (name_of_methodNamed Bd.named Bd.method).1
  have X0 : Stand p l e room_1 s m #[(.int p0)] below meth c s₁ [] 0 0 := Stand.of_body Bd
  have e0 : s₁.heap = h0 := by rw [← hh, Bd.state]; rfl
  have N0 := Fr.nil n0
  have pre0 : ∀ t, Steps p.tables e below (s₁.setTop (mkF m 0 #[iv p0, .unset, .unset, .unset] [])) t → Steps p.tables e below (s₁.setTop (entryFrame m #[(.int p0)] maxLocals)) t := fun t k => castTop (own_law4_ef m p0) k
  obtain ⟨_, _, ⟨T1, L1, k1, n1⟩, -, X1, ⟨Lc1, hQ1, l1, y1, z1⟩, st1⟩ := Jvm.LawKit.callS X0 hx (y := (⟨"com/example/traversal/traversal/model/BasicTypeIsIntegralPinLaw", "pick", "(I)Lcom/example/traversal/traversal/model/BasicType;"⟩ : MethodName)) hown (mvT hZ (hw _ (List.mem_of_getElem? (i := 1) rfl))) (mvT hZ (hw _ (List.mem_of_getElem? (i := 2) rfl))) (mvT hZ (hw _ (List.mem_of_getElem? (i := 3) rfl))) (mvT hZ (hw _ (List.mem_of_getElem? (i := 4) rfl))) (by decide) (backOf (W := 0) (own_p_4 l Z a0 hw [] w_STRING w_INTEGER w_LONG w_SHORT w_BYTE w_DOUBLE w_FLOAT w_BIG_DECIMAL w_BIG_INTEGER w_BOOLEAN w_LOCAL_DATE w_LOCAL_TIME w_LOCAL_DATE_TIME  h0 n0 O0 U_STRING U_INTEGER U_LONG U_SHORT U_BYTE U_DOUBLE U_FLOAT U_BIG_DECIMAL U_BIG_INTEGER U_BOOLEAN U_LOCAL_DATE U_LOCAL_TIME U_LOCAL_DATE_TIME ) hZ (hw _ (List.mem_of_getElem? (i := 4) rfl)) (hw _ (List.mem_of_getElem? (i := 3) rfl)) (by decide) (by decide)) (g := (mkF m 9 #[iv p0, iv 4, .unset, .unset] [(.int 4)])) rfl (by rw [hml]; rfl) (argsL := [(.int 4)]) (rest := []) (lenOf own_pd0 rfl) rfl (by show 2 * 0 + _ ≤ _; exact Nat.le_of_eq rfl) (hb hby at_9) (fun _ _ => ⟨rfl, e0, (by decide : 0 + 0 ≤ _), (by decide : 0 + 0 ≤ _)⟩)
  dsimp only [Pt.U, Pt.locs, Pt.cells, Pt.slots] at X1 l1 y1 z1 st1 hQ1
  subst l1 y1 z1
  obtain ⟨rfl, N1q, e1⟩ := hQ1
  have N1 := Fr.app N0 N1q
  obtain ⟨cq2, kq2, q2a, q2b, q2c⟩ := isOf hZ e1 (U_BYTE.2.1.ext O0.2)
  obtain ⟨_, _, ⟨T2, L2, k2, n2⟩, -, X2, ⟨Lc2, hQ2, l2, y2, z2⟩, st2⟩ := X1.virtualBack hx (y := (⟨"com/example/traversal/traversal/model/BasicType", "isIntegral", "()Z"⟩ : MethodName)) (z := (⟨"com/example/traversal/traversal/model/BasicType", "isIntegral", "()Z"⟩ : MethodName)) hown (mvT hZ (hw _ (List.mem_of_getElem? (i := 8) rfl))) (mvT hZ (hw _ (List.mem_of_getElem? (i := 9) rfl))) (notFace_of_selects (args := #[]) (mvT hZ (hw _ (List.mem_of_getElem? (i := 11) rfl)))) (mvT hZ (hw _ (List.mem_of_getElem? (i := 11) rfl))) (mvT hZ (hw _ (List.mem_of_getElem? (i := 10) rfl))) (by decide) (backOf (W := 0) (own_m_BYTE l Z a0 hw [] w_STRING w_INTEGER w_LONG w_SHORT w_BYTE w_DOUBLE w_FLOAT w_BIG_DECIMAL w_BIG_INTEGER w_BOOLEAN w_LOCAL_DATE w_LOCAL_TIME w_LOCAL_DATE_TIME  h0 n0 O0 U_STRING U_INTEGER U_LONG U_SHORT U_BYTE U_DOUBLE U_FLOAT U_BIG_DECIMAL U_BIG_INTEGER U_BOOLEAN U_LOCAL_DATE U_LOCAL_TIME U_LOCAL_DATE_TIME ) hZ (hw _ (List.mem_of_getElem? (i := 12) rfl)) (hw _ (List.mem_of_getElem? (i := 6) rfl)) (by decide) (by decide)) q2a q2c (g := (mkF m 36 #[iv p0, iv 4, rv w_BYTE, iv 1] [(.ref w_BYTE)])) rfl (by rw [hml]; rfl) (Steps.refl _) (argsL := []) (rest := []) (lenOf own_pd1 rfl) rfl (by show 2 * 0 + _ ≤ _; exact Nat.le_of_eq rfl) (hb hby at_36) (fun _ _ => ⟨rfl, e1, (by decide : 0 + 0 ≤ _), (by decide : 0 + 0 ≤ _)⟩)
  dsimp only [Pt.U, Pt.locs, Pt.cells, Pt.slots] at X2 l2 y2 z2 st2 hQ2
  subst l2 y2 z2
  obtain ⟨rfl, N2q, e2⟩ := hQ2
  have N2 := Fr.app N1 N2q
  obtain ⟨fs, hr, hrun, hended, hW, hsame⟩ := X2.leave (v := some (.int 1)) (fun h => by rw [Bd.returns] at h; cases h)
  refine ⟨_, _, pre0 _ ?_, hrun, hended, _, _, rfl, ?_, ⟨_, rfl⟩, hW, hsame.mono (by decide) (by decide)⟩
  · show Steps p.tables e below (s₁.setTop (mkF m 0 #[iv p0, .unset, .unset, .unset] [])) _
    refine XS.iloadN X0.here hx rfl (hb hby at_0) rfl ?_
    show Steps p.tables e below (s₁.setTop (mkF m 1 #[iv p0, .unset, .unset, .unset] [(.int p0)])) _
    refine X0.ldcInt hx hown (mvT hZ (hw _ (List.mem_of_getElem? (i := 0) rfl))) (g := (mkF m 1 #[iv p0, .unset, .unset, .unset] [(.int p0)])) rfl (hb hby at_1) _ ?_
    show Steps p.tables e below (s₁.setTop (mkF m 3 #[iv p0, .unset, .unset, .unset] [(.int 2147483647), (.int p0)])) _
    refine XS.iand X0.here hx rfl (hb hby at_3) rfl ?_
    show Steps p.tables e below (s₁.setTop (mkF m 4 #[iv p0, .unset, .unset, .unset] [(.int (p0 &&& (2147483647 : Int32)))])) _
    refine XS.bipush X0.here hx rfl (hb hby at_4) ?_
    show Steps p.tables e below (s₁.setTop (mkF m 6 #[iv p0, .unset, .unset, .unset] [(.int 13), (.int (p0 &&& (2147483647 : Int32)))])) _
    refine iremM X0 hx rfl (hb hby at_6) rfl (by decide) ?_
    show Steps p.tables e below (s₁.setTop (mkF m 7 #[iv p0, .unset, .unset, .unset] [(.int ((p0 &&& (2147483647 : Int32)) % (13 : Int32)))])) _
    refine own_top (v' := (.int 4)) (congrArg Value.int hk) ?_
    show Steps p.tables e below (s₁.setTop (mkF m 7 #[iv p0, .unset, .unset, .unset] [(.int 4)])) _
    refine XS.istoreN X0.here hx rfl (hb hby at_7) rfl (l' := #[iv p0, iv 4, .unset, .unset]) rfl ?_
    show Steps p.tables e below (s₁.setTop (mkF m 8 #[iv p0, iv 4, .unset, .unset] [])) _
    refine XS.iloadN X0.here hx rfl (hb hby at_8) rfl ?_
    show Steps p.tables e below (s₁.setTop (mkF m 9 #[iv p0, iv 4, .unset, .unset] [(.int 4)])) _
    refine st1 _ ?_
    show Steps p.tables e below (T1.setTop (mkF m 12 #[iv p0, iv 4, .unset, .unset] [(.ref w_BYTE)])) _
    refine XS.astoreN X1.here hx rfl (hb hby at_12) rfl rfl (l' := #[iv p0, iv 4, rv w_BYTE, .unset]) rfl ?_
    show Steps p.tables e below (T1.setTop (mkF m 13 #[iv p0, iv 4, rv w_BYTE, .unset] [])) _
    refine XS.iloadN X1.here hx rfl (hb hby at_13) rfl ?_
    show Steps p.tables e below (T1.setTop (mkF m 14 #[iv p0, iv 4, rv w_BYTE, .unset] [(.int 4)])) _
    refine XS.iconst X1.here hx rfl (hb hby at_14) ?_
    show Steps p.tables e below (T1.setTop (mkF m 15 #[iv p0, iv 4, rv w_BYTE, .unset] [(.int 1), (.int 4)])) _
    refine XS.icmpNo X1.here hx rfl (hb hby at_15) rfl (flt (by decide)).1 ?_
    show Steps p.tables e below (T1.setTop (mkF m 18 #[iv p0, iv 4, rv w_BYTE, .unset] [])) _
    refine XS.iloadN X1.here hx rfl (hb hby at_18) rfl ?_
    show Steps p.tables e below (T1.setTop (mkF m 19 #[iv p0, iv 4, rv w_BYTE, .unset] [(.int 4)])) _
    refine XS.iconst X1.here hx rfl (hb hby at_19) ?_
    show Steps p.tables e below (T1.setTop (mkF m 20 #[iv p0, iv 4, rv w_BYTE, .unset] [(.int 4), (.int 4)])) _
    refine XS.icmpYes X1.here hx rfl (pc0 := 20) (pc' := 29) rfl (hb hby at_20) rfl (flt (by decide)).2.2.2 (by decide) (by decide) ?_
    show Steps p.tables e below (T1.setTop (mkF m 29 #[iv p0, iv 4, rv w_BYTE, .unset] [])) _
    refine XS.iconst X1.here hx rfl (hb hby at_29) ?_
    show Steps p.tables e below (T1.setTop (mkF m 30 #[iv p0, iv 4, rv w_BYTE, .unset] [(.int 1)])) _
    refine XS.goto X1.here hx rfl (pc0 := 30) (pc' := 34) rfl (hb hby at_30) (by decide) (by decide) ?_
    show Steps p.tables e below (T1.setTop (mkF m 34 #[iv p0, iv 4, rv w_BYTE, .unset] [(.int 1)])) _
    refine XS.istoreN X1.here hx rfl (hb hby at_34) rfl (l' := #[iv p0, iv 4, rv w_BYTE, iv 1]) rfl ?_
    show Steps p.tables e below (T1.setTop (mkF m 35 #[iv p0, iv 4, rv w_BYTE, iv 1] [])) _
    refine XS.aloadN X1.here hx rfl (hb hby at_35) rfl rfl ?_
    show Steps p.tables e below (T1.setTop (mkF m 36 #[iv p0, iv 4, rv w_BYTE, iv 1] [(.ref w_BYTE)])) _
    refine st2.trans ?_
    show Steps p.tables e below (T2.setTop (mkF m 39 #[iv p0, iv 4, rv w_BYTE, iv 1] [(.int 1)])) _
    refine XS.iloadN X2.here hx rfl (hb hby at_39) rfl ?_
    show Steps p.tables e below (T2.setTop (mkF m 40 #[iv p0, iv 4, rv w_BYTE, iv 1] [(.int 1), (.int 1)])) _
    refine XS.icmpNo X2.here hx rfl (hb hby at_40) rfl (teq (by decide)).2 ?_
    show Steps p.tables e below (T2.setTop (mkF m 43 #[iv p0, iv 4, rv w_BYTE, iv 1] [])) _
    refine XS.iconst X2.here hx rfl (hb hby at_43) ?_
    show Steps p.tables e below (T2.setTop (mkF m 44 #[iv p0, iv 4, rv w_BYTE, iv 1] [(.int 1)])) _
    refine XS.goto X2.here hx rfl (pc0 := 44) (pc' := 48) rfl (hb hby at_44) (by decide) (by decide) ?_
    show Steps p.tables e below (T2.setTop (mkF m 48 #[iv p0, iv 4, rv w_BYTE, iv 1] [(.int 1)])) _
    exact retN X2 hx (t := .boolean) Bd.returns (by simp) (hb hby at_48) hr
  · show own_law4_Q Z w_STRING w_INTEGER w_LONG w_SHORT w_BYTE w_DOUBLE w_FLOAT w_BIG_DECIMAL w_BIG_INTEGER w_BOOLEAN w_LOCAL_DATE w_LOCAL_TIME w_LOCAL_DATE_TIME p0 h0 n0 _ T2.heap _
    rw [e2]
    exact ⟨rfl, N2, trivial⟩
theorem own_law5_ef (m : MethodId) (p0 : Int32) : entryFrame m #[(.int p0)] maxLocals = mkF m 0 #[iv p0, .unset, .unset, .unset] [] := by first | (simp [entryFrame, mkF, argsToLocals, Value.category, maxLocals]; done) | rfl
def own_law5_Q (Z : State) (w_STRING : Addr) (w_INTEGER : Addr) (w_LONG : Addr) (w_SHORT : Addr) (w_BYTE : Addr) (w_DOUBLE : Addr) (w_FLOAT : Addr) (w_BIG_DECIMAL : Addr) (w_BIG_INTEGER : Addr) (w_BOOLEAN : Addr) (w_LOCAL_DATE : Addr) (w_LOCAL_TIME : Addr) (w_LOCAL_DATE_TIME : Addr) (p0 : Int32) (h0 : Heap) (n0 : Nat) (v : Option Value) (h : Heap) (L : List Loc) : Prop := v = some (.int 1) ∧ Fr n0 L ∧ True
set_option maxRecDepth 65536 in
set_option maxHeartbeats 40000000 in
theorem own_law5 (l : Launch) (Z : State) (a0 : Array Value) (hw : ∀ d ∈ tables_1, d.before a0 Z = true) (ws : List Jvm.Cond) (w_STRING : Addr) (w_INTEGER : Addr) (w_LONG : Addr) (w_SHORT : Addr) (w_BYTE : Addr) (w_DOUBLE : Addr) (w_FLOAT : Addr) (w_BIG_DECIMAL : Addr) (w_BIG_INTEGER : Addr) (w_BOOLEAN : Addr) (w_LOCAL_DATE : Addr) (w_LOCAL_TIME : Addr) (w_LOCAL_DATE_TIME : Addr) (p0 : Int32) (h0 : Heap) (n0 : Nat) (O0 : Old Z n0 h0) (U_STRING : own_En Z Z.heap "com/example/traversal/traversal/model/BasicType" "STRING" "Lcom/example/traversal/traversal/model/BasicType;" w_STRING (0 : Int32)) (U_INTEGER : own_En Z Z.heap "com/example/traversal/traversal/model/BasicType" "INTEGER" "Lcom/example/traversal/traversal/model/BasicType;" w_INTEGER (1 : Int32)) (U_LONG : own_En Z Z.heap "com/example/traversal/traversal/model/BasicType" "LONG" "Lcom/example/traversal/traversal/model/BasicType;" w_LONG (2 : Int32)) (U_SHORT : own_En Z Z.heap "com/example/traversal/traversal/model/BasicType" "SHORT" "Lcom/example/traversal/traversal/model/BasicType;" w_SHORT (3 : Int32)) (U_BYTE : own_En Z Z.heap "com/example/traversal/traversal/model/BasicType" "BYTE" "Lcom/example/traversal/traversal/model/BasicType;" w_BYTE (4 : Int32)) (U_DOUBLE : own_En Z Z.heap "com/example/traversal/traversal/model/BasicType" "DOUBLE" "Lcom/example/traversal/traversal/model/BasicType;" w_DOUBLE (5 : Int32)) (U_FLOAT : own_En Z Z.heap "com/example/traversal/traversal/model/BasicType" "FLOAT" "Lcom/example/traversal/traversal/model/BasicType;" w_FLOAT (6 : Int32)) (U_BIG_DECIMAL : own_En Z Z.heap "com/example/traversal/traversal/model/BasicType" "BIG_DECIMAL" "Lcom/example/traversal/traversal/model/BasicType;" w_BIG_DECIMAL (7 : Int32)) (U_BIG_INTEGER : own_En Z Z.heap "com/example/traversal/traversal/model/BasicType" "BIG_INTEGER" "Lcom/example/traversal/traversal/model/BasicType;" w_BIG_INTEGER (8 : Int32)) (U_BOOLEAN : own_En Z Z.heap "com/example/traversal/traversal/model/BasicType" "BOOLEAN" "Lcom/example/traversal/traversal/model/BasicType;" w_BOOLEAN (9 : Int32)) (U_LOCAL_DATE : own_En Z Z.heap "com/example/traversal/traversal/model/BasicType" "LOCAL_DATE" "Lcom/example/traversal/traversal/model/BasicType;" w_LOCAL_DATE (10 : Int32)) (U_LOCAL_TIME : own_En Z Z.heap "com/example/traversal/traversal/model/BasicType" "LOCAL_TIME" "Lcom/example/traversal/traversal/model/BasicType;" w_LOCAL_TIME (11 : Int32)) (U_LOCAL_DATE_TIME : own_En Z Z.heap "com/example/traversal/traversal/model/BasicType" "LOCAL_DATE_TIME" "Lcom/example/traversal/traversal/model/BasicType;" w_LOCAL_DATE_TIME (12 : Int32)) (hk : (p0 &&& (2147483647 : Int32)) % (13 : Int32) = (5 : Int32)) :
    MetFree l x (head1 (Jvm.Cond.code x code maxLocals ret :: ws) room_1) (fun a U => a = #[(.int p0)] ∧ Z.Warmed39 U.vm ∧ U.heap = h0) (fun _ _ _ _ _ => True) (fun _ U o U' => ∃ v L, o = .returned v ∧ own_law5_Q Z w_STRING w_INTEGER w_LONG w_SHORT w_BYTE w_DOUBLE w_FLOAT w_BIG_DECIMAL w_BIG_INTEGER w_BOOLEAN w_LOCAL_DATE w_LOCAL_TIME w_LOCAL_DATE_TIME p0 h0 n0 v U'.heap L ∧ FrameEnd U o U' L 0 0) := by
  refine MetFree.of_bodySF (plainFor_of_name own_pn1) hisR ?_
  intro p e s m args below meth c s₁ Bd hml0 hP hK
  obtain ⟨rfl, hZ, hh⟩ := hP
  have hx := Bd.exec
  have hby := Bd.bytes
  have hml : c.maxLocals = 4 := hml0
  have hown : s.vm.findClass "com/example/traversal/traversal/model/BasicTypeIsIntegralPinLaw" = some m.cls := findClass_of_methodNamed Bd.named
  have hnm := (name_of_methodNamed Bd.named Bd.method).1
  have X0 : Stand p l e room_1 s m #[(.int p0)] below meth c s₁ [] 0 0 := Stand.of_body Bd
  have e0 : s₁.heap = h0 := by rw [← hh, Bd.state]; rfl
  have N0 := Fr.nil n0
  have pre0 : ∀ t, Steps p.tables e below (s₁.setTop (mkF m 0 #[iv p0, .unset, .unset, .unset] [])) t → Steps p.tables e below (s₁.setTop (entryFrame m #[(.int p0)] maxLocals)) t := fun t k => castTop (own_law5_ef m p0) k
  obtain ⟨_, _, ⟨T1, L1, k1, n1⟩, -, X1, ⟨Lc1, hQ1, l1, y1, z1⟩, st1⟩ := Jvm.LawKit.callS X0 hx (y := (⟨"com/example/traversal/traversal/model/BasicTypeIsIntegralPinLaw", "pick", "(I)Lcom/example/traversal/traversal/model/BasicType;"⟩ : MethodName)) hown (mvT hZ (hw _ (List.mem_of_getElem? (i := 1) rfl))) (mvT hZ (hw _ (List.mem_of_getElem? (i := 2) rfl))) (mvT hZ (hw _ (List.mem_of_getElem? (i := 3) rfl))) (mvT hZ (hw _ (List.mem_of_getElem? (i := 4) rfl))) (by decide) (backOf (W := 0) (own_p_5 l Z a0 hw [] w_STRING w_INTEGER w_LONG w_SHORT w_BYTE w_DOUBLE w_FLOAT w_BIG_DECIMAL w_BIG_INTEGER w_BOOLEAN w_LOCAL_DATE w_LOCAL_TIME w_LOCAL_DATE_TIME  h0 n0 O0 U_STRING U_INTEGER U_LONG U_SHORT U_BYTE U_DOUBLE U_FLOAT U_BIG_DECIMAL U_BIG_INTEGER U_BOOLEAN U_LOCAL_DATE U_LOCAL_TIME U_LOCAL_DATE_TIME ) hZ (hw _ (List.mem_of_getElem? (i := 4) rfl)) (hw _ (List.mem_of_getElem? (i := 3) rfl)) (by decide) (by decide)) (g := (mkF m 9 #[iv p0, iv 5, .unset, .unset] [(.int 5)])) rfl (by rw [hml]; rfl) (argsL := [(.int 5)]) (rest := []) (lenOf own_pd0 rfl) rfl (by show 2 * 0 + _ ≤ _; exact Nat.le_of_eq rfl) (hb hby at_9) (fun _ _ => ⟨rfl, e0, (by decide : 0 + 0 ≤ _), (by decide : 0 + 0 ≤ _)⟩)
  dsimp only [Pt.U, Pt.locs, Pt.cells, Pt.slots] at X1 l1 y1 z1 st1 hQ1
  subst l1 y1 z1
  obtain ⟨rfl, N1q, e1⟩ := hQ1
  have N1 := Fr.app N0 N1q
  obtain ⟨cq2, kq2, q2a, q2b, q2c⟩ := isOf hZ e1 (U_DOUBLE.2.1.ext O0.2)
  obtain ⟨_, _, ⟨T2, L2, k2, n2⟩, -, X2, ⟨Lc2, hQ2, l2, y2, z2⟩, st2⟩ := X1.virtualBack hx (y := (⟨"com/example/traversal/traversal/model/BasicType", "isIntegral", "()Z"⟩ : MethodName)) (z := (⟨"com/example/traversal/traversal/model/BasicType", "isIntegral", "()Z"⟩ : MethodName)) hown (mvT hZ (hw _ (List.mem_of_getElem? (i := 8) rfl))) (mvT hZ (hw _ (List.mem_of_getElem? (i := 9) rfl))) (notFace_of_selects (args := #[]) (mvT hZ (hw _ (List.mem_of_getElem? (i := 11) rfl)))) (mvT hZ (hw _ (List.mem_of_getElem? (i := 11) rfl))) (mvT hZ (hw _ (List.mem_of_getElem? (i := 10) rfl))) (by decide) (backOf (W := 0) (own_m_DOUBLE l Z a0 hw [] w_STRING w_INTEGER w_LONG w_SHORT w_BYTE w_DOUBLE w_FLOAT w_BIG_DECIMAL w_BIG_INTEGER w_BOOLEAN w_LOCAL_DATE w_LOCAL_TIME w_LOCAL_DATE_TIME  h0 n0 O0 U_STRING U_INTEGER U_LONG U_SHORT U_BYTE U_DOUBLE U_FLOAT U_BIG_DECIMAL U_BIG_INTEGER U_BOOLEAN U_LOCAL_DATE U_LOCAL_TIME U_LOCAL_DATE_TIME ) hZ (hw _ (List.mem_of_getElem? (i := 12) rfl)) (hw _ (List.mem_of_getElem? (i := 6) rfl)) (by decide) (by decide)) q2a q2c (g := (mkF m 36 #[iv p0, iv 5, rv w_DOUBLE, iv 0] [(.ref w_DOUBLE)])) rfl (by rw [hml]; rfl) (Steps.refl _) (argsL := []) (rest := []) (lenOf own_pd1 rfl) rfl (by show 2 * 0 + _ ≤ _; exact Nat.le_of_eq rfl) (hb hby at_36) (fun _ _ => ⟨rfl, e1, (by decide : 0 + 0 ≤ _), (by decide : 0 + 0 ≤ _)⟩)
  dsimp only [Pt.U, Pt.locs, Pt.cells, Pt.slots] at X2 l2 y2 z2 st2 hQ2
  subst l2 y2 z2
  obtain ⟨rfl, N2q, e2⟩ := hQ2
  have N2 := Fr.app N1 N2q
  obtain ⟨fs, hr, hrun, hended, hW, hsame⟩ := X2.leave (v := some (.int 1)) (fun h => by rw [Bd.returns] at h; cases h)
  refine ⟨_, _, pre0 _ ?_, hrun, hended, _, _, rfl, ?_, ⟨_, rfl⟩, hW, hsame.mono (by decide) (by decide)⟩
  · show Steps p.tables e below (s₁.setTop (mkF m 0 #[iv p0, .unset, .unset, .unset] [])) _
    refine XS.iloadN X0.here hx rfl (hb hby at_0) rfl ?_
    show Steps p.tables e below (s₁.setTop (mkF m 1 #[iv p0, .unset, .unset, .unset] [(.int p0)])) _
    refine X0.ldcInt hx hown (mvT hZ (hw _ (List.mem_of_getElem? (i := 0) rfl))) (g := (mkF m 1 #[iv p0, .unset, .unset, .unset] [(.int p0)])) rfl (hb hby at_1) _ ?_
    show Steps p.tables e below (s₁.setTop (mkF m 3 #[iv p0, .unset, .unset, .unset] [(.int 2147483647), (.int p0)])) _
    refine XS.iand X0.here hx rfl (hb hby at_3) rfl ?_
    show Steps p.tables e below (s₁.setTop (mkF m 4 #[iv p0, .unset, .unset, .unset] [(.int (p0 &&& (2147483647 : Int32)))])) _
    refine XS.bipush X0.here hx rfl (hb hby at_4) ?_
    show Steps p.tables e below (s₁.setTop (mkF m 6 #[iv p0, .unset, .unset, .unset] [(.int 13), (.int (p0 &&& (2147483647 : Int32)))])) _
    refine iremM X0 hx rfl (hb hby at_6) rfl (by decide) ?_
    show Steps p.tables e below (s₁.setTop (mkF m 7 #[iv p0, .unset, .unset, .unset] [(.int ((p0 &&& (2147483647 : Int32)) % (13 : Int32)))])) _
    refine own_top (v' := (.int 5)) (congrArg Value.int hk) ?_
    show Steps p.tables e below (s₁.setTop (mkF m 7 #[iv p0, .unset, .unset, .unset] [(.int 5)])) _
    refine XS.istoreN X0.here hx rfl (hb hby at_7) rfl (l' := #[iv p0, iv 5, .unset, .unset]) rfl ?_
    show Steps p.tables e below (s₁.setTop (mkF m 8 #[iv p0, iv 5, .unset, .unset] [])) _
    refine XS.iloadN X0.here hx rfl (hb hby at_8) rfl ?_
    show Steps p.tables e below (s₁.setTop (mkF m 9 #[iv p0, iv 5, .unset, .unset] [(.int 5)])) _
    refine st1 _ ?_
    show Steps p.tables e below (T1.setTop (mkF m 12 #[iv p0, iv 5, .unset, .unset] [(.ref w_DOUBLE)])) _
    refine XS.astoreN X1.here hx rfl (hb hby at_12) rfl rfl (l' := #[iv p0, iv 5, rv w_DOUBLE, .unset]) rfl ?_
    show Steps p.tables e below (T1.setTop (mkF m 13 #[iv p0, iv 5, rv w_DOUBLE, .unset] [])) _
    refine XS.iloadN X1.here hx rfl (hb hby at_13) rfl ?_
    show Steps p.tables e below (T1.setTop (mkF m 14 #[iv p0, iv 5, rv w_DOUBLE, .unset] [(.int 5)])) _
    refine XS.iconst X1.here hx rfl (hb hby at_14) ?_
    show Steps p.tables e below (T1.setTop (mkF m 15 #[iv p0, iv 5, rv w_DOUBLE, .unset] [(.int 1), (.int 5)])) _
    refine XS.icmpNo X1.here hx rfl (hb hby at_15) rfl (flt (by decide)).1 ?_
    show Steps p.tables e below (T1.setTop (mkF m 18 #[iv p0, iv 5, rv w_DOUBLE, .unset] [])) _
    refine XS.iloadN X1.here hx rfl (hb hby at_18) rfl ?_
    show Steps p.tables e below (T1.setTop (mkF m 19 #[iv p0, iv 5, rv w_DOUBLE, .unset] [(.int 5)])) _
    refine XS.iconst X1.here hx rfl (hb hby at_19) ?_
    show Steps p.tables e below (T1.setTop (mkF m 20 #[iv p0, iv 5, rv w_DOUBLE, .unset] [(.int 4), (.int 5)])) _
    refine XS.icmpNo X1.here hx rfl (hb hby at_20) rfl (tlt (by decide)).2.2.2 ?_
    show Steps p.tables e below (T1.setTop (mkF m 23 #[iv p0, iv 5, rv w_DOUBLE, .unset] [])) _
    refine XS.iloadN X1.here hx rfl (hb hby at_23) rfl ?_
    show Steps p.tables e below (T1.setTop (mkF m 24 #[iv p0, iv 5, rv w_DOUBLE, .unset] [(.int 5)])) _
    refine XS.bipush X1.here hx rfl (hb hby at_24) ?_
    show Steps p.tables e below (T1.setTop (mkF m 26 #[iv p0, iv 5, rv w_DOUBLE, .unset] [(.int 8), (.int 5)])) _
    refine XS.icmpYes X1.here hx rfl (pc0 := 26) (pc' := 33) rfl (hb hby at_26) rfl (feq (by decide)).2 (by decide) (by decide) ?_
    show Steps p.tables e below (T1.setTop (mkF m 33 #[iv p0, iv 5, rv w_DOUBLE, .unset] [])) _
    refine XS.iconst X1.here hx rfl (hb hby at_33) ?_
    show Steps p.tables e below (T1.setTop (mkF m 34 #[iv p0, iv 5, rv w_DOUBLE, .unset] [(.int 0)])) _
    refine XS.istoreN X1.here hx rfl (hb hby at_34) rfl (l' := #[iv p0, iv 5, rv w_DOUBLE, iv 0]) rfl ?_
    show Steps p.tables e below (T1.setTop (mkF m 35 #[iv p0, iv 5, rv w_DOUBLE, iv 0] [])) _
    refine XS.aloadN X1.here hx rfl (hb hby at_35) rfl rfl ?_
    show Steps p.tables e below (T1.setTop (mkF m 36 #[iv p0, iv 5, rv w_DOUBLE, iv 0] [(.ref w_DOUBLE)])) _
    refine st2.trans ?_
    show Steps p.tables e below (T2.setTop (mkF m 39 #[iv p0, iv 5, rv w_DOUBLE, iv 0] [(.int 0)])) _
    refine XS.iloadN X2.here hx rfl (hb hby at_39) rfl ?_
    show Steps p.tables e below (T2.setTop (mkF m 40 #[iv p0, iv 5, rv w_DOUBLE, iv 0] [(.int 0), (.int 0)])) _
    refine XS.icmpNo X2.here hx rfl (hb hby at_40) rfl (teq (by decide)).2 ?_
    show Steps p.tables e below (T2.setTop (mkF m 43 #[iv p0, iv 5, rv w_DOUBLE, iv 0] [])) _
    refine XS.iconst X2.here hx rfl (hb hby at_43) ?_
    show Steps p.tables e below (T2.setTop (mkF m 44 #[iv p0, iv 5, rv w_DOUBLE, iv 0] [(.int 1)])) _
    refine XS.goto X2.here hx rfl (pc0 := 44) (pc' := 48) rfl (hb hby at_44) (by decide) (by decide) ?_
    show Steps p.tables e below (T2.setTop (mkF m 48 #[iv p0, iv 5, rv w_DOUBLE, iv 0] [(.int 1)])) _
    exact retN X2 hx (t := .boolean) Bd.returns (by simp) (hb hby at_48) hr
  · show own_law5_Q Z w_STRING w_INTEGER w_LONG w_SHORT w_BYTE w_DOUBLE w_FLOAT w_BIG_DECIMAL w_BIG_INTEGER w_BOOLEAN w_LOCAL_DATE w_LOCAL_TIME w_LOCAL_DATE_TIME p0 h0 n0 _ T2.heap _
    rw [e2]
    exact ⟨rfl, N2, trivial⟩
theorem own_law6_ef (m : MethodId) (p0 : Int32) : entryFrame m #[(.int p0)] maxLocals = mkF m 0 #[iv p0, .unset, .unset, .unset] [] := by first | (simp [entryFrame, mkF, argsToLocals, Value.category, maxLocals]; done) | rfl
def own_law6_Q (Z : State) (w_STRING : Addr) (w_INTEGER : Addr) (w_LONG : Addr) (w_SHORT : Addr) (w_BYTE : Addr) (w_DOUBLE : Addr) (w_FLOAT : Addr) (w_BIG_DECIMAL : Addr) (w_BIG_INTEGER : Addr) (w_BOOLEAN : Addr) (w_LOCAL_DATE : Addr) (w_LOCAL_TIME : Addr) (w_LOCAL_DATE_TIME : Addr) (p0 : Int32) (h0 : Heap) (n0 : Nat) (v : Option Value) (h : Heap) (L : List Loc) : Prop := v = some (.int 1) ∧ Fr n0 L ∧ True
set_option maxRecDepth 65536 in
set_option maxHeartbeats 40000000 in
theorem own_law6 (l : Launch) (Z : State) (a0 : Array Value) (hw : ∀ d ∈ tables_1, d.before a0 Z = true) (ws : List Jvm.Cond) (w_STRING : Addr) (w_INTEGER : Addr) (w_LONG : Addr) (w_SHORT : Addr) (w_BYTE : Addr) (w_DOUBLE : Addr) (w_FLOAT : Addr) (w_BIG_DECIMAL : Addr) (w_BIG_INTEGER : Addr) (w_BOOLEAN : Addr) (w_LOCAL_DATE : Addr) (w_LOCAL_TIME : Addr) (w_LOCAL_DATE_TIME : Addr) (p0 : Int32) (h0 : Heap) (n0 : Nat) (O0 : Old Z n0 h0) (U_STRING : own_En Z Z.heap "com/example/traversal/traversal/model/BasicType" "STRING" "Lcom/example/traversal/traversal/model/BasicType;" w_STRING (0 : Int32)) (U_INTEGER : own_En Z Z.heap "com/example/traversal/traversal/model/BasicType" "INTEGER" "Lcom/example/traversal/traversal/model/BasicType;" w_INTEGER (1 : Int32)) (U_LONG : own_En Z Z.heap "com/example/traversal/traversal/model/BasicType" "LONG" "Lcom/example/traversal/traversal/model/BasicType;" w_LONG (2 : Int32)) (U_SHORT : own_En Z Z.heap "com/example/traversal/traversal/model/BasicType" "SHORT" "Lcom/example/traversal/traversal/model/BasicType;" w_SHORT (3 : Int32)) (U_BYTE : own_En Z Z.heap "com/example/traversal/traversal/model/BasicType" "BYTE" "Lcom/example/traversal/traversal/model/BasicType;" w_BYTE (4 : Int32)) (U_DOUBLE : own_En Z Z.heap "com/example/traversal/traversal/model/BasicType" "DOUBLE" "Lcom/example/traversal/traversal/model/BasicType;" w_DOUBLE (5 : Int32)) (U_FLOAT : own_En Z Z.heap "com/example/traversal/traversal/model/BasicType" "FLOAT" "Lcom/example/traversal/traversal/model/BasicType;" w_FLOAT (6 : Int32)) (U_BIG_DECIMAL : own_En Z Z.heap "com/example/traversal/traversal/model/BasicType" "BIG_DECIMAL" "Lcom/example/traversal/traversal/model/BasicType;" w_BIG_DECIMAL (7 : Int32)) (U_BIG_INTEGER : own_En Z Z.heap "com/example/traversal/traversal/model/BasicType" "BIG_INTEGER" "Lcom/example/traversal/traversal/model/BasicType;" w_BIG_INTEGER (8 : Int32)) (U_BOOLEAN : own_En Z Z.heap "com/example/traversal/traversal/model/BasicType" "BOOLEAN" "Lcom/example/traversal/traversal/model/BasicType;" w_BOOLEAN (9 : Int32)) (U_LOCAL_DATE : own_En Z Z.heap "com/example/traversal/traversal/model/BasicType" "LOCAL_DATE" "Lcom/example/traversal/traversal/model/BasicType;" w_LOCAL_DATE (10 : Int32)) (U_LOCAL_TIME : own_En Z Z.heap "com/example/traversal/traversal/model/BasicType" "LOCAL_TIME" "Lcom/example/traversal/traversal/model/BasicType;" w_LOCAL_TIME (11 : Int32)) (U_LOCAL_DATE_TIME : own_En Z Z.heap "com/example/traversal/traversal/model/BasicType" "LOCAL_DATE_TIME" "Lcom/example/traversal/traversal/model/BasicType;" w_LOCAL_DATE_TIME (12 : Int32)) (hk : (p0 &&& (2147483647 : Int32)) % (13 : Int32) = (6 : Int32)) :
    MetFree l x (head1 (Jvm.Cond.code x code maxLocals ret :: ws) room_1) (fun a U => a = #[(.int p0)] ∧ Z.Warmed39 U.vm ∧ U.heap = h0) (fun _ _ _ _ _ => True) (fun _ U o U' => ∃ v L, o = .returned v ∧ own_law6_Q Z w_STRING w_INTEGER w_LONG w_SHORT w_BYTE w_DOUBLE w_FLOAT w_BIG_DECIMAL w_BIG_INTEGER w_BOOLEAN w_LOCAL_DATE w_LOCAL_TIME w_LOCAL_DATE_TIME p0 h0 n0 v U'.heap L ∧ FrameEnd U o U' L 0 0) := by
  refine MetFree.of_bodySF (plainFor_of_name own_pn1) hisR ?_
  intro p e s m args below meth c s₁ Bd hml0 hP hK
  obtain ⟨rfl, hZ, hh⟩ := hP
  have hx := Bd.exec
  have hby := Bd.bytes
  have hml : c.maxLocals = 4 := hml0
  have hown : s.vm.findClass "com/example/traversal/traversal/model/BasicTypeIsIntegralPinLaw" = some m.cls := findClass_of_methodNamed Bd.named
  have hnm := (name_of_methodNamed Bd.named Bd.method).1
  have X0 : Stand p l e room_1 s m #[(.int p0)] below meth c s₁ [] 0 0 := Stand.of_body Bd
  have e0 : s₁.heap = h0 := by rw [← hh, Bd.state]; rfl
  have N0 := Fr.nil n0
  have pre0 : ∀ t, Steps p.tables e below (s₁.setTop (mkF m 0 #[iv p0, .unset, .unset, .unset] [])) t → Steps p.tables e below (s₁.setTop (entryFrame m #[(.int p0)] maxLocals)) t := fun t k => castTop (own_law6_ef m p0) k
  obtain ⟨_, _, ⟨T1, L1, k1, n1⟩, -, X1, ⟨Lc1, hQ1, l1, y1, z1⟩, st1⟩ := Jvm.LawKit.callS X0 hx (y := (⟨"com/example/traversal/traversal/model/BasicTypeIsIntegralPinLaw", "pick", "(I)Lcom/example/traversal/traversal/model/BasicType;"⟩ : MethodName)) hown (mvT hZ (hw _ (List.mem_of_getElem? (i := 1) rfl))) (mvT hZ (hw _ (List.mem_of_getElem? (i := 2) rfl))) (mvT hZ (hw _ (List.mem_of_getElem? (i := 3) rfl))) (mvT hZ (hw _ (List.mem_of_getElem? (i := 4) rfl))) (by decide) (backOf (W := 0) (own_p_6 l Z a0 hw [] w_STRING w_INTEGER w_LONG w_SHORT w_BYTE w_DOUBLE w_FLOAT w_BIG_DECIMAL w_BIG_INTEGER w_BOOLEAN w_LOCAL_DATE w_LOCAL_TIME w_LOCAL_DATE_TIME  h0 n0 O0 U_STRING U_INTEGER U_LONG U_SHORT U_BYTE U_DOUBLE U_FLOAT U_BIG_DECIMAL U_BIG_INTEGER U_BOOLEAN U_LOCAL_DATE U_LOCAL_TIME U_LOCAL_DATE_TIME ) hZ (hw _ (List.mem_of_getElem? (i := 4) rfl)) (hw _ (List.mem_of_getElem? (i := 3) rfl)) (by decide) (by decide)) (g := (mkF m 9 #[iv p0, iv 6, .unset, .unset] [(.int 6)])) rfl (by rw [hml]; rfl) (argsL := [(.int 6)]) (rest := []) (lenOf own_pd0 rfl) rfl (by show 2 * 0 + _ ≤ _; exact Nat.le_of_eq rfl) (hb hby at_9) (fun _ _ => ⟨rfl, e0, (by decide : 0 + 0 ≤ _), (by decide : 0 + 0 ≤ _)⟩)
  dsimp only [Pt.U, Pt.locs, Pt.cells, Pt.slots] at X1 l1 y1 z1 st1 hQ1
  subst l1 y1 z1
  obtain ⟨rfl, N1q, e1⟩ := hQ1
  have N1 := Fr.app N0 N1q
  obtain ⟨cq2, kq2, q2a, q2b, q2c⟩ := isOf hZ e1 (U_FLOAT.2.1.ext O0.2)
  obtain ⟨_, _, ⟨T2, L2, k2, n2⟩, -, X2, ⟨Lc2, hQ2, l2, y2, z2⟩, st2⟩ := X1.virtualBack hx (y := (⟨"com/example/traversal/traversal/model/BasicType", "isIntegral", "()Z"⟩ : MethodName)) (z := (⟨"com/example/traversal/traversal/model/BasicType", "isIntegral", "()Z"⟩ : MethodName)) hown (mvT hZ (hw _ (List.mem_of_getElem? (i := 8) rfl))) (mvT hZ (hw _ (List.mem_of_getElem? (i := 9) rfl))) (notFace_of_selects (args := #[]) (mvT hZ (hw _ (List.mem_of_getElem? (i := 11) rfl)))) (mvT hZ (hw _ (List.mem_of_getElem? (i := 11) rfl))) (mvT hZ (hw _ (List.mem_of_getElem? (i := 10) rfl))) (by decide) (backOf (W := 0) (own_m_FLOAT l Z a0 hw [] w_STRING w_INTEGER w_LONG w_SHORT w_BYTE w_DOUBLE w_FLOAT w_BIG_DECIMAL w_BIG_INTEGER w_BOOLEAN w_LOCAL_DATE w_LOCAL_TIME w_LOCAL_DATE_TIME  h0 n0 O0 U_STRING U_INTEGER U_LONG U_SHORT U_BYTE U_DOUBLE U_FLOAT U_BIG_DECIMAL U_BIG_INTEGER U_BOOLEAN U_LOCAL_DATE U_LOCAL_TIME U_LOCAL_DATE_TIME ) hZ (hw _ (List.mem_of_getElem? (i := 12) rfl)) (hw _ (List.mem_of_getElem? (i := 6) rfl)) (by decide) (by decide)) q2a q2c (g := (mkF m 36 #[iv p0, iv 6, rv w_FLOAT, iv 0] [(.ref w_FLOAT)])) rfl (by rw [hml]; rfl) (Steps.refl _) (argsL := []) (rest := []) (lenOf own_pd1 rfl) rfl (by show 2 * 0 + _ ≤ _; exact Nat.le_of_eq rfl) (hb hby at_36) (fun _ _ => ⟨rfl, e1, (by decide : 0 + 0 ≤ _), (by decide : 0 + 0 ≤ _)⟩)
  dsimp only [Pt.U, Pt.locs, Pt.cells, Pt.slots] at X2 l2 y2 z2 st2 hQ2
  subst l2 y2 z2
  obtain ⟨rfl, N2q, e2⟩ := hQ2
  have N2 := Fr.app N1 N2q
  obtain ⟨fs, hr, hrun, hended, hW, hsame⟩ := X2.leave (v := some (.int 1)) (fun h => by rw [Bd.returns] at h; cases h)
  refine ⟨_, _, pre0 _ ?_, hrun, hended, _, _, rfl, ?_, ⟨_, rfl⟩, hW, hsame.mono (by decide) (by decide)⟩
  · show Steps p.tables e below (s₁.setTop (mkF m 0 #[iv p0, .unset, .unset, .unset] [])) _
    refine XS.iloadN X0.here hx rfl (hb hby at_0) rfl ?_
    show Steps p.tables e below (s₁.setTop (mkF m 1 #[iv p0, .unset, .unset, .unset] [(.int p0)])) _
    refine X0.ldcInt hx hown (mvT hZ (hw _ (List.mem_of_getElem? (i := 0) rfl))) (g := (mkF m 1 #[iv p0, .unset, .unset, .unset] [(.int p0)])) rfl (hb hby at_1) _ ?_
    show Steps p.tables e below (s₁.setTop (mkF m 3 #[iv p0, .unset, .unset, .unset] [(.int 2147483647), (.int p0)])) _
    refine XS.iand X0.here hx rfl (hb hby at_3) rfl ?_
    show Steps p.tables e below (s₁.setTop (mkF m 4 #[iv p0, .unset, .unset, .unset] [(.int (p0 &&& (2147483647 : Int32)))])) _
    refine XS.bipush X0.here hx rfl (hb hby at_4) ?_
    show Steps p.tables e below (s₁.setTop (mkF m 6 #[iv p0, .unset, .unset, .unset] [(.int 13), (.int (p0 &&& (2147483647 : Int32)))])) _
    refine iremM X0 hx rfl (hb hby at_6) rfl (by decide) ?_
    show Steps p.tables e below (s₁.setTop (mkF m 7 #[iv p0, .unset, .unset, .unset] [(.int ((p0 &&& (2147483647 : Int32)) % (13 : Int32)))])) _
    refine own_top (v' := (.int 6)) (congrArg Value.int hk) ?_
    show Steps p.tables e below (s₁.setTop (mkF m 7 #[iv p0, .unset, .unset, .unset] [(.int 6)])) _
    refine XS.istoreN X0.here hx rfl (hb hby at_7) rfl (l' := #[iv p0, iv 6, .unset, .unset]) rfl ?_
    show Steps p.tables e below (s₁.setTop (mkF m 8 #[iv p0, iv 6, .unset, .unset] [])) _
    refine XS.iloadN X0.here hx rfl (hb hby at_8) rfl ?_
    show Steps p.tables e below (s₁.setTop (mkF m 9 #[iv p0, iv 6, .unset, .unset] [(.int 6)])) _
    refine st1 _ ?_
    show Steps p.tables e below (T1.setTop (mkF m 12 #[iv p0, iv 6, .unset, .unset] [(.ref w_FLOAT)])) _
    refine XS.astoreN X1.here hx rfl (hb hby at_12) rfl rfl (l' := #[iv p0, iv 6, rv w_FLOAT, .unset]) rfl ?_
    show Steps p.tables e below (T1.setTop (mkF m 13 #[iv p0, iv 6, rv w_FLOAT, .unset] [])) _
    refine XS.iloadN X1.here hx rfl (hb hby at_13) rfl ?_
    show Steps p.tables e below (T1.setTop (mkF m 14 #[iv p0, iv 6, rv w_FLOAT, .unset] [(.int 6)])) _
    refine XS.iconst X1.here hx rfl (hb hby at_14) ?_
    show Steps p.tables e below (T1.setTop (mkF m 15 #[iv p0, iv 6, rv w_FLOAT, .unset] [(.int 1), (.int 6)])) _
    refine XS.icmpNo X1.here hx rfl (hb hby at_15) rfl (flt (by decide)).1 ?_
    show Steps p.tables e below (T1.setTop (mkF m 18 #[iv p0, iv 6, rv w_FLOAT, .unset] [])) _
    refine XS.iloadN X1.here hx rfl (hb hby at_18) rfl ?_
    show Steps p.tables e below (T1.setTop (mkF m 19 #[iv p0, iv 6, rv w_FLOAT, .unset] [(.int 6)])) _
    refine XS.iconst X1.here hx rfl (hb hby at_19) ?_
    show Steps p.tables e below (T1.setTop (mkF m 20 #[iv p0, iv 6, rv w_FLOAT, .unset] [(.int 4), (.int 6)])) _
    refine XS.icmpNo X1.here hx rfl (hb hby at_20) rfl (tlt (by decide)).2.2.2 ?_
    show Steps p.tables e below (T1.setTop (mkF m 23 #[iv p0, iv 6, rv w_FLOAT, .unset] [])) _
    refine XS.iloadN X1.here hx rfl (hb hby at_23) rfl ?_
    show Steps p.tables e below (T1.setTop (mkF m 24 #[iv p0, iv 6, rv w_FLOAT, .unset] [(.int 6)])) _
    refine XS.bipush X1.here hx rfl (hb hby at_24) ?_
    show Steps p.tables e below (T1.setTop (mkF m 26 #[iv p0, iv 6, rv w_FLOAT, .unset] [(.int 8), (.int 6)])) _
    refine XS.icmpYes X1.here hx rfl (pc0 := 26) (pc' := 33) rfl (hb hby at_26) rfl (feq (by decide)).2 (by decide) (by decide) ?_
    show Steps p.tables e below (T1.setTop (mkF m 33 #[iv p0, iv 6, rv w_FLOAT, .unset] [])) _
    refine XS.iconst X1.here hx rfl (hb hby at_33) ?_
    show Steps p.tables e below (T1.setTop (mkF m 34 #[iv p0, iv 6, rv w_FLOAT, .unset] [(.int 0)])) _
    refine XS.istoreN X1.here hx rfl (hb hby at_34) rfl (l' := #[iv p0, iv 6, rv w_FLOAT, iv 0]) rfl ?_
    show Steps p.tables e below (T1.setTop (mkF m 35 #[iv p0, iv 6, rv w_FLOAT, iv 0] [])) _
    refine XS.aloadN X1.here hx rfl (hb hby at_35) rfl rfl ?_
    show Steps p.tables e below (T1.setTop (mkF m 36 #[iv p0, iv 6, rv w_FLOAT, iv 0] [(.ref w_FLOAT)])) _
    refine st2.trans ?_
    show Steps p.tables e below (T2.setTop (mkF m 39 #[iv p0, iv 6, rv w_FLOAT, iv 0] [(.int 0)])) _
    refine XS.iloadN X2.here hx rfl (hb hby at_39) rfl ?_
    show Steps p.tables e below (T2.setTop (mkF m 40 #[iv p0, iv 6, rv w_FLOAT, iv 0] [(.int 0), (.int 0)])) _
    refine XS.icmpNo X2.here hx rfl (hb hby at_40) rfl (teq (by decide)).2 ?_
    show Steps p.tables e below (T2.setTop (mkF m 43 #[iv p0, iv 6, rv w_FLOAT, iv 0] [])) _
    refine XS.iconst X2.here hx rfl (hb hby at_43) ?_
    show Steps p.tables e below (T2.setTop (mkF m 44 #[iv p0, iv 6, rv w_FLOAT, iv 0] [(.int 1)])) _
    refine XS.goto X2.here hx rfl (pc0 := 44) (pc' := 48) rfl (hb hby at_44) (by decide) (by decide) ?_
    show Steps p.tables e below (T2.setTop (mkF m 48 #[iv p0, iv 6, rv w_FLOAT, iv 0] [(.int 1)])) _
    exact retN X2 hx (t := .boolean) Bd.returns (by simp) (hb hby at_48) hr
  · show own_law6_Q Z w_STRING w_INTEGER w_LONG w_SHORT w_BYTE w_DOUBLE w_FLOAT w_BIG_DECIMAL w_BIG_INTEGER w_BOOLEAN w_LOCAL_DATE w_LOCAL_TIME w_LOCAL_DATE_TIME p0 h0 n0 _ T2.heap _
    rw [e2]
    exact ⟨rfl, N2, trivial⟩
theorem own_law7_ef (m : MethodId) (p0 : Int32) : entryFrame m #[(.int p0)] maxLocals = mkF m 0 #[iv p0, .unset, .unset, .unset] [] := by first | (simp [entryFrame, mkF, argsToLocals, Value.category, maxLocals]; done) | rfl
def own_law7_Q (Z : State) (w_STRING : Addr) (w_INTEGER : Addr) (w_LONG : Addr) (w_SHORT : Addr) (w_BYTE : Addr) (w_DOUBLE : Addr) (w_FLOAT : Addr) (w_BIG_DECIMAL : Addr) (w_BIG_INTEGER : Addr) (w_BOOLEAN : Addr) (w_LOCAL_DATE : Addr) (w_LOCAL_TIME : Addr) (w_LOCAL_DATE_TIME : Addr) (p0 : Int32) (h0 : Heap) (n0 : Nat) (v : Option Value) (h : Heap) (L : List Loc) : Prop := v = some (.int 1) ∧ Fr n0 L ∧ True
set_option maxRecDepth 65536 in
set_option maxHeartbeats 40000000 in
theorem own_law7 (l : Launch) (Z : State) (a0 : Array Value) (hw : ∀ d ∈ tables_1, d.before a0 Z = true) (ws : List Jvm.Cond) (w_STRING : Addr) (w_INTEGER : Addr) (w_LONG : Addr) (w_SHORT : Addr) (w_BYTE : Addr) (w_DOUBLE : Addr) (w_FLOAT : Addr) (w_BIG_DECIMAL : Addr) (w_BIG_INTEGER : Addr) (w_BOOLEAN : Addr) (w_LOCAL_DATE : Addr) (w_LOCAL_TIME : Addr) (w_LOCAL_DATE_TIME : Addr) (p0 : Int32) (h0 : Heap) (n0 : Nat) (O0 : Old Z n0 h0) (U_STRING : own_En Z Z.heap "com/example/traversal/traversal/model/BasicType" "STRING" "Lcom/example/traversal/traversal/model/BasicType;" w_STRING (0 : Int32)) (U_INTEGER : own_En Z Z.heap "com/example/traversal/traversal/model/BasicType" "INTEGER" "Lcom/example/traversal/traversal/model/BasicType;" w_INTEGER (1 : Int32)) (U_LONG : own_En Z Z.heap "com/example/traversal/traversal/model/BasicType" "LONG" "Lcom/example/traversal/traversal/model/BasicType;" w_LONG (2 : Int32)) (U_SHORT : own_En Z Z.heap "com/example/traversal/traversal/model/BasicType" "SHORT" "Lcom/example/traversal/traversal/model/BasicType;" w_SHORT (3 : Int32)) (U_BYTE : own_En Z Z.heap "com/example/traversal/traversal/model/BasicType" "BYTE" "Lcom/example/traversal/traversal/model/BasicType;" w_BYTE (4 : Int32)) (U_DOUBLE : own_En Z Z.heap "com/example/traversal/traversal/model/BasicType" "DOUBLE" "Lcom/example/traversal/traversal/model/BasicType;" w_DOUBLE (5 : Int32)) (U_FLOAT : own_En Z Z.heap "com/example/traversal/traversal/model/BasicType" "FLOAT" "Lcom/example/traversal/traversal/model/BasicType;" w_FLOAT (6 : Int32)) (U_BIG_DECIMAL : own_En Z Z.heap "com/example/traversal/traversal/model/BasicType" "BIG_DECIMAL" "Lcom/example/traversal/traversal/model/BasicType;" w_BIG_DECIMAL (7 : Int32)) (U_BIG_INTEGER : own_En Z Z.heap "com/example/traversal/traversal/model/BasicType" "BIG_INTEGER" "Lcom/example/traversal/traversal/model/BasicType;" w_BIG_INTEGER (8 : Int32)) (U_BOOLEAN : own_En Z Z.heap "com/example/traversal/traversal/model/BasicType" "BOOLEAN" "Lcom/example/traversal/traversal/model/BasicType;" w_BOOLEAN (9 : Int32)) (U_LOCAL_DATE : own_En Z Z.heap "com/example/traversal/traversal/model/BasicType" "LOCAL_DATE" "Lcom/example/traversal/traversal/model/BasicType;" w_LOCAL_DATE (10 : Int32)) (U_LOCAL_TIME : own_En Z Z.heap "com/example/traversal/traversal/model/BasicType" "LOCAL_TIME" "Lcom/example/traversal/traversal/model/BasicType;" w_LOCAL_TIME (11 : Int32)) (U_LOCAL_DATE_TIME : own_En Z Z.heap "com/example/traversal/traversal/model/BasicType" "LOCAL_DATE_TIME" "Lcom/example/traversal/traversal/model/BasicType;" w_LOCAL_DATE_TIME (12 : Int32)) (hk : (p0 &&& (2147483647 : Int32)) % (13 : Int32) = (7 : Int32)) :
    MetFree l x (head1 (Jvm.Cond.code x code maxLocals ret :: ws) room_1) (fun a U => a = #[(.int p0)] ∧ Z.Warmed39 U.vm ∧ U.heap = h0) (fun _ _ _ _ _ => True) (fun _ U o U' => ∃ v L, o = .returned v ∧ own_law7_Q Z w_STRING w_INTEGER w_LONG w_SHORT w_BYTE w_DOUBLE w_FLOAT w_BIG_DECIMAL w_BIG_INTEGER w_BOOLEAN w_LOCAL_DATE w_LOCAL_TIME w_LOCAL_DATE_TIME p0 h0 n0 v U'.heap L ∧ FrameEnd U o U' L 0 0) := by
  refine MetFree.of_bodySF (plainFor_of_name own_pn1) hisR ?_
  intro p e s m args below meth c s₁ Bd hml0 hP hK
  obtain ⟨rfl, hZ, hh⟩ := hP
  have hx := Bd.exec
  have hby := Bd.bytes
  have hml : c.maxLocals = 4 := hml0
  have hown : s.vm.findClass "com/example/traversal/traversal/model/BasicTypeIsIntegralPinLaw" = some m.cls := findClass_of_methodNamed Bd.named
  have hnm := (name_of_methodNamed Bd.named Bd.method).1
  have X0 : Stand p l e room_1 s m #[(.int p0)] below meth c s₁ [] 0 0 := Stand.of_body Bd
  have e0 : s₁.heap = h0 := by rw [← hh, Bd.state]; rfl
  have N0 := Fr.nil n0
  have pre0 : ∀ t, Steps p.tables e below (s₁.setTop (mkF m 0 #[iv p0, .unset, .unset, .unset] [])) t → Steps p.tables e below (s₁.setTop (entryFrame m #[(.int p0)] maxLocals)) t := fun t k => castTop (own_law7_ef m p0) k
  obtain ⟨_, _, ⟨T1, L1, k1, n1⟩, -, X1, ⟨Lc1, hQ1, l1, y1, z1⟩, st1⟩ := Jvm.LawKit.callS X0 hx (y := (⟨"com/example/traversal/traversal/model/BasicTypeIsIntegralPinLaw", "pick", "(I)Lcom/example/traversal/traversal/model/BasicType;"⟩ : MethodName)) hown (mvT hZ (hw _ (List.mem_of_getElem? (i := 1) rfl))) (mvT hZ (hw _ (List.mem_of_getElem? (i := 2) rfl))) (mvT hZ (hw _ (List.mem_of_getElem? (i := 3) rfl))) (mvT hZ (hw _ (List.mem_of_getElem? (i := 4) rfl))) (by decide) (backOf (W := 0) (own_p_7 l Z a0 hw [] w_STRING w_INTEGER w_LONG w_SHORT w_BYTE w_DOUBLE w_FLOAT w_BIG_DECIMAL w_BIG_INTEGER w_BOOLEAN w_LOCAL_DATE w_LOCAL_TIME w_LOCAL_DATE_TIME  h0 n0 O0 U_STRING U_INTEGER U_LONG U_SHORT U_BYTE U_DOUBLE U_FLOAT U_BIG_DECIMAL U_BIG_INTEGER U_BOOLEAN U_LOCAL_DATE U_LOCAL_TIME U_LOCAL_DATE_TIME ) hZ (hw _ (List.mem_of_getElem? (i := 4) rfl)) (hw _ (List.mem_of_getElem? (i := 3) rfl)) (by decide) (by decide)) (g := (mkF m 9 #[iv p0, iv 7, .unset, .unset] [(.int 7)])) rfl (by rw [hml]; rfl) (argsL := [(.int 7)]) (rest := []) (lenOf own_pd0 rfl) rfl (by show 2 * 0 + _ ≤ _; exact Nat.le_of_eq rfl) (hb hby at_9) (fun _ _ => ⟨rfl, e0, (by decide : 0 + 0 ≤ _), (by decide : 0 + 0 ≤ _)⟩)
  dsimp only [Pt.U, Pt.locs, Pt.cells, Pt.slots] at X1 l1 y1 z1 st1 hQ1
  subst l1 y1 z1
  obtain ⟨rfl, N1q, e1⟩ := hQ1
  have N1 := Fr.app N0 N1q
  obtain ⟨cq2, kq2, q2a, q2b, q2c⟩ := isOf hZ e1 (U_BIG_DECIMAL.2.1.ext O0.2)
  obtain ⟨_, _, ⟨T2, L2, k2, n2⟩, -, X2, ⟨Lc2, hQ2, l2, y2, z2⟩, st2⟩ := X1.virtualBack hx (y := (⟨"com/example/traversal/traversal/model/BasicType", "isIntegral", "()Z"⟩ : MethodName)) (z := (⟨"com/example/traversal/traversal/model/BasicType", "isIntegral", "()Z"⟩ : MethodName)) hown (mvT hZ (hw _ (List.mem_of_getElem? (i := 8) rfl))) (mvT hZ (hw _ (List.mem_of_getElem? (i := 9) rfl))) (notFace_of_selects (args := #[]) (mvT hZ (hw _ (List.mem_of_getElem? (i := 11) rfl)))) (mvT hZ (hw _ (List.mem_of_getElem? (i := 11) rfl))) (mvT hZ (hw _ (List.mem_of_getElem? (i := 10) rfl))) (by decide) (backOf (W := 0) (own_m_BIG_DECIMAL l Z a0 hw [] w_STRING w_INTEGER w_LONG w_SHORT w_BYTE w_DOUBLE w_FLOAT w_BIG_DECIMAL w_BIG_INTEGER w_BOOLEAN w_LOCAL_DATE w_LOCAL_TIME w_LOCAL_DATE_TIME  h0 n0 O0 U_STRING U_INTEGER U_LONG U_SHORT U_BYTE U_DOUBLE U_FLOAT U_BIG_DECIMAL U_BIG_INTEGER U_BOOLEAN U_LOCAL_DATE U_LOCAL_TIME U_LOCAL_DATE_TIME ) hZ (hw _ (List.mem_of_getElem? (i := 12) rfl)) (hw _ (List.mem_of_getElem? (i := 6) rfl)) (by decide) (by decide)) q2a q2c (g := (mkF m 36 #[iv p0, iv 7, rv w_BIG_DECIMAL, iv 0] [(.ref w_BIG_DECIMAL)])) rfl (by rw [hml]; rfl) (Steps.refl _) (argsL := []) (rest := []) (lenOf own_pd1 rfl) rfl (by show 2 * 0 + _ ≤ _; exact Nat.le_of_eq rfl) (hb hby at_36) (fun _ _ => ⟨rfl, e1, (by decide : 0 + 0 ≤ _), (by decide : 0 + 0 ≤ _)⟩)
  dsimp only [Pt.U, Pt.locs, Pt.cells, Pt.slots] at X2 l2 y2 z2 st2 hQ2
  subst l2 y2 z2
  obtain ⟨rfl, N2q, e2⟩ := hQ2
  have N2 := Fr.app N1 N2q
  obtain ⟨fs, hr, hrun, hended, hW, hsame⟩ := X2.leave (v := some (.int 1)) (fun h => by rw [Bd.returns] at h; cases h)
  refine ⟨_, _, pre0 _ ?_, hrun, hended, _, _, rfl, ?_, ⟨_, rfl⟩, hW, hsame.mono (by decide) (by decide)⟩
  · show Steps p.tables e below (s₁.setTop (mkF m 0 #[iv p0, .unset, .unset, .unset] [])) _
    refine XS.iloadN X0.here hx rfl (hb hby at_0) rfl ?_
    show Steps p.tables e below (s₁.setTop (mkF m 1 #[iv p0, .unset, .unset, .unset] [(.int p0)])) _
    refine X0.ldcInt hx hown (mvT hZ (hw _ (List.mem_of_getElem? (i := 0) rfl))) (g := (mkF m 1 #[iv p0, .unset, .unset, .unset] [(.int p0)])) rfl (hb hby at_1) _ ?_
    show Steps p.tables e below (s₁.setTop (mkF m 3 #[iv p0, .unset, .unset, .unset] [(.int 2147483647), (.int p0)])) _
    refine XS.iand X0.here hx rfl (hb hby at_3) rfl ?_
    show Steps p.tables e below (s₁.setTop (mkF m 4 #[iv p0, .unset, .unset, .unset] [(.int (p0 &&& (2147483647 : Int32)))])) _
    refine XS.bipush X0.here hx rfl (hb hby at_4) ?_
    show Steps p.tables e below (s₁.setTop (mkF m 6 #[iv p0, .unset, .unset, .unset] [(.int 13), (.int (p0 &&& (2147483647 : Int32)))])) _
    refine iremM X0 hx rfl (hb hby at_6) rfl (by decide) ?_
    show Steps p.tables e below (s₁.setTop (mkF m 7 #[iv p0, .unset, .unset, .unset] [(.int ((p0 &&& (2147483647 : Int32)) % (13 : Int32)))])) _
    refine own_top (v' := (.int 7)) (congrArg Value.int hk) ?_
    show Steps p.tables e below (s₁.setTop (mkF m 7 #[iv p0, .unset, .unset, .unset] [(.int 7)])) _
    refine XS.istoreN X0.here hx rfl (hb hby at_7) rfl (l' := #[iv p0, iv 7, .unset, .unset]) rfl ?_
    show Steps p.tables e below (s₁.setTop (mkF m 8 #[iv p0, iv 7, .unset, .unset] [])) _
    refine XS.iloadN X0.here hx rfl (hb hby at_8) rfl ?_
    show Steps p.tables e below (s₁.setTop (mkF m 9 #[iv p0, iv 7, .unset, .unset] [(.int 7)])) _
    refine st1 _ ?_
    show Steps p.tables e below (T1.setTop (mkF m 12 #[iv p0, iv 7, .unset, .unset] [(.ref w_BIG_DECIMAL)])) _
    refine XS.astoreN X1.here hx rfl (hb hby at_12) rfl rfl (l' := #[iv p0, iv 7, rv w_BIG_DECIMAL, .unset]) rfl ?_
    show Steps p.tables e below (T1.setTop (mkF m 13 #[iv p0, iv 7, rv w_BIG_DECIMAL, .unset] [])) _
    refine XS.iloadN X1.here hx rfl (hb hby at_13) rfl ?_
    show Steps p.tables e below (T1.setTop (mkF m 14 #[iv p0, iv 7, rv w_BIG_DECIMAL, .unset] [(.int 7)])) _
    refine XS.iconst X1.here hx rfl (hb hby at_14) ?_
    show Steps p.tables e below (T1.setTop (mkF m 15 #[iv p0, iv 7, rv w_BIG_DECIMAL, .unset] [(.int 1), (.int 7)])) _
    refine XS.icmpNo X1.here hx rfl (hb hby at_15) rfl (flt (by decide)).1 ?_
    show Steps p.tables e below (T1.setTop (mkF m 18 #[iv p0, iv 7, rv w_BIG_DECIMAL, .unset] [])) _
    refine XS.iloadN X1.here hx rfl (hb hby at_18) rfl ?_
    show Steps p.tables e below (T1.setTop (mkF m 19 #[iv p0, iv 7, rv w_BIG_DECIMAL, .unset] [(.int 7)])) _
    refine XS.iconst X1.here hx rfl (hb hby at_19) ?_
    show Steps p.tables e below (T1.setTop (mkF m 20 #[iv p0, iv 7, rv w_BIG_DECIMAL, .unset] [(.int 4), (.int 7)])) _
    refine XS.icmpNo X1.here hx rfl (hb hby at_20) rfl (tlt (by decide)).2.2.2 ?_
    show Steps p.tables e below (T1.setTop (mkF m 23 #[iv p0, iv 7, rv w_BIG_DECIMAL, .unset] [])) _
    refine XS.iloadN X1.here hx rfl (hb hby at_23) rfl ?_
    show Steps p.tables e below (T1.setTop (mkF m 24 #[iv p0, iv 7, rv w_BIG_DECIMAL, .unset] [(.int 7)])) _
    refine XS.bipush X1.here hx rfl (hb hby at_24) ?_
    show Steps p.tables e below (T1.setTop (mkF m 26 #[iv p0, iv 7, rv w_BIG_DECIMAL, .unset] [(.int 8), (.int 7)])) _
    refine XS.icmpYes X1.here hx rfl (pc0 := 26) (pc' := 33) rfl (hb hby at_26) rfl (feq (by decide)).2 (by decide) (by decide) ?_
    show Steps p.tables e below (T1.setTop (mkF m 33 #[iv p0, iv 7, rv w_BIG_DECIMAL, .unset] [])) _
    refine XS.iconst X1.here hx rfl (hb hby at_33) ?_
    show Steps p.tables e below (T1.setTop (mkF m 34 #[iv p0, iv 7, rv w_BIG_DECIMAL, .unset] [(.int 0)])) _
    refine XS.istoreN X1.here hx rfl (hb hby at_34) rfl (l' := #[iv p0, iv 7, rv w_BIG_DECIMAL, iv 0]) rfl ?_
    show Steps p.tables e below (T1.setTop (mkF m 35 #[iv p0, iv 7, rv w_BIG_DECIMAL, iv 0] [])) _
    refine XS.aloadN X1.here hx rfl (hb hby at_35) rfl rfl ?_
    show Steps p.tables e below (T1.setTop (mkF m 36 #[iv p0, iv 7, rv w_BIG_DECIMAL, iv 0] [(.ref w_BIG_DECIMAL)])) _
    refine st2.trans ?_
    show Steps p.tables e below (T2.setTop (mkF m 39 #[iv p0, iv 7, rv w_BIG_DECIMAL, iv 0] [(.int 0)])) _
    refine XS.iloadN X2.here hx rfl (hb hby at_39) rfl ?_
    show Steps p.tables e below (T2.setTop (mkF m 40 #[iv p0, iv 7, rv w_BIG_DECIMAL, iv 0] [(.int 0), (.int 0)])) _
    refine XS.icmpNo X2.here hx rfl (hb hby at_40) rfl (teq (by decide)).2 ?_
    show Steps p.tables e below (T2.setTop (mkF m 43 #[iv p0, iv 7, rv w_BIG_DECIMAL, iv 0] [])) _
    refine XS.iconst X2.here hx rfl (hb hby at_43) ?_
    show Steps p.tables e below (T2.setTop (mkF m 44 #[iv p0, iv 7, rv w_BIG_DECIMAL, iv 0] [(.int 1)])) _
    refine XS.goto X2.here hx rfl (pc0 := 44) (pc' := 48) rfl (hb hby at_44) (by decide) (by decide) ?_
    show Steps p.tables e below (T2.setTop (mkF m 48 #[iv p0, iv 7, rv w_BIG_DECIMAL, iv 0] [(.int 1)])) _
    exact retN X2 hx (t := .boolean) Bd.returns (by simp) (hb hby at_48) hr
  · show own_law7_Q Z w_STRING w_INTEGER w_LONG w_SHORT w_BYTE w_DOUBLE w_FLOAT w_BIG_DECIMAL w_BIG_INTEGER w_BOOLEAN w_LOCAL_DATE w_LOCAL_TIME w_LOCAL_DATE_TIME p0 h0 n0 _ T2.heap _
    rw [e2]
    exact ⟨rfl, N2, trivial⟩
theorem own_law8_ef (m : MethodId) (p0 : Int32) : entryFrame m #[(.int p0)] maxLocals = mkF m 0 #[iv p0, .unset, .unset, .unset] [] := by first | (simp [entryFrame, mkF, argsToLocals, Value.category, maxLocals]; done) | rfl
def own_law8_Q (Z : State) (w_STRING : Addr) (w_INTEGER : Addr) (w_LONG : Addr) (w_SHORT : Addr) (w_BYTE : Addr) (w_DOUBLE : Addr) (w_FLOAT : Addr) (w_BIG_DECIMAL : Addr) (w_BIG_INTEGER : Addr) (w_BOOLEAN : Addr) (w_LOCAL_DATE : Addr) (w_LOCAL_TIME : Addr) (w_LOCAL_DATE_TIME : Addr) (p0 : Int32) (h0 : Heap) (n0 : Nat) (v : Option Value) (h : Heap) (L : List Loc) : Prop := v = some (.int 1) ∧ Fr n0 L ∧ True
set_option maxRecDepth 65536 in
set_option maxHeartbeats 40000000 in
theorem own_law8 (l : Launch) (Z : State) (a0 : Array Value) (hw : ∀ d ∈ tables_1, d.before a0 Z = true) (ws : List Jvm.Cond) (w_STRING : Addr) (w_INTEGER : Addr) (w_LONG : Addr) (w_SHORT : Addr) (w_BYTE : Addr) (w_DOUBLE : Addr) (w_FLOAT : Addr) (w_BIG_DECIMAL : Addr) (w_BIG_INTEGER : Addr) (w_BOOLEAN : Addr) (w_LOCAL_DATE : Addr) (w_LOCAL_TIME : Addr) (w_LOCAL_DATE_TIME : Addr) (p0 : Int32) (h0 : Heap) (n0 : Nat) (O0 : Old Z n0 h0) (U_STRING : own_En Z Z.heap "com/example/traversal/traversal/model/BasicType" "STRING" "Lcom/example/traversal/traversal/model/BasicType;" w_STRING (0 : Int32)) (U_INTEGER : own_En Z Z.heap "com/example/traversal/traversal/model/BasicType" "INTEGER" "Lcom/example/traversal/traversal/model/BasicType;" w_INTEGER (1 : Int32)) (U_LONG : own_En Z Z.heap "com/example/traversal/traversal/model/BasicType" "LONG" "Lcom/example/traversal/traversal/model/BasicType;" w_LONG (2 : Int32)) (U_SHORT : own_En Z Z.heap "com/example/traversal/traversal/model/BasicType" "SHORT" "Lcom/example/traversal/traversal/model/BasicType;" w_SHORT (3 : Int32)) (U_BYTE : own_En Z Z.heap "com/example/traversal/traversal/model/BasicType" "BYTE" "Lcom/example/traversal/traversal/model/BasicType;" w_BYTE (4 : Int32)) (U_DOUBLE : own_En Z Z.heap "com/example/traversal/traversal/model/BasicType" "DOUBLE" "Lcom/example/traversal/traversal/model/BasicType;" w_DOUBLE (5 : Int32)) (U_FLOAT : own_En Z Z.heap "com/example/traversal/traversal/model/BasicType" "FLOAT" "Lcom/example/traversal/traversal/model/BasicType;" w_FLOAT (6 : Int32)) (U_BIG_DECIMAL : own_En Z Z.heap "com/example/traversal/traversal/model/BasicType" "BIG_DECIMAL" "Lcom/example/traversal/traversal/model/BasicType;" w_BIG_DECIMAL (7 : Int32)) (U_BIG_INTEGER : own_En Z Z.heap "com/example/traversal/traversal/model/BasicType" "BIG_INTEGER" "Lcom/example/traversal/traversal/model/BasicType;" w_BIG_INTEGER (8 : Int32)) (U_BOOLEAN : own_En Z Z.heap "com/example/traversal/traversal/model/BasicType" "BOOLEAN" "Lcom/example/traversal/traversal/model/BasicType;" w_BOOLEAN (9 : Int32)) (U_LOCAL_DATE : own_En Z Z.heap "com/example/traversal/traversal/model/BasicType" "LOCAL_DATE" "Lcom/example/traversal/traversal/model/BasicType;" w_LOCAL_DATE (10 : Int32)) (U_LOCAL_TIME : own_En Z Z.heap "com/example/traversal/traversal/model/BasicType" "LOCAL_TIME" "Lcom/example/traversal/traversal/model/BasicType;" w_LOCAL_TIME (11 : Int32)) (U_LOCAL_DATE_TIME : own_En Z Z.heap "com/example/traversal/traversal/model/BasicType" "LOCAL_DATE_TIME" "Lcom/example/traversal/traversal/model/BasicType;" w_LOCAL_DATE_TIME (12 : Int32)) (hk : (p0 &&& (2147483647 : Int32)) % (13 : Int32) = (8 : Int32)) :
    MetFree l x (head1 (Jvm.Cond.code x code maxLocals ret :: ws) room_1) (fun a U => a = #[(.int p0)] ∧ Z.Warmed39 U.vm ∧ U.heap = h0) (fun _ _ _ _ _ => True) (fun _ U o U' => ∃ v L, o = .returned v ∧ own_law8_Q Z w_STRING w_INTEGER w_LONG w_SHORT w_BYTE w_DOUBLE w_FLOAT w_BIG_DECIMAL w_BIG_INTEGER w_BOOLEAN w_LOCAL_DATE w_LOCAL_TIME w_LOCAL_DATE_TIME p0 h0 n0 v U'.heap L ∧ FrameEnd U o U' L 0 0) := by
  refine MetFree.of_bodySF (plainFor_of_name own_pn1) hisR ?_
  intro p e s m args below meth c s₁ Bd hml0 hP hK
  obtain ⟨rfl, hZ, hh⟩ := hP
  have hx := Bd.exec
  have hby := Bd.bytes
  have hml : c.maxLocals = 4 := hml0
  have hown : s.vm.findClass "com/example/traversal/traversal/model/BasicTypeIsIntegralPinLaw" = some m.cls := findClass_of_methodNamed Bd.named
  have hnm := (name_of_methodNamed Bd.named Bd.method).1
  have X0 : Stand p l e room_1 s m #[(.int p0)] below meth c s₁ [] 0 0 := Stand.of_body Bd
  have e0 : s₁.heap = h0 := by rw [← hh, Bd.state]; rfl
  have N0 := Fr.nil n0
  have pre0 : ∀ t, Steps p.tables e below (s₁.setTop (mkF m 0 #[iv p0, .unset, .unset, .unset] [])) t → Steps p.tables e below (s₁.setTop (entryFrame m #[(.int p0)] maxLocals)) t := fun t k => castTop (own_law8_ef m p0) k
  obtain ⟨_, _, ⟨T1, L1, k1, n1⟩, -, X1, ⟨Lc1, hQ1, l1, y1, z1⟩, st1⟩ := Jvm.LawKit.callS X0 hx (y := (⟨"com/example/traversal/traversal/model/BasicTypeIsIntegralPinLaw", "pick", "(I)Lcom/example/traversal/traversal/model/BasicType;"⟩ : MethodName)) hown (mvT hZ (hw _ (List.mem_of_getElem? (i := 1) rfl))) (mvT hZ (hw _ (List.mem_of_getElem? (i := 2) rfl))) (mvT hZ (hw _ (List.mem_of_getElem? (i := 3) rfl))) (mvT hZ (hw _ (List.mem_of_getElem? (i := 4) rfl))) (by decide) (backOf (W := 0) (own_p_8 l Z a0 hw [] w_STRING w_INTEGER w_LONG w_SHORT w_BYTE w_DOUBLE w_FLOAT w_BIG_DECIMAL w_BIG_INTEGER w_BOOLEAN w_LOCAL_DATE w_LOCAL_TIME w_LOCAL_DATE_TIME  h0 n0 O0 U_STRING U_INTEGER U_LONG U_SHORT U_BYTE U_DOUBLE U_FLOAT U_BIG_DECIMAL U_BIG_INTEGER U_BOOLEAN U_LOCAL_DATE U_LOCAL_TIME U_LOCAL_DATE_TIME ) hZ (hw _ (List.mem_of_getElem? (i := 4) rfl)) (hw _ (List.mem_of_getElem? (i := 3) rfl)) (by decide) (by decide)) (g := (mkF m 9 #[iv p0, iv 8, .unset, .unset] [(.int 8)])) rfl (by rw [hml]; rfl) (argsL := [(.int 8)]) (rest := []) (lenOf own_pd0 rfl) rfl (by show 2 * 0 + _ ≤ _; exact Nat.le_of_eq rfl) (hb hby at_9) (fun _ _ => ⟨rfl, e0, (by decide : 0 + 0 ≤ _), (by decide : 0 + 0 ≤ _)⟩)
  dsimp only [Pt.U, Pt.locs, Pt.cells, Pt.slots] at X1 l1 y1 z1 st1 hQ1
  subst l1 y1 z1
  obtain ⟨rfl, N1q, e1⟩ := hQ1
  have N1 := Fr.app N0 N1q
  obtain ⟨cq2, kq2, q2a, q2b, q2c⟩ := isOf hZ e1 (U_BIG_INTEGER.2.1.ext O0.2)
  obtain ⟨_, _, ⟨T2, L2, k2, n2⟩, -, X2, ⟨Lc2, hQ2, l2, y2, z2⟩, st2⟩ := X1.virtualBack hx (y := (⟨"com/example/traversal/traversal/model/BasicType", "isIntegral", "()Z"⟩ : MethodName)) (z := (⟨"com/example/traversal/traversal/model/BasicType", "isIntegral", "()Z"⟩ : MethodName)) hown (mvT hZ (hw _ (List.mem_of_getElem? (i := 8) rfl))) (mvT hZ (hw _ (List.mem_of_getElem? (i := 9) rfl))) (notFace_of_selects (args := #[]) (mvT hZ (hw _ (List.mem_of_getElem? (i := 11) rfl)))) (mvT hZ (hw _ (List.mem_of_getElem? (i := 11) rfl))) (mvT hZ (hw _ (List.mem_of_getElem? (i := 10) rfl))) (by decide) (backOf (W := 0) (own_m_BIG_INTEGER l Z a0 hw [] w_STRING w_INTEGER w_LONG w_SHORT w_BYTE w_DOUBLE w_FLOAT w_BIG_DECIMAL w_BIG_INTEGER w_BOOLEAN w_LOCAL_DATE w_LOCAL_TIME w_LOCAL_DATE_TIME  h0 n0 O0 U_STRING U_INTEGER U_LONG U_SHORT U_BYTE U_DOUBLE U_FLOAT U_BIG_DECIMAL U_BIG_INTEGER U_BOOLEAN U_LOCAL_DATE U_LOCAL_TIME U_LOCAL_DATE_TIME ) hZ (hw _ (List.mem_of_getElem? (i := 12) rfl)) (hw _ (List.mem_of_getElem? (i := 6) rfl)) (by decide) (by decide)) q2a q2c (g := (mkF m 36 #[iv p0, iv 8, rv w_BIG_INTEGER, iv 1] [(.ref w_BIG_INTEGER)])) rfl (by rw [hml]; rfl) (Steps.refl _) (argsL := []) (rest := []) (lenOf own_pd1 rfl) rfl (by show 2 * 0 + _ ≤ _; exact Nat.le_of_eq rfl) (hb hby at_36) (fun _ _ => ⟨rfl, e1, (by decide : 0 + 0 ≤ _), (by decide : 0 + 0 ≤ _)⟩)
  dsimp only [Pt.U, Pt.locs, Pt.cells, Pt.slots] at X2 l2 y2 z2 st2 hQ2
  subst l2 y2 z2
  obtain ⟨rfl, N2q, e2⟩ := hQ2
  have N2 := Fr.app N1 N2q
  obtain ⟨fs, hr, hrun, hended, hW, hsame⟩ := X2.leave (v := some (.int 1)) (fun h => by rw [Bd.returns] at h; cases h)
  refine ⟨_, _, pre0 _ ?_, hrun, hended, _, _, rfl, ?_, ⟨_, rfl⟩, hW, hsame.mono (by decide) (by decide)⟩
  · show Steps p.tables e below (s₁.setTop (mkF m 0 #[iv p0, .unset, .unset, .unset] [])) _
    refine XS.iloadN X0.here hx rfl (hb hby at_0) rfl ?_
    show Steps p.tables e below (s₁.setTop (mkF m 1 #[iv p0, .unset, .unset, .unset] [(.int p0)])) _
    refine X0.ldcInt hx hown (mvT hZ (hw _ (List.mem_of_getElem? (i := 0) rfl))) (g := (mkF m 1 #[iv p0, .unset, .unset, .unset] [(.int p0)])) rfl (hb hby at_1) _ ?_
    show Steps p.tables e below (s₁.setTop (mkF m 3 #[iv p0, .unset, .unset, .unset] [(.int 2147483647), (.int p0)])) _
    refine XS.iand X0.here hx rfl (hb hby at_3) rfl ?_
    show Steps p.tables e below (s₁.setTop (mkF m 4 #[iv p0, .unset, .unset, .unset] [(.int (p0 &&& (2147483647 : Int32)))])) _
    refine XS.bipush X0.here hx rfl (hb hby at_4) ?_
    show Steps p.tables e below (s₁.setTop (mkF m 6 #[iv p0, .unset, .unset, .unset] [(.int 13), (.int (p0 &&& (2147483647 : Int32)))])) _
    refine iremM X0 hx rfl (hb hby at_6) rfl (by decide) ?_
    show Steps p.tables e below (s₁.setTop (mkF m 7 #[iv p0, .unset, .unset, .unset] [(.int ((p0 &&& (2147483647 : Int32)) % (13 : Int32)))])) _
    refine own_top (v' := (.int 8)) (congrArg Value.int hk) ?_
    show Steps p.tables e below (s₁.setTop (mkF m 7 #[iv p0, .unset, .unset, .unset] [(.int 8)])) _
    refine XS.istoreN X0.here hx rfl (hb hby at_7) rfl (l' := #[iv p0, iv 8, .unset, .unset]) rfl ?_
    show Steps p.tables e below (s₁.setTop (mkF m 8 #[iv p0, iv 8, .unset, .unset] [])) _
    refine XS.iloadN X0.here hx rfl (hb hby at_8) rfl ?_
    show Steps p.tables e below (s₁.setTop (mkF m 9 #[iv p0, iv 8, .unset, .unset] [(.int 8)])) _
    refine st1 _ ?_
    show Steps p.tables e below (T1.setTop (mkF m 12 #[iv p0, iv 8, .unset, .unset] [(.ref w_BIG_INTEGER)])) _
    refine XS.astoreN X1.here hx rfl (hb hby at_12) rfl rfl (l' := #[iv p0, iv 8, rv w_BIG_INTEGER, .unset]) rfl ?_
    show Steps p.tables e below (T1.setTop (mkF m 13 #[iv p0, iv 8, rv w_BIG_INTEGER, .unset] [])) _
    refine XS.iloadN X1.here hx rfl (hb hby at_13) rfl ?_
    show Steps p.tables e below (T1.setTop (mkF m 14 #[iv p0, iv 8, rv w_BIG_INTEGER, .unset] [(.int 8)])) _
    refine XS.iconst X1.here hx rfl (hb hby at_14) ?_
    show Steps p.tables e below (T1.setTop (mkF m 15 #[iv p0, iv 8, rv w_BIG_INTEGER, .unset] [(.int 1), (.int 8)])) _
    refine XS.icmpNo X1.here hx rfl (hb hby at_15) rfl (flt (by decide)).1 ?_
    show Steps p.tables e below (T1.setTop (mkF m 18 #[iv p0, iv 8, rv w_BIG_INTEGER, .unset] [])) _
    refine XS.iloadN X1.here hx rfl (hb hby at_18) rfl ?_
    show Steps p.tables e below (T1.setTop (mkF m 19 #[iv p0, iv 8, rv w_BIG_INTEGER, .unset] [(.int 8)])) _
    refine XS.iconst X1.here hx rfl (hb hby at_19) ?_
    show Steps p.tables e below (T1.setTop (mkF m 20 #[iv p0, iv 8, rv w_BIG_INTEGER, .unset] [(.int 4), (.int 8)])) _
    refine XS.icmpNo X1.here hx rfl (hb hby at_20) rfl (tlt (by decide)).2.2.2 ?_
    show Steps p.tables e below (T1.setTop (mkF m 23 #[iv p0, iv 8, rv w_BIG_INTEGER, .unset] [])) _
    refine XS.iloadN X1.here hx rfl (hb hby at_23) rfl ?_
    show Steps p.tables e below (T1.setTop (mkF m 24 #[iv p0, iv 8, rv w_BIG_INTEGER, .unset] [(.int 8)])) _
    refine XS.bipush X1.here hx rfl (hb hby at_24) ?_
    show Steps p.tables e below (T1.setTop (mkF m 26 #[iv p0, iv 8, rv w_BIG_INTEGER, .unset] [(.int 8), (.int 8)])) _
    refine XS.icmpNo X1.here hx rfl (hb hby at_26) rfl (teq (by decide)).2 ?_
    show Steps p.tables e below (T1.setTop (mkF m 29 #[iv p0, iv 8, rv w_BIG_INTEGER, .unset] [])) _
    refine XS.iconst X1.here hx rfl (hb hby at_29) ?_
    show Steps p.tables e below (T1.setTop (mkF m 30 #[iv p0, iv 8, rv w_BIG_INTEGER, .unset] [(.int 1)])) _
    refine XS.goto X1.here hx rfl (pc0 := 30) (pc' := 34) rfl (hb hby at_30) (by decide) (by decide) ?_
    show Steps p.tables e below (T1.setTop (mkF m 34 #[iv p0, iv 8, rv w_BIG_INTEGER, .unset] [(.int 1)])) _
    refine XS.istoreN X1.here hx rfl (hb hby at_34) rfl (l' := #[iv p0, iv 8, rv w_BIG_INTEGER, iv 1]) rfl ?_
    show Steps p.tables e below (T1.setTop (mkF m 35 #[iv p0, iv 8, rv w_BIG_INTEGER, iv 1] [])) _
    refine XS.aloadN X1.here hx rfl (hb hby at_35) rfl rfl ?_
    show Steps p.tables e below (T1.setTop (mkF m 36 #[iv p0, iv 8, rv w_BIG_INTEGER, iv 1] [(.ref w_BIG_INTEGER)])) _
    refine st2.trans ?_
    show Steps p.tables e below (T2.setTop (mkF m 39 #[iv p0, iv 8, rv w_BIG_INTEGER, iv 1] [(.int 1)])) _
    refine XS.iloadN X2.here hx rfl (hb hby at_39) rfl ?_
    show Steps p.tables e below (T2.setTop (mkF m 40 #[iv p0, iv 8, rv w_BIG_INTEGER, iv 1] [(.int 1), (.int 1)])) _
    refine XS.icmpNo X2.here hx rfl (hb hby at_40) rfl (teq (by decide)).2 ?_
    show Steps p.tables e below (T2.setTop (mkF m 43 #[iv p0, iv 8, rv w_BIG_INTEGER, iv 1] [])) _
    refine XS.iconst X2.here hx rfl (hb hby at_43) ?_
    show Steps p.tables e below (T2.setTop (mkF m 44 #[iv p0, iv 8, rv w_BIG_INTEGER, iv 1] [(.int 1)])) _
    refine XS.goto X2.here hx rfl (pc0 := 44) (pc' := 48) rfl (hb hby at_44) (by decide) (by decide) ?_
    show Steps p.tables e below (T2.setTop (mkF m 48 #[iv p0, iv 8, rv w_BIG_INTEGER, iv 1] [(.int 1)])) _
    exact retN X2 hx (t := .boolean) Bd.returns (by simp) (hb hby at_48) hr
  · show own_law8_Q Z w_STRING w_INTEGER w_LONG w_SHORT w_BYTE w_DOUBLE w_FLOAT w_BIG_DECIMAL w_BIG_INTEGER w_BOOLEAN w_LOCAL_DATE w_LOCAL_TIME w_LOCAL_DATE_TIME p0 h0 n0 _ T2.heap _
    rw [e2]
    exact ⟨rfl, N2, trivial⟩
theorem own_law9_ef (m : MethodId) (p0 : Int32) : entryFrame m #[(.int p0)] maxLocals = mkF m 0 #[iv p0, .unset, .unset, .unset] [] := by first | (simp [entryFrame, mkF, argsToLocals, Value.category, maxLocals]; done) | rfl
def own_law9_Q (Z : State) (w_STRING : Addr) (w_INTEGER : Addr) (w_LONG : Addr) (w_SHORT : Addr) (w_BYTE : Addr) (w_DOUBLE : Addr) (w_FLOAT : Addr) (w_BIG_DECIMAL : Addr) (w_BIG_INTEGER : Addr) (w_BOOLEAN : Addr) (w_LOCAL_DATE : Addr) (w_LOCAL_TIME : Addr) (w_LOCAL_DATE_TIME : Addr) (p0 : Int32) (h0 : Heap) (n0 : Nat) (v : Option Value) (h : Heap) (L : List Loc) : Prop := v = some (.int 1) ∧ Fr n0 L ∧ True
set_option maxRecDepth 65536 in
set_option maxHeartbeats 40000000 in
theorem own_law9 (l : Launch) (Z : State) (a0 : Array Value) (hw : ∀ d ∈ tables_1, d.before a0 Z = true) (ws : List Jvm.Cond) (w_STRING : Addr) (w_INTEGER : Addr) (w_LONG : Addr) (w_SHORT : Addr) (w_BYTE : Addr) (w_DOUBLE : Addr) (w_FLOAT : Addr) (w_BIG_DECIMAL : Addr) (w_BIG_INTEGER : Addr) (w_BOOLEAN : Addr) (w_LOCAL_DATE : Addr) (w_LOCAL_TIME : Addr) (w_LOCAL_DATE_TIME : Addr) (p0 : Int32) (h0 : Heap) (n0 : Nat) (O0 : Old Z n0 h0) (U_STRING : own_En Z Z.heap "com/example/traversal/traversal/model/BasicType" "STRING" "Lcom/example/traversal/traversal/model/BasicType;" w_STRING (0 : Int32)) (U_INTEGER : own_En Z Z.heap "com/example/traversal/traversal/model/BasicType" "INTEGER" "Lcom/example/traversal/traversal/model/BasicType;" w_INTEGER (1 : Int32)) (U_LONG : own_En Z Z.heap "com/example/traversal/traversal/model/BasicType" "LONG" "Lcom/example/traversal/traversal/model/BasicType;" w_LONG (2 : Int32)) (U_SHORT : own_En Z Z.heap "com/example/traversal/traversal/model/BasicType" "SHORT" "Lcom/example/traversal/traversal/model/BasicType;" w_SHORT (3 : Int32)) (U_BYTE : own_En Z Z.heap "com/example/traversal/traversal/model/BasicType" "BYTE" "Lcom/example/traversal/traversal/model/BasicType;" w_BYTE (4 : Int32)) (U_DOUBLE : own_En Z Z.heap "com/example/traversal/traversal/model/BasicType" "DOUBLE" "Lcom/example/traversal/traversal/model/BasicType;" w_DOUBLE (5 : Int32)) (U_FLOAT : own_En Z Z.heap "com/example/traversal/traversal/model/BasicType" "FLOAT" "Lcom/example/traversal/traversal/model/BasicType;" w_FLOAT (6 : Int32)) (U_BIG_DECIMAL : own_En Z Z.heap "com/example/traversal/traversal/model/BasicType" "BIG_DECIMAL" "Lcom/example/traversal/traversal/model/BasicType;" w_BIG_DECIMAL (7 : Int32)) (U_BIG_INTEGER : own_En Z Z.heap "com/example/traversal/traversal/model/BasicType" "BIG_INTEGER" "Lcom/example/traversal/traversal/model/BasicType;" w_BIG_INTEGER (8 : Int32)) (U_BOOLEAN : own_En Z Z.heap "com/example/traversal/traversal/model/BasicType" "BOOLEAN" "Lcom/example/traversal/traversal/model/BasicType;" w_BOOLEAN (9 : Int32)) (U_LOCAL_DATE : own_En Z Z.heap "com/example/traversal/traversal/model/BasicType" "LOCAL_DATE" "Lcom/example/traversal/traversal/model/BasicType;" w_LOCAL_DATE (10 : Int32)) (U_LOCAL_TIME : own_En Z Z.heap "com/example/traversal/traversal/model/BasicType" "LOCAL_TIME" "Lcom/example/traversal/traversal/model/BasicType;" w_LOCAL_TIME (11 : Int32)) (U_LOCAL_DATE_TIME : own_En Z Z.heap "com/example/traversal/traversal/model/BasicType" "LOCAL_DATE_TIME" "Lcom/example/traversal/traversal/model/BasicType;" w_LOCAL_DATE_TIME (12 : Int32)) (hk : (p0 &&& (2147483647 : Int32)) % (13 : Int32) = (9 : Int32)) :
    MetFree l x (head1 (Jvm.Cond.code x code maxLocals ret :: ws) room_1) (fun a U => a = #[(.int p0)] ∧ Z.Warmed39 U.vm ∧ U.heap = h0) (fun _ _ _ _ _ => True) (fun _ U o U' => ∃ v L, o = .returned v ∧ own_law9_Q Z w_STRING w_INTEGER w_LONG w_SHORT w_BYTE w_DOUBLE w_FLOAT w_BIG_DECIMAL w_BIG_INTEGER w_BOOLEAN w_LOCAL_DATE w_LOCAL_TIME w_LOCAL_DATE_TIME p0 h0 n0 v U'.heap L ∧ FrameEnd U o U' L 0 0) := by
  refine MetFree.of_bodySF (plainFor_of_name own_pn1) hisR ?_
  intro p e s m args below meth c s₁ Bd hml0 hP hK
  obtain ⟨rfl, hZ, hh⟩ := hP
  have hx := Bd.exec
  have hby := Bd.bytes
  have hml : c.maxLocals = 4 := hml0
  have hown : s.vm.findClass "com/example/traversal/traversal/model/BasicTypeIsIntegralPinLaw" = some m.cls := findClass_of_methodNamed Bd.named
  have hnm := (name_of_methodNamed Bd.named Bd.method).1
  have X0 : Stand p l e room_1 s m #[(.int p0)] below meth c s₁ [] 0 0 := Stand.of_body Bd
  have e0 : s₁.heap = h0 := by rw [← hh, Bd.state]; rfl
  have N0 := Fr.nil n0
  have pre0 : ∀ t, Steps p.tables e below (s₁.setTop (mkF m 0 #[iv p0, .unset, .unset, .unset] [])) t → Steps p.tables e below (s₁.setTop (entryFrame m #[(.int p0)] maxLocals)) t := fun t k => castTop (own_law9_ef m p0) k
  obtain ⟨_, _, ⟨T1, L1, k1, n1⟩, -, X1, ⟨Lc1, hQ1, l1, y1, z1⟩, st1⟩ := Jvm.LawKit.callS X0 hx (y := (⟨"com/example/traversal/traversal/model/BasicTypeIsIntegralPinLaw", "pick", "(I)Lcom/example/traversal/traversal/model/BasicType;"⟩ : MethodName)) hown (mvT hZ (hw _ (List.mem_of_getElem? (i := 1) rfl))) (mvT hZ (hw _ (List.mem_of_getElem? (i := 2) rfl))) (mvT hZ (hw _ (List.mem_of_getElem? (i := 3) rfl))) (mvT hZ (hw _ (List.mem_of_getElem? (i := 4) rfl))) (by decide) (backOf (W := 0) (own_p_9 l Z a0 hw [] w_STRING w_INTEGER w_LONG w_SHORT w_BYTE w_DOUBLE w_FLOAT w_BIG_DECIMAL w_BIG_INTEGER w_BOOLEAN w_LOCAL_DATE w_LOCAL_TIME w_LOCAL_DATE_TIME  h0 n0 O0 U_STRING U_INTEGER U_LONG U_SHORT U_BYTE U_DOUBLE U_FLOAT U_BIG_DECIMAL U_BIG_INTEGER U_BOOLEAN U_LOCAL_DATE U_LOCAL_TIME U_LOCAL_DATE_TIME ) hZ (hw _ (List.mem_of_getElem? (i := 4) rfl)) (hw _ (List.mem_of_getElem? (i := 3) rfl)) (by decide) (by decide)) (g := (mkF m 9 #[iv p0, iv 9, .unset, .unset] [(.int 9)])) rfl (by rw [hml]; rfl) (argsL := [(.int 9)]) (rest := []) (lenOf own_pd0 rfl) rfl (by show 2 * 0 + _ ≤ _; exact Nat.le_of_eq rfl) (hb hby at_9) (fun _ _ => ⟨rfl, e0, (by decide : 0 + 0 ≤ _), (by decide : 0 + 0 ≤ _)⟩)
  dsimp only [Pt.U, Pt.locs, Pt.cells, Pt.slots] at X1 l1 y1 z1 st1 hQ1
  subst l1 y1 z1
  obtain ⟨rfl, N1q, e1⟩ := hQ1
  have N1 := Fr.app N0 N1q
  obtain ⟨cq2, kq2, q2a, q2b, q2c⟩ := isOf hZ e1 (U_BOOLEAN.2.1.ext O0.2)
  obtain ⟨_, _, ⟨T2, L2, k2, n2⟩, -, X2, ⟨Lc2, hQ2, l2, y2, z2⟩, st2⟩ := X1.virtualBack hx (y := (⟨"com/example/traversal/traversal/model/BasicType", "isIntegral", "()Z"⟩ : MethodName)) (z := (⟨"com/example/traversal/traversal/model/BasicType", "isIntegral", "()Z"⟩ : MethodName)) hown (mvT hZ (hw _ (List.mem_of_getElem? (i := 8) rfl))) (mvT hZ (hw _ (List.mem_of_getElem? (i := 9) rfl))) (notFace_of_selects (args := #[]) (mvT hZ (hw _ (List.mem_of_getElem? (i := 11) rfl)))) (mvT hZ (hw _ (List.mem_of_getElem? (i := 11) rfl))) (mvT hZ (hw _ (List.mem_of_getElem? (i := 10) rfl))) (by decide) (backOf (W := 0) (own_m_BOOLEAN l Z a0 hw [] w_STRING w_INTEGER w_LONG w_SHORT w_BYTE w_DOUBLE w_FLOAT w_BIG_DECIMAL w_BIG_INTEGER w_BOOLEAN w_LOCAL_DATE w_LOCAL_TIME w_LOCAL_DATE_TIME  h0 n0 O0 U_STRING U_INTEGER U_LONG U_SHORT U_BYTE U_DOUBLE U_FLOAT U_BIG_DECIMAL U_BIG_INTEGER U_BOOLEAN U_LOCAL_DATE U_LOCAL_TIME U_LOCAL_DATE_TIME ) hZ (hw _ (List.mem_of_getElem? (i := 12) rfl)) (hw _ (List.mem_of_getElem? (i := 6) rfl)) (by decide) (by decide)) q2a q2c (g := (mkF m 36 #[iv p0, iv 9, rv w_BOOLEAN, iv 0] [(.ref w_BOOLEAN)])) rfl (by rw [hml]; rfl) (Steps.refl _) (argsL := []) (rest := []) (lenOf own_pd1 rfl) rfl (by show 2 * 0 + _ ≤ _; exact Nat.le_of_eq rfl) (hb hby at_36) (fun _ _ => ⟨rfl, e1, (by decide : 0 + 0 ≤ _), (by decide : 0 + 0 ≤ _)⟩)
  dsimp only [Pt.U, Pt.locs, Pt.cells, Pt.slots] at X2 l2 y2 z2 st2 hQ2
  subst l2 y2 z2
  obtain ⟨rfl, N2q, e2⟩ := hQ2
  have N2 := Fr.app N1 N2q
  obtain ⟨fs, hr, hrun, hended, hW, hsame⟩ := X2.leave (v := some (.int 1)) (fun h => by rw [Bd.returns] at h; cases h)
  refine ⟨_, _, pre0 _ ?_, hrun, hended, _, _, rfl, ?_, ⟨_, rfl⟩, hW, hsame.mono (by decide) (by decide)⟩
  · show Steps p.tables e below (s₁.setTop (mkF m 0 #[iv p0, .unset, .unset, .unset] [])) _
    refine XS.iloadN X0.here hx rfl (hb hby at_0) rfl ?_
    show Steps p.tables e below (s₁.setTop (mkF m 1 #[iv p0, .unset, .unset, .unset] [(.int p0)])) _
    refine X0.ldcInt hx hown (mvT hZ (hw _ (List.mem_of_getElem? (i := 0) rfl))) (g := (mkF m 1 #[iv p0, .unset, .unset, .unset] [(.int p0)])) rfl (hb hby at_1) _ ?_
    show Steps p.tables e below (s₁.setTop (mkF m 3 #[iv p0, .unset, .unset, .unset] [(.int 2147483647), (.int p0)])) _
    refine XS.iand X0.here hx rfl (hb hby at_3) rfl ?_
    show Steps p.tables e below (s₁.setTop (mkF m 4 #[iv p0, .unset, .unset, .unset] [(.int (p0 &&& (2147483647 : Int32)))])) _
    refine XS.bipush X0.here hx rfl (hb hby at_4) ?_
    show Steps p.tables e below (s₁.setTop (mkF m 6 #[iv p0, .unset, .unset, .unset] [(.int 13), (.int (p0 &&& (2147483647 : Int32)))])) _
    refine iremM X0 hx rfl (hb hby at_6) rfl (by decide) ?_
    show Steps p.tables e below (s₁.setTop (mkF m 7 #[iv p0, .unset, .unset, .unset] [(.int ((p0 &&& (2147483647 : Int32)) % (13 : Int32)))])) _
    refine own_top (v' := (.int 9)) (congrArg Value.int hk) ?_
    show Steps p.tables e below (s₁.setTop (mkF m 7 #[iv p0, .unset, .unset, .unset] [(.int 9)])) _
    refine XS.istoreN X0.here hx rfl (hb hby at_7) rfl (l' := #[iv p0, iv 9, .unset, .unset]) rfl ?_
    show Steps p.tables e below (s₁.setTop (mkF m 8 #[iv p0, iv 9, .unset, .unset] [])) _
    refine XS.iloadN X0.here hx rfl (hb hby at_8) rfl ?_
    show Steps p.tables e below (s₁.setTop (mkF m 9 #[iv p0, iv 9, .unset, .unset] [(.int 9)])) _
    refine st1 _ ?_
    show Steps p.tables e below (T1.setTop (mkF m 12 #[iv p0, iv 9, .unset, .unset] [(.ref w_BOOLEAN)])) _
    refine XS.astoreN X1.here hx rfl (hb hby at_12) rfl rfl (l' := #[iv p0, iv 9, rv w_BOOLEAN, .unset]) rfl ?_
    show Steps p.tables e below (T1.setTop (mkF m 13 #[iv p0, iv 9, rv w_BOOLEAN, .unset] [])) _
    refine XS.iloadN X1.here hx rfl (hb hby at_13) rfl ?_
    show Steps p.tables e below (T1.setTop (mkF m 14 #[iv p0, iv 9, rv w_BOOLEAN, .unset] [(.int 9)])) _
    refine XS.iconst X1.here hx rfl (hb hby at_14) ?_
    show Steps p.tables e below (T1.setTop (mkF m 15 #[iv p0, iv 9, rv w_BOOLEAN, .unset] [(.int 1), (.int 9)])) _
    refine XS.icmpNo X1.here hx rfl (hb hby at_15) rfl (flt (by decide)).1 ?_
    show Steps p.tables e below (T1.setTop (mkF m 18 #[iv p0, iv 9, rv w_BOOLEAN, .unset] [])) _
    refine XS.iloadN X1.here hx rfl (hb hby at_18) rfl ?_
    show Steps p.tables e below (T1.setTop (mkF m 19 #[iv p0, iv 9, rv w_BOOLEAN, .unset] [(.int 9)])) _
    refine XS.iconst X1.here hx rfl (hb hby at_19) ?_
    show Steps p.tables e below (T1.setTop (mkF m 20 #[iv p0, iv 9, rv w_BOOLEAN, .unset] [(.int 4), (.int 9)])) _
    refine XS.icmpNo X1.here hx rfl (hb hby at_20) rfl (tlt (by decide)).2.2.2 ?_
    show Steps p.tables e below (T1.setTop (mkF m 23 #[iv p0, iv 9, rv w_BOOLEAN, .unset] [])) _
    refine XS.iloadN X1.here hx rfl (hb hby at_23) rfl ?_
    show Steps p.tables e below (T1.setTop (mkF m 24 #[iv p0, iv 9, rv w_BOOLEAN, .unset] [(.int 9)])) _
    refine XS.bipush X1.here hx rfl (hb hby at_24) ?_
    show Steps p.tables e below (T1.setTop (mkF m 26 #[iv p0, iv 9, rv w_BOOLEAN, .unset] [(.int 8), (.int 9)])) _
    refine XS.icmpYes X1.here hx rfl (pc0 := 26) (pc' := 33) rfl (hb hby at_26) rfl (feq (by decide)).2 (by decide) (by decide) ?_
    show Steps p.tables e below (T1.setTop (mkF m 33 #[iv p0, iv 9, rv w_BOOLEAN, .unset] [])) _
    refine XS.iconst X1.here hx rfl (hb hby at_33) ?_
    show Steps p.tables e below (T1.setTop (mkF m 34 #[iv p0, iv 9, rv w_BOOLEAN, .unset] [(.int 0)])) _
    refine XS.istoreN X1.here hx rfl (hb hby at_34) rfl (l' := #[iv p0, iv 9, rv w_BOOLEAN, iv 0]) rfl ?_
    show Steps p.tables e below (T1.setTop (mkF m 35 #[iv p0, iv 9, rv w_BOOLEAN, iv 0] [])) _
    refine XS.aloadN X1.here hx rfl (hb hby at_35) rfl rfl ?_
    show Steps p.tables e below (T1.setTop (mkF m 36 #[iv p0, iv 9, rv w_BOOLEAN, iv 0] [(.ref w_BOOLEAN)])) _
    refine st2.trans ?_
    show Steps p.tables e below (T2.setTop (mkF m 39 #[iv p0, iv 9, rv w_BOOLEAN, iv 0] [(.int 0)])) _
    refine XS.iloadN X2.here hx rfl (hb hby at_39) rfl ?_
    show Steps p.tables e below (T2.setTop (mkF m 40 #[iv p0, iv 9, rv w_BOOLEAN, iv 0] [(.int 0), (.int 0)])) _
    refine XS.icmpNo X2.here hx rfl (hb hby at_40) rfl (teq (by decide)).2 ?_
    show Steps p.tables e below (T2.setTop (mkF m 43 #[iv p0, iv 9, rv w_BOOLEAN, iv 0] [])) _
    refine XS.iconst X2.here hx rfl (hb hby at_43) ?_
    show Steps p.tables e below (T2.setTop (mkF m 44 #[iv p0, iv 9, rv w_BOOLEAN, iv 0] [(.int 1)])) _
    refine XS.goto X2.here hx rfl (pc0 := 44) (pc' := 48) rfl (hb hby at_44) (by decide) (by decide) ?_
    show Steps p.tables e below (T2.setTop (mkF m 48 #[iv p0, iv 9, rv w_BOOLEAN, iv 0] [(.int 1)])) _
    exact retN X2 hx (t := .boolean) Bd.returns (by simp) (hb hby at_48) hr
  · show own_law9_Q Z w_STRING w_INTEGER w_LONG w_SHORT w_BYTE w_DOUBLE w_FLOAT w_BIG_DECIMAL w_BIG_INTEGER w_BOOLEAN w_LOCAL_DATE w_LOCAL_TIME w_LOCAL_DATE_TIME p0 h0 n0 _ T2.heap _
    rw [e2]
    exact ⟨rfl, N2, trivial⟩
theorem own_law10_ef (m : MethodId) (p0 : Int32) : entryFrame m #[(.int p0)] maxLocals = mkF m 0 #[iv p0, .unset, .unset, .unset] [] := by first | (simp [entryFrame, mkF, argsToLocals, Value.category, maxLocals]; done) | rfl
def own_law10_Q (Z : State) (w_STRING : Addr) (w_INTEGER : Addr) (w_LONG : Addr) (w_SHORT : Addr) (w_BYTE : Addr) (w_DOUBLE : Addr) (w_FLOAT : Addr) (w_BIG_DECIMAL : Addr) (w_BIG_INTEGER : Addr) (w_BOOLEAN : Addr) (w_LOCAL_DATE : Addr) (w_LOCAL_TIME : Addr) (w_LOCAL_DATE_TIME : Addr) (p0 : Int32) (h0 : Heap) (n0 : Nat) (v : Option Value) (h : Heap) (L : List Loc) : Prop := v = some (.int 1) ∧ Fr n0 L ∧ True
set_option maxRecDepth 65536 in
set_option maxHeartbeats 40000000 in
theorem own_law10 (l : Launch) (Z : State) (a0 : Array Value) (hw : ∀ d ∈ tables_1, d.before a0 Z = true) (ws : List Jvm.Cond) (w_STRING : Addr) (w_INTEGER : Addr) (w_LONG : Addr) (w_SHORT : Addr) (w_BYTE : Addr) (w_DOUBLE : Addr) (w_FLOAT : Addr) (w_BIG_DECIMAL : Addr) (w_BIG_INTEGER : Addr) (w_BOOLEAN : Addr) (w_LOCAL_DATE : Addr) (w_LOCAL_TIME : Addr) (w_LOCAL_DATE_TIME : Addr) (p0 : Int32) (h0 : Heap) (n0 : Nat) (O0 : Old Z n0 h0) (U_STRING : own_En Z Z.heap "com/example/traversal/traversal/model/BasicType" "STRING" "Lcom/example/traversal/traversal/model/BasicType;" w_STRING (0 : Int32)) (U_INTEGER : own_En Z Z.heap "com/example/traversal/traversal/model/BasicType" "INTEGER" "Lcom/example/traversal/traversal/model/BasicType;" w_INTEGER (1 : Int32)) (U_LONG : own_En Z Z.heap "com/example/traversal/traversal/model/BasicType" "LONG" "Lcom/example/traversal/traversal/model/BasicType;" w_LONG (2 : Int32)) (U_SHORT : own_En Z Z.heap "com/example/traversal/traversal/model/BasicType" "SHORT" "Lcom/example/traversal/traversal/model/BasicType;" w_SHORT (3 : Int32)) (U_BYTE : own_En Z Z.heap "com/example/traversal/traversal/model/BasicType" "BYTE" "Lcom/example/traversal/traversal/model/BasicType;" w_BYTE (4 : Int32)) (U_DOUBLE : own_En Z Z.heap "com/example/traversal/traversal/model/BasicType" "DOUBLE" "Lcom/example/traversal/traversal/model/BasicType;" w_DOUBLE (5 : Int32)) (U_FLOAT : own_En Z Z.heap "com/example/traversal/traversal/model/BasicType" "FLOAT" "Lcom/example/traversal/traversal/model/BasicType;" w_FLOAT (6 : Int32)) (U_BIG_DECIMAL : own_En Z Z.heap "com/example/traversal/traversal/model/BasicType" "BIG_DECIMAL" "Lcom/example/traversal/traversal/model/BasicType;" w_BIG_DECIMAL (7 : Int32)) (U_BIG_INTEGER : own_En Z Z.heap "com/example/traversal/traversal/model/BasicType" "BIG_INTEGER" "Lcom/example/traversal/traversal/model/BasicType;" w_BIG_INTEGER (8 : Int32)) (U_BOOLEAN : own_En Z Z.heap "com/example/traversal/traversal/model/BasicType" "BOOLEAN" "Lcom/example/traversal/traversal/model/BasicType;" w_BOOLEAN (9 : Int32)) (U_LOCAL_DATE : own_En Z Z.heap "com/example/traversal/traversal/model/BasicType" "LOCAL_DATE" "Lcom/example/traversal/traversal/model/BasicType;" w_LOCAL_DATE (10 : Int32)) (U_LOCAL_TIME : own_En Z Z.heap "com/example/traversal/traversal/model/BasicType" "LOCAL_TIME" "Lcom/example/traversal/traversal/model/BasicType;" w_LOCAL_TIME (11 : Int32)) (U_LOCAL_DATE_TIME : own_En Z Z.heap "com/example/traversal/traversal/model/BasicType" "LOCAL_DATE_TIME" "Lcom/example/traversal/traversal/model/BasicType;" w_LOCAL_DATE_TIME (12 : Int32)) (hk : (p0 &&& (2147483647 : Int32)) % (13 : Int32) = (10 : Int32)) :
    MetFree l x (head1 (Jvm.Cond.code x code maxLocals ret :: ws) room_1) (fun a U => a = #[(.int p0)] ∧ Z.Warmed39 U.vm ∧ U.heap = h0) (fun _ _ _ _ _ => True) (fun _ U o U' => ∃ v L, o = .returned v ∧ own_law10_Q Z w_STRING w_INTEGER w_LONG w_SHORT w_BYTE w_DOUBLE w_FLOAT w_BIG_DECIMAL w_BIG_INTEGER w_BOOLEAN w_LOCAL_DATE w_LOCAL_TIME w_LOCAL_DATE_TIME p0 h0 n0 v U'.heap L ∧ FrameEnd U o U' L 0 0) := by
  refine MetFree.of_bodySF (plainFor_of_name own_pn1) hisR ?_
  intro p e s m args below meth c s₁ Bd hml0 hP hK
  obtain ⟨rfl, hZ, hh⟩ := hP
  have hx := Bd.exec
  have hby := Bd.bytes
  have hml : c.maxLocals = 4 := hml0
  have hown : s.vm.findClass "com/example/traversal/traversal/model/BasicTypeIsIntegralPinLaw" = some m.cls := findClass_of_methodNamed Bd.named
  have hnm := (name_of_methodNamed Bd.named Bd.method).1
  have X0 : Stand p l e room_1 s m #[(.int p0)] below meth c s₁ [] 0 0 := Stand.of_body Bd
  have e0 : s₁.heap = h0 := by rw [← hh, Bd.state]; rfl
  have N0 := Fr.nil n0
  have pre0 : ∀ t, Steps p.tables e below (s₁.setTop (mkF m 0 #[iv p0, .unset, .unset, .unset] [])) t → Steps p.tables e below (s₁.setTop (entryFrame m #[(.int p0)] maxLocals)) t := fun t k => castTop (own_law10_ef m p0) k
  obtain ⟨_, _, ⟨T1, L1, k1, n1⟩, -, X1, ⟨Lc1, hQ1, l1, y1, z1⟩, st1⟩ := Jvm.LawKit.callS X0 hx (y := (⟨"com/example/traversal/traversal/model/BasicTypeIsIntegralPinLaw", "pick", "(I)Lcom/example/traversal/traversal/model/BasicType;"⟩ : MethodName)) hown (mvT hZ (hw _ (List.mem_of_getElem? (i := 1) rfl))) (mvT hZ (hw _ (List.mem_of_getElem? (i := 2) rfl))) (mvT hZ (hw _ (List.mem_of_getElem? (i := 3) rfl))) (mvT hZ (hw _ (List.mem_of_getElem? (i := 4) rfl))) (by decide) (backOf (W := 0) (own_p_10 l Z a0 hw [] w_STRING w_INTEGER w_LONG w_SHORT w_BYTE w_DOUBLE w_FLOAT w_BIG_DECIMAL w_BIG_INTEGER w_BOOLEAN w_LOCAL_DATE w_LOCAL_TIME w_LOCAL_DATE_TIME  h0 n0 O0 U_STRING U_INTEGER U_LONG U_SHORT U_BYTE U_DOUBLE U_FLOAT U_BIG_DECIMAL U_BIG_INTEGER U_BOOLEAN U_LOCAL_DATE U_LOCAL_TIME U_LOCAL_DATE_TIME ) hZ (hw _ (List.mem_of_getElem? (i := 4) rfl)) (hw _ (List.mem_of_getElem? (i := 3) rfl)) (by decide) (by decide)) (g := (mkF m 9 #[iv p0, iv 10, .unset, .unset] [(.int 10)])) rfl (by rw [hml]; rfl) (argsL := [(.int 10)]) (rest := []) (lenOf own_pd0 rfl) rfl (by show 2 * 0 + _ ≤ _; exact Nat.le_of_eq rfl) (hb hby at_9) (fun _ _ => ⟨rfl, e0, (by decide : 0 + 0 ≤ _), (by decide : 0 + 0 ≤ _)⟩)
  dsimp only [Pt.U, Pt.locs, Pt.cells, Pt.slots] at X1 l1 y1 z1 st1 hQ1
  subst l1 y1 z1
  obtain ⟨rfl, N1q, e1⟩ := hQ1
  have N1 := Fr.app N0 N1q
  obtain ⟨cq2, kq2, q2a, q2b, q2c⟩ := isOf hZ e1 (U_LOCAL_DATE.2.1.ext O0.2)
  obtain ⟨_, _, ⟨T2, L2, k2, n2⟩, -, X2, ⟨Lc2, hQ2, l2, y2, z2⟩, st2⟩ := X1.virtualBack hx (y := (⟨"com/example/traversal/traversal/model/BasicType", "isIntegral", "()Z"⟩ : MethodName)) (z := (⟨"com/example/traversal/traversal/model/BasicType", "isIntegral", "()Z"⟩ : MethodName)) hown (mvT hZ (hw _ (List.mem_of_getElem? (i := 8) rfl))) (mvT hZ (hw _ (List.mem_of_getElem? (i := 9) rfl))) (notFace_of_selects (args := #[]) (mvT hZ (hw _ (List.mem_of_getElem? (i := 11) rfl)))) (mvT hZ (hw _ (List.mem_of_getElem? (i := 11) rfl))) (mvT hZ (hw _ (List.mem_of_getElem? (i := 10) rfl))) (by decide) (backOf (W := 0) (own_m_LOCAL_DATE l Z a0 hw [] w_STRING w_INTEGER w_LONG w_SHORT w_BYTE w_DOUBLE w_FLOAT w_BIG_DECIMAL w_BIG_INTEGER w_BOOLEAN w_LOCAL_DATE w_LOCAL_TIME w_LOCAL_DATE_TIME  h0 n0 O0 U_STRING U_INTEGER U_LONG U_SHORT U_BYTE U_DOUBLE U_FLOAT U_BIG_DECIMAL U_BIG_INTEGER U_BOOLEAN U_LOCAL_DATE U_LOCAL_TIME U_LOCAL_DATE_TIME ) hZ (hw _ (List.mem_of_getElem? (i := 12) rfl)) (hw _ (List.mem_of_getElem? (i := 6) rfl)) (by decide) (by decide)) q2a q2c (g := (mkF m 36 #[iv p0, iv 10, rv w_LOCAL_DATE, iv 0] [(.ref w_LOCAL_DATE)])) rfl (by rw [hml]; rfl) (Steps.refl _) (argsL := []) (rest := []) (lenOf own_pd1 rfl) rfl (by show 2 * 0 + _ ≤ _; exact Nat.le_of_eq rfl) (hb hby at_36) (fun _ _ => ⟨rfl, e1, (by decide : 0 + 0 ≤ _), (by decide : 0 + 0 ≤ _)⟩)
  dsimp only [Pt.U, Pt.locs, Pt.cells, Pt.slots] at X2 l2 y2 z2 st2 hQ2
  subst l2 y2 z2
  obtain ⟨rfl, N2q, e2⟩ := hQ2
  have N2 := Fr.app N1 N2q
  obtain ⟨fs, hr, hrun, hended, hW, hsame⟩ := X2.leave (v := some (.int 1)) (fun h => by rw [Bd.returns] at h; cases h)
  refine ⟨_, _, pre0 _ ?_, hrun, hended, _, _, rfl, ?_, ⟨_, rfl⟩, hW, hsame.mono (by decide) (by decide)⟩
  · show Steps p.tables e below (s₁.setTop (mkF m 0 #[iv p0, .unset, .unset, .unset] [])) _
    refine XS.iloadN X0.here hx rfl (hb hby at_0) rfl ?_
    show Steps p.tables e below (s₁.setTop (mkF m 1 #[iv p0, .unset, .unset, .unset] [(.int p0)])) _
    refine X0.ldcInt hx hown (mvT hZ (hw _ (List.mem_of_getElem? (i := 0) rfl))) (g := (mkF m 1 #[iv p0, .unset, .unset, .unset] [(.int p0)])) rfl (hb hby at_1) _ ?_
    show Steps p.tables e below (s₁.setTop (mkF m 3 #[iv p0, .unset, .unset, .unset] [(.int 2147483647), (.int p0)])) _
    refine XS.iand X0.here hx rfl (hb hby at_3) rfl ?_
    show Steps p.tables e below (s₁.setTop (mkF m 4 #[iv p0, .unset, .unset, .unset] [(.int (p0 &&& (2147483647 : Int32)))])) _
    refine XS.bipush X0.here hx rfl (hb hby at_4) ?_
    show Steps p.tables e below (s₁.setTop (mkF m 6 #[iv p0, .unset, .unset, .unset] [(.int 13), (.int (p0 &&& (2147483647 : Int32)))])) _
    refine iremM X0 hx rfl (hb hby at_6) rfl (by decide) ?_
    show Steps p.tables e below (s₁.setTop (mkF m 7 #[iv p0, .unset, .unset, .unset] [(.int ((p0 &&& (2147483647 : Int32)) % (13 : Int32)))])) _
    refine own_top (v' := (.int 10)) (congrArg Value.int hk) ?_
    show Steps p.tables e below (s₁.setTop (mkF m 7 #[iv p0, .unset, .unset, .unset] [(.int 10)])) _
    refine XS.istoreN X0.here hx rfl (hb hby at_7) rfl (l' := #[iv p0, iv 10, .unset, .unset]) rfl ?_
    show Steps p.tables e below (s₁.setTop (mkF m 8 #[iv p0, iv 10, .unset, .unset] [])) _
    refine XS.iloadN X0.here hx rfl (hb hby at_8) rfl ?_
    show Steps p.tables e below (s₁.setTop (mkF m 9 #[iv p0, iv 10, .unset, .unset] [(.int 10)])) _
    refine st1 _ ?_
    show Steps p.tables e below (T1.setTop (mkF m 12 #[iv p0, iv 10, .unset, .unset] [(.ref w_LOCAL_DATE)])) _
    refine XS.astoreN X1.here hx rfl (hb hby at_12) rfl rfl (l' := #[iv p0, iv 10, rv w_LOCAL_DATE, .unset]) rfl ?_
    show Steps p.tables e below (T1.setTop (mkF m 13 #[iv p0, iv 10, rv w_LOCAL_DATE, .unset] [])) _
    refine XS.iloadN X1.here hx rfl (hb hby at_13) rfl ?_
    show Steps p.tables e below (T1.setTop (mkF m 14 #[iv p0, iv 10, rv w_LOCAL_DATE, .unset] [(.int 10)])) _
    refine XS.iconst X1.here hx rfl (hb hby at_14) ?_
    show Steps p.tables e below (T1.setTop (mkF m 15 #[iv p0, iv 10, rv w_LOCAL_DATE, .unset] [(.int 1), (.int 10)])) _
    refine XS.icmpNo X1.here hx rfl (hb hby at_15) rfl (flt (by decide)).1 ?_
    show Steps p.tables e below (T1.setTop (mkF m 18 #[iv p0, iv 10, rv w_LOCAL_DATE, .unset] [])) _
    refine XS.iloadN X1.here hx rfl (hb hby at_18) rfl ?_
    show Steps p.tables e below (T1.setTop (mkF m 19 #[iv p0, iv 10, rv w_LOCAL_DATE, .unset] [(.int 10)])) _
    refine XS.iconst X1.here hx rfl (hb hby at_19) ?_
    show Steps p.tables e below (T1.setTop (mkF m 20 #[iv p0, iv 10, rv w_LOCAL_DATE, .unset] [(.int 4), (.int 10)])) _
    refine XS.icmpNo X1.here hx rfl (hb hby at_20) rfl (tlt (by decide)).2.2.2 ?_
    show Steps p.tables e below (T1.setTop (mkF m 23 #[iv p0, iv 10, rv w_LOCAL_DATE, .unset] [])) _
    refine XS.iloadN X1.here hx rfl (hb hby at_23) rfl ?_
    show Steps p.tables e below (T1.setTop (mkF m 24 #[iv p0, iv 10, rv w_LOCAL_DATE, .unset] [(.int 10)])) _
    refine XS.bipush X1.here hx rfl (hb hby at_24) ?_
    show Steps p.tables e below (T1.setTop (mkF m 26 #[iv p0, iv 10, rv w_LOCAL_DATE, .unset] [(.int 8), (.int 10)])) _
    refine XS.icmpYes X1.here hx rfl (pc0 := 26) (pc' := 33) rfl (hb hby at_26) rfl (feq (by decide)).2 (by decide) (by decide) ?_
    show Steps p.tables e below (T1.setTop (mkF m 33 #[iv p0, iv 10, rv w_LOCAL_DATE, .unset] [])) _
    refine XS.iconst X1.here hx rfl (hb hby at_33) ?_
    show Steps p.tables e below (T1.setTop (mkF m 34 #[iv p0, iv 10, rv w_LOCAL_DATE, .unset] [(.int 0)])) _
    refine XS.istoreN X1.here hx rfl (hb hby at_34) rfl (l' := #[iv p0, iv 10, rv w_LOCAL_DATE, iv 0]) rfl ?_
    show Steps p.tables e below (T1.setTop (mkF m 35 #[iv p0, iv 10, rv w_LOCAL_DATE, iv 0] [])) _
    refine XS.aloadN X1.here hx rfl (hb hby at_35) rfl rfl ?_
    show Steps p.tables e below (T1.setTop (mkF m 36 #[iv p0, iv 10, rv w_LOCAL_DATE, iv 0] [(.ref w_LOCAL_DATE)])) _
    refine st2.trans ?_
    show Steps p.tables e below (T2.setTop (mkF m 39 #[iv p0, iv 10, rv w_LOCAL_DATE, iv 0] [(.int 0)])) _
    refine XS.iloadN X2.here hx rfl (hb hby at_39) rfl ?_
    show Steps p.tables e below (T2.setTop (mkF m 40 #[iv p0, iv 10, rv w_LOCAL_DATE, iv 0] [(.int 0), (.int 0)])) _
    refine XS.icmpNo X2.here hx rfl (hb hby at_40) rfl (teq (by decide)).2 ?_
    show Steps p.tables e below (T2.setTop (mkF m 43 #[iv p0, iv 10, rv w_LOCAL_DATE, iv 0] [])) _
    refine XS.iconst X2.here hx rfl (hb hby at_43) ?_
    show Steps p.tables e below (T2.setTop (mkF m 44 #[iv p0, iv 10, rv w_LOCAL_DATE, iv 0] [(.int 1)])) _
    refine XS.goto X2.here hx rfl (pc0 := 44) (pc' := 48) rfl (hb hby at_44) (by decide) (by decide) ?_
    show Steps p.tables e below (T2.setTop (mkF m 48 #[iv p0, iv 10, rv w_LOCAL_DATE, iv 0] [(.int 1)])) _
    exact retN X2 hx (t := .boolean) Bd.returns (by simp) (hb hby at_48) hr
  · show own_law10_Q Z w_STRING w_INTEGER w_LONG w_SHORT w_BYTE w_DOUBLE w_FLOAT w_BIG_DECIMAL w_BIG_INTEGER w_BOOLEAN w_LOCAL_DATE w_LOCAL_TIME w_LOCAL_DATE_TIME p0 h0 n0 _ T2.heap _
    rw [e2]
    exact ⟨rfl, N2, trivial⟩
theorem own_law11_ef (m : MethodId) (p0 : Int32) : entryFrame m #[(.int p0)] maxLocals = mkF m 0 #[iv p0, .unset, .unset, .unset] [] := by first | (simp [entryFrame, mkF, argsToLocals, Value.category, maxLocals]; done) | rfl
def own_law11_Q (Z : State) (w_STRING : Addr) (w_INTEGER : Addr) (w_LONG : Addr) (w_SHORT : Addr) (w_BYTE : Addr) (w_DOUBLE : Addr) (w_FLOAT : Addr) (w_BIG_DECIMAL : Addr) (w_BIG_INTEGER : Addr) (w_BOOLEAN : Addr) (w_LOCAL_DATE : Addr) (w_LOCAL_TIME : Addr) (w_LOCAL_DATE_TIME : Addr) (p0 : Int32) (h0 : Heap) (n0 : Nat) (v : Option Value) (h : Heap) (L : List Loc) : Prop := v = some (.int 1) ∧ Fr n0 L ∧ True
set_option maxRecDepth 65536 in
set_option maxHeartbeats 40000000 in
theorem own_law11 (l : Launch) (Z : State) (a0 : Array Value) (hw : ∀ d ∈ tables_1, d.before a0 Z = true) (ws : List Jvm.Cond) (w_STRING : Addr) (w_INTEGER : Addr) (w_LONG : Addr) (w_SHORT : Addr) (w_BYTE : Addr) (w_DOUBLE : Addr) (w_FLOAT : Addr) (w_BIG_DECIMAL : Addr) (w_BIG_INTEGER : Addr) (w_BOOLEAN : Addr) (w_LOCAL_DATE : Addr) (w_LOCAL_TIME : Addr) (w_LOCAL_DATE_TIME : Addr) (p0 : Int32) (h0 : Heap) (n0 : Nat) (O0 : Old Z n0 h0) (U_STRING : own_En Z Z.heap "com/example/traversal/traversal/model/BasicType" "STRING" "Lcom/example/traversal/traversal/model/BasicType;" w_STRING (0 : Int32)) (U_INTEGER : own_En Z Z.heap "com/example/traversal/traversal/model/BasicType" "INTEGER" "Lcom/example/traversal/traversal/model/BasicType;" w_INTEGER (1 : Int32)) (U_LONG : own_En Z Z.heap "com/example/traversal/traversal/model/BasicType" "LONG" "Lcom/example/traversal/traversal/model/BasicType;" w_LONG (2 : Int32)) (U_SHORT : own_En Z Z.heap "com/example/traversal/traversal/model/BasicType" "SHORT" "Lcom/example/traversal/traversal/model/BasicType;" w_SHORT (3 : Int32)) (U_BYTE : own_En Z Z.heap "com/example/traversal/traversal/model/BasicType" "BYTE" "Lcom/example/traversal/traversal/model/BasicType;" w_BYTE (4 : Int32)) (U_DOUBLE : own_En Z Z.heap "com/example/traversal/traversal/model/BasicType" "DOUBLE" "Lcom/example/traversal/traversal/model/BasicType;" w_DOUBLE (5 : Int32)) (U_FLOAT : own_En Z Z.heap "com/example/traversal/traversal/model/BasicType" "FLOAT" "Lcom/example/traversal/traversal/model/BasicType;" w_FLOAT (6 : Int32)) (U_BIG_DECIMAL : own_En Z Z.heap "com/example/traversal/traversal/model/BasicType" "BIG_DECIMAL" "Lcom/example/traversal/traversal/model/BasicType;" w_BIG_DECIMAL (7 : Int32)) (U_BIG_INTEGER : own_En Z Z.heap "com/example/traversal/traversal/model/BasicType" "BIG_INTEGER" "Lcom/example/traversal/traversal/model/BasicType;" w_BIG_INTEGER (8 : Int32)) (U_BOOLEAN : own_En Z Z.heap "com/example/traversal/traversal/model/BasicType" "BOOLEAN" "Lcom/example/traversal/traversal/model/BasicType;" w_BOOLEAN (9 : Int32)) (U_LOCAL_DATE : own_En Z Z.heap "com/example/traversal/traversal/model/BasicType" "LOCAL_DATE" "Lcom/example/traversal/traversal/model/BasicType;" w_LOCAL_DATE (10 : Int32)) (U_LOCAL_TIME : own_En Z Z.heap "com/example/traversal/traversal/model/BasicType" "LOCAL_TIME" "Lcom/example/traversal/traversal/model/BasicType;" w_LOCAL_TIME (11 : Int32)) (U_LOCAL_DATE_TIME : own_En Z Z.heap "com/example/traversal/traversal/model/BasicType" "LOCAL_DATE_TIME" "Lcom/example/traversal/traversal/model/BasicType;" w_LOCAL_DATE_TIME (12 : Int32)) (hk : (p0 &&& (2147483647 : Int32)) % (13 : Int32) = (11 : Int32)) :
    MetFree l x (head1 (Jvm.Cond.code x code maxLocals ret :: ws) room_1) (fun a U => a = #[(.int p0)] ∧ Z.Warmed39 U.vm ∧ U.heap = h0) (fun _ _ _ _ _ => True) (fun _ U o U' => ∃ v L, o = .returned v ∧ own_law11_Q Z w_STRING w_INTEGER w_LONG w_SHORT w_BYTE w_DOUBLE w_FLOAT w_BIG_DECIMAL w_BIG_INTEGER w_BOOLEAN w_LOCAL_DATE w_LOCAL_TIME w_LOCAL_DATE_TIME p0 h0 n0 v U'.heap L ∧ FrameEnd U o U' L 0 0) := by
  refine MetFree.of_bodySF (plainFor_of_name own_pn1) hisR ?_
  intro p e s m args below meth c s₁ Bd hml0 hP hK
  obtain ⟨rfl, hZ, hh⟩ := hP
  have hx := Bd.exec
  have hby := Bd.bytes
  have hml : c.maxLocals = 4 := hml0
  have hown : s.vm.findClass "com/example/traversal/traversal/model/BasicTypeIsIntegralPinLaw" = some m.cls := findClass_of_methodNamed Bd.named
  have hnm := (name_of_methodNamed Bd.named Bd.method).1
  have X0 : Stand p l e room_1 s m #[(.int p0)] below meth c s₁ [] 0 0 := Stand.of_body Bd
  have e0 : s₁.heap = h0 := by rw [← hh, Bd.state]; rfl
  have N0 := Fr.nil n0
  have pre0 : ∀ t, Steps p.tables e below (s₁.setTop (mkF m 0 #[iv p0, .unset, .unset, .unset] [])) t → Steps p.tables e below (s₁.setTop (entryFrame m #[(.int p0)] maxLocals)) t := fun t k => castTop (own_law11_ef m p0) k
  obtain ⟨_, _, ⟨T1, L1, k1, n1⟩, -, X1, ⟨Lc1, hQ1, l1, y1, z1⟩, st1⟩ := Jvm.LawKit.callS X0 hx (y := (⟨"com/example/traversal/traversal/model/BasicTypeIsIntegralPinLaw", "pick", "(I)Lcom/example/traversal/traversal/model/BasicType;"⟩ : MethodName)) hown (mvT hZ (hw _ (List.mem_of_getElem? (i := 1) rfl))) (mvT hZ (hw _ (List.mem_of_getElem? (i := 2) rfl))) (mvT hZ (hw _ (List.mem_of_getElem? (i := 3) rfl))) (mvT hZ (hw _ (List.mem_of_getElem? (i := 4) rfl))) (by decide) (backOf (W := 0) (own_p_11 l Z a0 hw [] w_STRING w_INTEGER w_LONG w_SHORT w_BYTE w_DOUBLE w_FLOAT w_BIG_DECIMAL w_BIG_INTEGER w_BOOLEAN w_LOCAL_DATE w_LOCAL_TIME w_LOCAL_DATE_TIME  h0 n0 O0 U_STRING U_INTEGER U_LONG U_SHORT U_BYTE U_DOUBLE U_FLOAT U_BIG_DECIMAL U_BIG_INTEGER U_BOOLEAN U_LOCAL_DATE U_LOCAL_TIME U_LOCAL_DATE_TIME ) hZ (hw _ (List.mem_of_getElem? (i := 4) rfl)) (hw _ (List.mem_of_getElem? (i := 3) rfl)) (by decide) (by decide)) (g := (mkF m 9 #[iv p0, iv 11, .unset, .unset] [(.int 11)])) rfl (by rw [hml]; rfl) (argsL := [(.int 11)]) (rest := []) (lenOf own_pd0 rfl) rfl (by show 2 * 0 + _ ≤ _; exact Nat.le_of_eq rfl) (hb hby at_9) (fun _ _ => ⟨rfl, e0, (by decide : 0 + 0 ≤ _), (by decide : 0 + 0 ≤ _)⟩)
  dsimp only [Pt.U, Pt.locs, Pt.cells, Pt.slots] at X1 l1 y1 z1 st1 hQ1
  subst l1 y1 z1
  obtain ⟨rfl, N1q, e1⟩ := hQ1
  have N1 := Fr.app N0 N1q
  obtain ⟨cq2, kq2, q2a, q2b, q2c⟩ := isOf hZ e1 (U_LOCAL_TIME.2.1.ext O0.2)
  obtain ⟨_, _, ⟨T2, L2, k2, n2⟩, -, X2, ⟨Lc2, hQ2, l2, y2, z2⟩, st2⟩ := X1.virtualBack hx (y := (⟨"com/example/traversal/traversal/model/BasicType", "isIntegral", "()Z"⟩ : MethodName)) (z := (⟨"com/example/traversal/traversal/model/BasicType", "isIntegral", "()Z"⟩ : MethodName)) hown (mvT hZ (hw _ (List.mem_of_getElem? (i := 8) rfl))) (mvT hZ (hw _ (List.mem_of_getElem? (i := 9) rfl))) (notFace_of_selects (args := #[]) (mvT hZ (hw _ (List.mem_of_getElem? (i := 11) rfl)))) (mvT hZ (hw _ (List.mem_of_getElem? (i := 11) rfl))) (mvT hZ (hw _ (List.mem_of_getElem? (i := 10) rfl))) (by decide) (backOf (W := 0) (own_m_LOCAL_TIME l Z a0 hw [] w_STRING w_INTEGER w_LONG w_SHORT w_BYTE w_DOUBLE w_FLOAT w_BIG_DECIMAL w_BIG_INTEGER w_BOOLEAN w_LOCAL_DATE w_LOCAL_TIME w_LOCAL_DATE_TIME  h0 n0 O0 U_STRING U_INTEGER U_LONG U_SHORT U_BYTE U_DOUBLE U_FLOAT U_BIG_DECIMAL U_BIG_INTEGER U_BOOLEAN U_LOCAL_DATE U_LOCAL_TIME U_LOCAL_DATE_TIME ) hZ (hw _ (List.mem_of_getElem? (i := 12) rfl)) (hw _ (List.mem_of_getElem? (i := 6) rfl)) (by decide) (by decide)) q2a q2c (g := (mkF m 36 #[iv p0, iv 11, rv w_LOCAL_TIME, iv 0] [(.ref w_LOCAL_TIME)])) rfl (by rw [hml]; rfl) (Steps.refl _) (argsL := []) (rest := []) (lenOf own_pd1 rfl) rfl (by show 2 * 0 + _ ≤ _; exact Nat.le_of_eq rfl) (hb hby at_36) (fun _ _ => ⟨rfl, e1, (by decide : 0 + 0 ≤ _), (by decide : 0 + 0 ≤ _)⟩)
  dsimp only [Pt.U, Pt.locs, Pt.cells, Pt.slots] at X2 l2 y2 z2 st2 hQ2
  subst l2 y2 z2
  obtain ⟨rfl, N2q, e2⟩ := hQ2
  have N2 := Fr.app N1 N2q
  obtain ⟨fs, hr, hrun, hended, hW, hsame⟩ := X2.leave (v := some (.int 1)) (fun h => by rw [Bd.returns] at h; cases h)
  refine ⟨_, _, pre0 _ ?_, hrun, hended, _, _, rfl, ?_, ⟨_, rfl⟩, hW, hsame.mono (by decide) (by decide)⟩
  · show Steps p.tables e below (s₁.setTop (mkF m 0 #[iv p0, .unset, .unset, .unset] [])) _
    refine XS.iloadN X0.here hx rfl (hb hby at_0) rfl ?_
    show Steps p.tables e below (s₁.setTop (mkF m 1 #[iv p0, .unset, .unset, .unset] [(.int p0)])) _
    refine X0.ldcInt hx hown (mvT hZ (hw _ (List.mem_of_getElem? (i := 0) rfl))) (g := (mkF m 1 #[iv p0, .unset, .unset, .unset] [(.int p0)])) rfl (hb hby at_1) _ ?_
    show Steps p.tables e below (s₁.setTop (mkF m 3 #[iv p0, .unset, .unset, .unset] [(.int 2147483647), (.int p0)])) _
    refine XS.iand X0.here hx rfl (hb hby at_3) rfl ?_
    show Steps p.tables e below (s₁.setTop (mkF m 4 #[iv p0, .unset, .unset, .unset] [(.int (p0 &&& (2147483647 : Int32)))])) _
    refine XS.bipush X0.here hx rfl (hb hby at_4) ?_
    show Steps p.tables e below (s₁.setTop (mkF m 6 #[iv p0, .unset, .unset, .unset] [(.int 13), (.int (p0 &&& (2147483647 : Int32)))])) _
    refine iremM X0 hx rfl (hb hby at_6) rfl (by decide) ?_
    show Steps p.tables e below (s₁.setTop (mkF m 7 #[iv p0, .unset, .unset, .unset] [(.int ((p0 &&& (2147483647 : Int32)) % (13 : Int32)))])) _
    refine own_top (v' := (.int 11)) (congrArg Value.int hk) ?_
    show Steps p.tables e below (s₁.setTop (mkF m 7 #[iv p0, .unset, .unset, .unset] [(.int 11)])) _
    refine XS.istoreN X0.here hx rfl (hb hby at_7) rfl (l' := #[iv p0, iv 11, .unset, .unset]) rfl ?_
    show Steps p.tables e below (s₁.setTop (mkF m 8 #[iv p0, iv 11, .unset, .unset] [])) _
    refine XS.iloadN X0.here hx rfl (hb hby at_8) rfl ?_
    show Steps p.tables e below (s₁.setTop (mkF m 9 #[iv p0, iv 11, .unset, .unset] [(.int 11)])) _
    refine st1 _ ?_
    show Steps p.tables e below (T1.setTop (mkF m 12 #[iv p0, iv 11, .unset, .unset] [(.ref w_LOCAL_TIME)])) _
    refine XS.astoreN X1.here hx rfl (hb hby at_12) rfl rfl (l' := #[iv p0, iv 11, rv w_LOCAL_TIME, .unset]) rfl ?_
    show Steps p.tables e below (T1.setTop (mkF m 13 #[iv p0, iv 11, rv w_LOCAL_TIME, .unset] [])) _
    refine XS.iloadN X1.here hx rfl (hb hby at_13) rfl ?_
    show Steps p.tables e below (T1.setTop (mkF m 14 #[iv p0, iv 11, rv w_LOCAL_TIME, .unset] [(.int 11)])) _
    refine XS.iconst X1.here hx rfl (hb hby at_14) ?_
    show Steps p.tables e below (T1.setTop (mkF m 15 #[iv p0, iv 11, rv w_LOCAL_TIME, .unset] [(.int 1), (.int 11)])) _
    refine XS.icmpNo X1.here hx rfl (hb hby at_15) rfl (flt (by decide)).1 ?_
    show Steps p.tables e below (T1.setTop (mkF m 18 #[iv p0, iv 11, rv w_LOCAL_TIME, .unset] [])) _
    refine XS.iloadN X1.here hx rfl (hb hby at_18) rfl ?_
    show Steps p.tables e below (T1.setTop (mkF m 19 #[iv p0, iv 11, rv w_LOCAL_TIME, .unset] [(.int 11)])) _
    refine XS.iconst X1.here hx rfl (hb hby at_19) ?_
    show Steps p.tables e below (T1.setTop (mkF m 20 #[iv p0, iv 11, rv w_LOCAL_TIME, .unset] [(.int 4), (.int 11)])) _
    refine XS.icmpNo X1.here hx rfl (hb hby at_20) rfl (tlt (by decide)).2.2.2 ?_
    show Steps p.tables e below (T1.setTop (mkF m 23 #[iv p0, iv 11, rv w_LOCAL_TIME, .unset] [])) _
    refine XS.iloadN X1.here hx rfl (hb hby at_23) rfl ?_
    show Steps p.tables e below (T1.setTop (mkF m 24 #[iv p0, iv 11, rv w_LOCAL_TIME, .unset] [(.int 11)])) _
    refine XS.bipush X1.here hx rfl (hb hby at_24) ?_
    show Steps p.tables e below (T1.setTop (mkF m 26 #[iv p0, iv 11, rv w_LOCAL_TIME, .unset] [(.int 8), (.int 11)])) _
    refine XS.icmpYes X1.here hx rfl (pc0 := 26) (pc' := 33) rfl (hb hby at_26) rfl (feq (by decide)).2 (by decide) (by decide) ?_
    show Steps p.tables e below (T1.setTop (mkF m 33 #[iv p0, iv 11, rv w_LOCAL_TIME, .unset] [])) _
    refine XS.iconst X1.here hx rfl (hb hby at_33) ?_
    show Steps p.tables e below (T1.setTop (mkF m 34 #[iv p0, iv 11, rv w_LOCAL_TIME, .unset] [(.int 0)])) _
    refine XS.istoreN X1.here hx rfl (hb hby at_34) rfl (l' := #[iv p0, iv 11, rv w_LOCAL_TIME, iv 0]) rfl ?_
    show Steps p.tables e below (T1.setTop (mkF m 35 #[iv p0, iv 11, rv w_LOCAL_TIME, iv 0] [])) _
    refine XS.aloadN X1.here hx rfl (hb hby at_35) rfl rfl ?_
    show Steps p.tables e below (T1.setTop (mkF m 36 #[iv p0, iv 11, rv w_LOCAL_TIME, iv 0] [(.ref w_LOCAL_TIME)])) _
    refine st2.trans ?_
    show Steps p.tables e below (T2.setTop (mkF m 39 #[iv p0, iv 11, rv w_LOCAL_TIME, iv 0] [(.int 0)])) _
    refine XS.iloadN X2.here hx rfl (hb hby at_39) rfl ?_
    show Steps p.tables e below (T2.setTop (mkF m 40 #[iv p0, iv 11, rv w_LOCAL_TIME, iv 0] [(.int 0), (.int 0)])) _
    refine XS.icmpNo X2.here hx rfl (hb hby at_40) rfl (teq (by decide)).2 ?_
    show Steps p.tables e below (T2.setTop (mkF m 43 #[iv p0, iv 11, rv w_LOCAL_TIME, iv 0] [])) _
    refine XS.iconst X2.here hx rfl (hb hby at_43) ?_
    show Steps p.tables e below (T2.setTop (mkF m 44 #[iv p0, iv 11, rv w_LOCAL_TIME, iv 0] [(.int 1)])) _
    refine XS.goto X2.here hx rfl (pc0 := 44) (pc' := 48) rfl (hb hby at_44) (by decide) (by decide) ?_
    show Steps p.tables e below (T2.setTop (mkF m 48 #[iv p0, iv 11, rv w_LOCAL_TIME, iv 0] [(.int 1)])) _
    exact retN X2 hx (t := .boolean) Bd.returns (by simp) (hb hby at_48) hr
  · show own_law11_Q Z w_STRING w_INTEGER w_LONG w_SHORT w_BYTE w_DOUBLE w_FLOAT w_BIG_DECIMAL w_BIG_INTEGER w_BOOLEAN w_LOCAL_DATE w_LOCAL_TIME w_LOCAL_DATE_TIME p0 h0 n0 _ T2.heap _
    rw [e2]
    exact ⟨rfl, N2, trivial⟩
theorem own_law12_ef (m : MethodId) (p0 : Int32) : entryFrame m #[(.int p0)] maxLocals = mkF m 0 #[iv p0, .unset, .unset, .unset] [] := by first | (simp [entryFrame, mkF, argsToLocals, Value.category, maxLocals]; done) | rfl
def own_law12_Q (Z : State) (w_STRING : Addr) (w_INTEGER : Addr) (w_LONG : Addr) (w_SHORT : Addr) (w_BYTE : Addr) (w_DOUBLE : Addr) (w_FLOAT : Addr) (w_BIG_DECIMAL : Addr) (w_BIG_INTEGER : Addr) (w_BOOLEAN : Addr) (w_LOCAL_DATE : Addr) (w_LOCAL_TIME : Addr) (w_LOCAL_DATE_TIME : Addr) (p0 : Int32) (h0 : Heap) (n0 : Nat) (v : Option Value) (h : Heap) (L : List Loc) : Prop := v = some (.int 1) ∧ Fr n0 L ∧ True
set_option maxRecDepth 65536 in
set_option maxHeartbeats 40000000 in
theorem own_law12 (l : Launch) (Z : State) (a0 : Array Value) (hw : ∀ d ∈ tables_1, d.before a0 Z = true) (ws : List Jvm.Cond) (w_STRING : Addr) (w_INTEGER : Addr) (w_LONG : Addr) (w_SHORT : Addr) (w_BYTE : Addr) (w_DOUBLE : Addr) (w_FLOAT : Addr) (w_BIG_DECIMAL : Addr) (w_BIG_INTEGER : Addr) (w_BOOLEAN : Addr) (w_LOCAL_DATE : Addr) (w_LOCAL_TIME : Addr) (w_LOCAL_DATE_TIME : Addr) (p0 : Int32) (h0 : Heap) (n0 : Nat) (O0 : Old Z n0 h0) (U_STRING : own_En Z Z.heap "com/example/traversal/traversal/model/BasicType" "STRING" "Lcom/example/traversal/traversal/model/BasicType;" w_STRING (0 : Int32)) (U_INTEGER : own_En Z Z.heap "com/example/traversal/traversal/model/BasicType" "INTEGER" "Lcom/example/traversal/traversal/model/BasicType;" w_INTEGER (1 : Int32)) (U_LONG : own_En Z Z.heap "com/example/traversal/traversal/model/BasicType" "LONG" "Lcom/example/traversal/traversal/model/BasicType;" w_LONG (2 : Int32)) (U_SHORT : own_En Z Z.heap "com/example/traversal/traversal/model/BasicType" "SHORT" "Lcom/example/traversal/traversal/model/BasicType;" w_SHORT (3 : Int32)) (U_BYTE : own_En Z Z.heap "com/example/traversal/traversal/model/BasicType" "BYTE" "Lcom/example/traversal/traversal/model/BasicType;" w_BYTE (4 : Int32)) (U_DOUBLE : own_En Z Z.heap "com/example/traversal/traversal/model/BasicType" "DOUBLE" "Lcom/example/traversal/traversal/model/BasicType;" w_DOUBLE (5 : Int32)) (U_FLOAT : own_En Z Z.heap "com/example/traversal/traversal/model/BasicType" "FLOAT" "Lcom/example/traversal/traversal/model/BasicType;" w_FLOAT (6 : Int32)) (U_BIG_DECIMAL : own_En Z Z.heap "com/example/traversal/traversal/model/BasicType" "BIG_DECIMAL" "Lcom/example/traversal/traversal/model/BasicType;" w_BIG_DECIMAL (7 : Int32)) (U_BIG_INTEGER : own_En Z Z.heap "com/example/traversal/traversal/model/BasicType" "BIG_INTEGER" "Lcom/example/traversal/traversal/model/BasicType;" w_BIG_INTEGER (8 : Int32)) (U_BOOLEAN : own_En Z Z.heap "com/example/traversal/traversal/model/BasicType" "BOOLEAN" "Lcom/example/traversal/traversal/model/BasicType;" w_BOOLEAN (9 : Int32)) (U_LOCAL_DATE : own_En Z Z.heap "com/example/traversal/traversal/model/BasicType" "LOCAL_DATE" "Lcom/example/traversal/traversal/model/BasicType;" w_LOCAL_DATE (10 : Int32)) (U_LOCAL_TIME : own_En Z Z.heap "com/example/traversal/traversal/model/BasicType" "LOCAL_TIME" "Lcom/example/traversal/traversal/model/BasicType;" w_LOCAL_TIME (11 : Int32)) (U_LOCAL_DATE_TIME : own_En Z Z.heap "com/example/traversal/traversal/model/BasicType" "LOCAL_DATE_TIME" "Lcom/example/traversal/traversal/model/BasicType;" w_LOCAL_DATE_TIME (12 : Int32)) (hk : (p0 &&& (2147483647 : Int32)) % (13 : Int32) = (12 : Int32)) :
    MetFree l x (head1 (Jvm.Cond.code x code maxLocals ret :: ws) room_1) (fun a U => a = #[(.int p0)] ∧ Z.Warmed39 U.vm ∧ U.heap = h0) (fun _ _ _ _ _ => True) (fun _ U o U' => ∃ v L, o = .returned v ∧ own_law12_Q Z w_STRING w_INTEGER w_LONG w_SHORT w_BYTE w_DOUBLE w_FLOAT w_BIG_DECIMAL w_BIG_INTEGER w_BOOLEAN w_LOCAL_DATE w_LOCAL_TIME w_LOCAL_DATE_TIME p0 h0 n0 v U'.heap L ∧ FrameEnd U o U' L 0 0) := by
  refine MetFree.of_bodySF (plainFor_of_name own_pn1) hisR ?_
  intro p e s m args below meth c s₁ Bd hml0 hP hK
  obtain ⟨rfl, hZ, hh⟩ := hP
  have hx := Bd.exec
  have hby := Bd.bytes
  have hml : c.maxLocals = 4 := hml0
  have hown : s.vm.findClass "com/example/traversal/traversal/model/BasicTypeIsIntegralPinLaw" = some m.cls := findClass_of_methodNamed Bd.named
  have hnm := (name_of_methodNamed Bd.named Bd.method).1
  have X0 : Stand p l e room_1 s m #[(.int p0)] below meth c s₁ [] 0 0 := Stand.of_body Bd
  have e0 : s₁.heap = h0 := by rw [← hh, Bd.state]; rfl
  have N0 := Fr.nil n0
  have pre0 : ∀ t, Steps p.tables e below (s₁.setTop (mkF m 0 #[iv p0, .unset, .unset, .unset] [])) t → Steps p.tables e below (s₁.setTop (entryFrame m #[(.int p0)] maxLocals)) t := fun t k => castTop (own_law12_ef m p0) k
  obtain ⟨_, _, ⟨T1, L1, k1, n1⟩, -, X1, ⟨Lc1, hQ1, l1, y1, z1⟩, st1⟩ := Jvm.LawKit.callS X0 hx (y := (⟨"com/example/traversal/traversal/model/BasicTypeIsIntegralPinLaw", "pick", "(I)Lcom/example/traversal/traversal/model/BasicType;"⟩ : MethodName)) hown (mvT hZ (hw _ (List.mem_of_getElem? (i := 1) rfl))) (mvT hZ (hw _ (List.mem_of_getElem? (i := 2) rfl))) (mvT hZ (hw _ (List.mem_of_getElem? (i := 3) rfl))) (mvT hZ (hw _ (List.mem_of_getElem? (i := 4) rfl))) (by decide) (backOf (W := 0) (own_p_12 l Z a0 hw [] w_STRING w_INTEGER w_LONG w_SHORT w_BYTE w_DOUBLE w_FLOAT w_BIG_DECIMAL w_BIG_INTEGER w_BOOLEAN w_LOCAL_DATE w_LOCAL_TIME w_LOCAL_DATE_TIME  h0 n0 O0 U_STRING U_INTEGER U_LONG U_SHORT U_BYTE U_DOUBLE U_FLOAT U_BIG_DECIMAL U_BIG_INTEGER U_BOOLEAN U_LOCAL_DATE U_LOCAL_TIME U_LOCAL_DATE_TIME ) hZ (hw _ (List.mem_of_getElem? (i := 4) rfl)) (hw _ (List.mem_of_getElem? (i := 3) rfl)) (by decide) (by decide)) (g := (mkF m 9 #[iv p0, iv 12, .unset, .unset] [(.int 12)])) rfl (by rw [hml]; rfl) (argsL := [(.int 12)]) (rest := []) (lenOf own_pd0 rfl) rfl (by show 2 * 0 + _ ≤ _; exact Nat.le_of_eq rfl) (hb hby at_9) (fun _ _ => ⟨rfl, e0, (by decide : 0 + 0 ≤ _), (by decide : 0 + 0 ≤ _)⟩)
  dsimp only [Pt.U, Pt.locs, Pt.cells, Pt.slots] at X1 l1 y1 z1 st1 hQ1
  subst l1 y1 z1
  obtain ⟨rfl, N1q, e1⟩ := hQ1
  have N1 := Fr.app N0 N1q
  obtain ⟨cq2, kq2, q2a, q2b, q2c⟩ := isOf hZ e1 (U_LOCAL_DATE_TIME.2.1.ext O0.2)
  obtain ⟨_, _, ⟨T2, L2, k2, n2⟩, -, X2, ⟨Lc2, hQ2, l2, y2, z2⟩, st2⟩ := X1.virtualBack hx (y := (⟨"com/example/traversal/traversal/model/BasicType", "isIntegral", "()Z"⟩ : MethodName)) (z := (⟨"com/example/traversal/traversal/model/BasicType", "isIntegral", "()Z"⟩ : MethodName)) hown (mvT hZ (hw _ (List.mem_of_getElem? (i := 8) rfl))) (mvT hZ (hw _ (List.mem_of_getElem? (i := 9) rfl))) (notFace_of_selects (args := #[]) (mvT hZ (hw _ (List.mem_of_getElem? (i := 11) rfl)))) (mvT hZ (hw _ (List.mem_of_getElem? (i := 11) rfl))) (mvT hZ (hw _ (List.mem_of_getElem? (i := 10) rfl))) (by decide) (backOf (W := 0) (own_m_LOCAL_DATE_TIME l Z a0 hw [] w_STRING w_INTEGER w_LONG w_SHORT w_BYTE w_DOUBLE w_FLOAT w_BIG_DECIMAL w_BIG_INTEGER w_BOOLEAN w_LOCAL_DATE w_LOCAL_TIME w_LOCAL_DATE_TIME  h0 n0 O0 U_STRING U_INTEGER U_LONG U_SHORT U_BYTE U_DOUBLE U_FLOAT U_BIG_DECIMAL U_BIG_INTEGER U_BOOLEAN U_LOCAL_DATE U_LOCAL_TIME U_LOCAL_DATE_TIME ) hZ (hw _ (List.mem_of_getElem? (i := 12) rfl)) (hw _ (List.mem_of_getElem? (i := 6) rfl)) (by decide) (by decide)) q2a q2c (g := (mkF m 36 #[iv p0, iv 12, rv w_LOCAL_DATE_TIME, iv 0] [(.ref w_LOCAL_DATE_TIME)])) rfl (by rw [hml]; rfl) (Steps.refl _) (argsL := []) (rest := []) (lenOf own_pd1 rfl) rfl (by show 2 * 0 + _ ≤ _; exact Nat.le_of_eq rfl) (hb hby at_36) (fun _ _ => ⟨rfl, e1, (by decide : 0 + 0 ≤ _), (by decide : 0 + 0 ≤ _)⟩)
  dsimp only [Pt.U, Pt.locs, Pt.cells, Pt.slots] at X2 l2 y2 z2 st2 hQ2
  subst l2 y2 z2
  obtain ⟨rfl, N2q, e2⟩ := hQ2
  have N2 := Fr.app N1 N2q
  obtain ⟨fs, hr, hrun, hended, hW, hsame⟩ := X2.leave (v := some (.int 1)) (fun h => by rw [Bd.returns] at h; cases h)
  refine ⟨_, _, pre0 _ ?_, hrun, hended, _, _, rfl, ?_, ⟨_, rfl⟩, hW, hsame.mono (by decide) (by decide)⟩
  · show Steps p.tables e below (s₁.setTop (mkF m 0 #[iv p0, .unset, .unset, .unset] [])) _
    refine XS.iloadN X0.here hx rfl (hb hby at_0) rfl ?_
    show Steps p.tables e below (s₁.setTop (mkF m 1 #[iv p0, .unset, .unset, .unset] [(.int p0)])) _
    refine X0.ldcInt hx hown (mvT hZ (hw _ (List.mem_of_getElem? (i := 0) rfl))) (g := (mkF m 1 #[iv p0, .unset, .unset, .unset] [(.int p0)])) rfl (hb hby at_1) _ ?_
    show Steps p.tables e below (s₁.setTop (mkF m 3 #[iv p0, .unset, .unset, .unset] [(.int 2147483647), (.int p0)])) _
    refine XS.iand X0.here hx rfl (hb hby at_3) rfl ?_
    show Steps p.tables e below (s₁.setTop (mkF m 4 #[iv p0, .unset, .unset, .unset] [(.int (p0 &&& (2147483647 : Int32)))])) _
    refine XS.bipush X0.here hx rfl (hb hby at_4) ?_
    show Steps p.tables e below (s₁.setTop (mkF m 6 #[iv p0, .unset, .unset, .unset] [(.int 13), (.int (p0 &&& (2147483647 : Int32)))])) _
    refine iremM X0 hx rfl (hb hby at_6) rfl (by decide) ?_
    show Steps p.tables e below (s₁.setTop (mkF m 7 #[iv p0, .unset, .unset, .unset] [(.int ((p0 &&& (2147483647 : Int32)) % (13 : Int32)))])) _
    refine own_top (v' := (.int 12)) (congrArg Value.int hk) ?_
    show Steps p.tables e below (s₁.setTop (mkF m 7 #[iv p0, .unset, .unset, .unset] [(.int 12)])) _
    refine XS.istoreN X0.here hx rfl (hb hby at_7) rfl (l' := #[iv p0, iv 12, .unset, .unset]) rfl ?_
    show Steps p.tables e below (s₁.setTop (mkF m 8 #[iv p0, iv 12, .unset, .unset] [])) _
    refine XS.iloadN X0.here hx rfl (hb hby at_8) rfl ?_
    show Steps p.tables e below (s₁.setTop (mkF m 9 #[iv p0, iv 12, .unset, .unset] [(.int 12)])) _
    refine st1 _ ?_
    show Steps p.tables e below (T1.setTop (mkF m 12 #[iv p0, iv 12, .unset, .unset] [(.ref w_LOCAL_DATE_TIME)])) _
    refine XS.astoreN X1.here hx rfl (hb hby at_12) rfl rfl (l' := #[iv p0, iv 12, rv w_LOCAL_DATE_TIME, .unset]) rfl ?_
    show Steps p.tables e below (T1.setTop (mkF m 13 #[iv p0, iv 12, rv w_LOCAL_DATE_TIME, .unset] [])) _
    refine XS.iloadN X1.here hx rfl (hb hby at_13) rfl ?_
    show Steps p.tables e below (T1.setTop (mkF m 14 #[iv p0, iv 12, rv w_LOCAL_DATE_TIME, .unset] [(.int 12)])) _
    refine XS.iconst X1.here hx rfl (hb hby at_14) ?_
    show Steps p.tables e below (T1.setTop (mkF m 15 #[iv p0, iv 12, rv w_LOCAL_DATE_TIME, .unset] [(.int 1), (.int 12)])) _
    refine XS.icmpNo X1.here hx rfl (hb hby at_15) rfl (flt (by decide)).1 ?_
    show Steps p.tables e below (T1.setTop (mkF m 18 #[iv p0, iv 12, rv w_LOCAL_DATE_TIME, .unset] [])) _
    refine XS.iloadN X1.here hx rfl (hb hby at_18) rfl ?_
    show Steps p.tables e below (T1.setTop (mkF m 19 #[iv p0, iv 12, rv w_LOCAL_DATE_TIME, .unset] [(.int 12)])) _
    refine XS.iconst X1.here hx rfl (hb hby at_19) ?_
    show Steps p.tables e below (T1.setTop (mkF m 20 #[iv p0, iv 12, rv w_LOCAL_DATE_TIME, .unset] [(.int 4), (.int 12)])) _
    refine XS.icmpNo X1.here hx rfl (hb hby at_20) rfl (tlt (by decide)).2.2.2 ?_
    show Steps p.tables e below (T1.setTop (mkF m 23 #[iv p0, iv 12, rv w_LOCAL_DATE_TIME, .unset] [])) _
    refine XS.iloadN X1.here hx rfl (hb hby at_23) rfl ?_
    show Steps p.tables e below (T1.setTop (mkF m 24 #[iv p0, iv 12, rv w_LOCAL_DATE_TIME, .unset] [(.int 12)])) _
    refine XS.bipush X1.here hx rfl (hb hby at_24) ?_
    show Steps p.tables e below (T1.setTop (mkF m 26 #[iv p0, iv 12, rv w_LOCAL_DATE_TIME, .unset] [(.int 8), (.int 12)])) _
    refine XS.icmpYes X1.here hx rfl (pc0 := 26) (pc' := 33) rfl (hb hby at_26) rfl (feq (by decide)).2 (by decide) (by decide) ?_
    show Steps p.tables e below (T1.setTop (mkF m 33 #[iv p0, iv 12, rv w_LOCAL_DATE_TIME, .unset] [])) _
    refine XS.iconst X1.here hx rfl (hb hby at_33) ?_
    show Steps p.tables e below (T1.setTop (mkF m 34 #[iv p0, iv 12, rv w_LOCAL_DATE_TIME, .unset] [(.int 0)])) _
    refine XS.istoreN X1.here hx rfl (hb hby at_34) rfl (l' := #[iv p0, iv 12, rv w_LOCAL_DATE_TIME, iv 0]) rfl ?_
    show Steps p.tables e below (T1.setTop (mkF m 35 #[iv p0, iv 12, rv w_LOCAL_DATE_TIME, iv 0] [])) _
    refine XS.aloadN X1.here hx rfl (hb hby at_35) rfl rfl ?_
    show Steps p.tables e below (T1.setTop (mkF m 36 #[iv p0, iv 12, rv w_LOCAL_DATE_TIME, iv 0] [(.ref w_LOCAL_DATE_TIME)])) _
    refine st2.trans ?_
    show Steps p.tables e below (T2.setTop (mkF m 39 #[iv p0, iv 12, rv w_LOCAL_DATE_TIME, iv 0] [(.int 0)])) _
    refine XS.iloadN X2.here hx rfl (hb hby at_39) rfl ?_
    show Steps p.tables e below (T2.setTop (mkF m 40 #[iv p0, iv 12, rv w_LOCAL_DATE_TIME, iv 0] [(.int 0), (.int 0)])) _
    refine XS.icmpNo X2.here hx rfl (hb hby at_40) rfl (teq (by decide)).2 ?_
    show Steps p.tables e below (T2.setTop (mkF m 43 #[iv p0, iv 12, rv w_LOCAL_DATE_TIME, iv 0] [])) _
    refine XS.iconst X2.here hx rfl (hb hby at_43) ?_
    show Steps p.tables e below (T2.setTop (mkF m 44 #[iv p0, iv 12, rv w_LOCAL_DATE_TIME, iv 0] [(.int 1)])) _
    refine XS.goto X2.here hx rfl (pc0 := 44) (pc' := 48) rfl (hb hby at_44) (by decide) (by decide) ?_
    show Steps p.tables e below (T2.setTop (mkF m 48 #[iv p0, iv 12, rv w_LOCAL_DATE_TIME, iv 0] [(.int 1)])) _
    exact retN X2 hx (t := .boolean) Bd.returns (by simp) (hb hby at_48) hr
  · show own_law12_Q Z w_STRING w_INTEGER w_LONG w_SHORT w_BYTE w_DOUBLE w_FLOAT w_BIG_DECIMAL w_BIG_INTEGER w_BOOLEAN w_LOCAL_DATE w_LOCAL_TIME w_LOCAL_DATE_TIME p0 h0 n0 _ T2.heap _
    rw [e2]
    exact ⟨rfl, N2, trivial⟩
def own_law_Q (h0 : Heap) (n0 : Nat) (v : Option Value) (h : Heap) (L : List Loc) : Prop := v = some (.int 1) ∧ Fr n0 L
theorem own_law (l : Launch) (Z : State) (a0 : Array Value) (hw : ∀ d ∈ tables_1, d.before a0 Z = true) (ws : List Jvm.Cond) (w_STRING : Addr) (w_INTEGER : Addr) (w_LONG : Addr) (w_SHORT : Addr) (w_BYTE : Addr) (w_DOUBLE : Addr) (w_FLOAT : Addr) (w_BIG_DECIMAL : Addr) (w_BIG_INTEGER : Addr) (w_BOOLEAN : Addr) (w_LOCAL_DATE : Addr) (w_LOCAL_TIME : Addr) (w_LOCAL_DATE_TIME : Addr) (p0 : Int32) (h0 : Heap) (n0 : Nat) (O0 : Old Z n0 h0) (U_STRING : own_En Z Z.heap "com/example/traversal/traversal/model/BasicType" "STRING" "Lcom/example/traversal/traversal/model/BasicType;" w_STRING (0 : Int32)) (U_INTEGER : own_En Z Z.heap "com/example/traversal/traversal/model/BasicType" "INTEGER" "Lcom/example/traversal/traversal/model/BasicType;" w_INTEGER (1 : Int32)) (U_LONG : own_En Z Z.heap "com/example/traversal/traversal/model/BasicType" "LONG" "Lcom/example/traversal/traversal/model/BasicType;" w_LONG (2 : Int32)) (U_SHORT : own_En Z Z.heap "com/example/traversal/traversal/model/BasicType" "SHORT" "Lcom/example/traversal/traversal/model/BasicType;" w_SHORT (3 : Int32)) (U_BYTE : own_En Z Z.heap "com/example/traversal/traversal/model/BasicType" "BYTE" "Lcom/example/traversal/traversal/model/BasicType;" w_BYTE (4 : Int32)) (U_DOUBLE : own_En Z Z.heap "com/example/traversal/traversal/model/BasicType" "DOUBLE" "Lcom/example/traversal/traversal/model/BasicType;" w_DOUBLE (5 : Int32)) (U_FLOAT : own_En Z Z.heap "com/example/traversal/traversal/model/BasicType" "FLOAT" "Lcom/example/traversal/traversal/model/BasicType;" w_FLOAT (6 : Int32)) (U_BIG_DECIMAL : own_En Z Z.heap "com/example/traversal/traversal/model/BasicType" "BIG_DECIMAL" "Lcom/example/traversal/traversal/model/BasicType;" w_BIG_DECIMAL (7 : Int32)) (U_BIG_INTEGER : own_En Z Z.heap "com/example/traversal/traversal/model/BasicType" "BIG_INTEGER" "Lcom/example/traversal/traversal/model/BasicType;" w_BIG_INTEGER (8 : Int32)) (U_BOOLEAN : own_En Z Z.heap "com/example/traversal/traversal/model/BasicType" "BOOLEAN" "Lcom/example/traversal/traversal/model/BasicType;" w_BOOLEAN (9 : Int32)) (U_LOCAL_DATE : own_En Z Z.heap "com/example/traversal/traversal/model/BasicType" "LOCAL_DATE" "Lcom/example/traversal/traversal/model/BasicType;" w_LOCAL_DATE (10 : Int32)) (U_LOCAL_TIME : own_En Z Z.heap "com/example/traversal/traversal/model/BasicType" "LOCAL_TIME" "Lcom/example/traversal/traversal/model/BasicType;" w_LOCAL_TIME (11 : Int32)) (U_LOCAL_DATE_TIME : own_En Z Z.heap "com/example/traversal/traversal/model/BasicType" "LOCAL_DATE_TIME" "Lcom/example/traversal/traversal/model/BasicType;" w_LOCAL_DATE_TIME (12 : Int32)) :
    MetFree l x (head1 (Jvm.Cond.code x code maxLocals ret :: ws) room_1) (fun a U => a = #[(.int p0)] ∧ Z.Warmed39 U.vm ∧ U.heap = h0) (fun _ _ _ _ _ => True) (fun _ U o U' => ∃ v L, o = .returned v ∧ own_law_Q h0 n0 v U'.heap L ∧ FrameEnd U o U' L 0 0) := by
  have weak : ∀ {P Q : Option Value → Heap → List Loc → Prop}, (∀ v h L, P v h L → Q v h L) → MetFree l x (head1 (Jvm.Cond.code x code maxLocals ret :: ws) room_1) (fun a U => a = #[(.int p0)] ∧ Z.Warmed39 U.vm ∧ U.heap = h0) (fun _ _ _ _ _ => True) (fun _ U o U' => ∃ v L, o = .returned v ∧ P v U'.heap L ∧ FrameEnd U o U' L 0 0) → MetFree l x (head1 (Jvm.Cond.code x code maxLocals ret :: ws) room_1) (fun a U => a = #[(.int p0)] ∧ Z.Warmed39 U.vm ∧ U.heap = h0) (fun _ _ _ _ _ => True) (fun _ U o U' => ∃ v L, o = .returned v ∧ Q v U'.heap L ∧ FrameEnd U o U' L 0 0) := by
    intro P Q hPQ hM p e ha hc hk s m args below hf happ hP hK
    obtain ⟨n, o, h1, h2, h3, v, L, h4, h5, h6⟩ := hM p e ha hc hk s m args below hf happ hP hK
    exact ⟨n, o, h1, h2, h3, v, L, h4, hPQ _ _ _ h5, h6⟩
  rcases own_rem13 p0 with hk | hk | hk | hk | hk | hk | hk | hk | hk | hk | hk | hk | hk
  · exact weak (fun _ _ _ q => ⟨q.1, q.2.1⟩) (own_law0 l Z a0 hw ws w_STRING w_INTEGER w_LONG w_SHORT w_BYTE w_DOUBLE w_FLOAT w_BIG_DECIMAL w_BIG_INTEGER w_BOOLEAN w_LOCAL_DATE w_LOCAL_TIME w_LOCAL_DATE_TIME p0 h0 n0 O0 U_STRING U_INTEGER U_LONG U_SHORT U_BYTE U_DOUBLE U_FLOAT U_BIG_DECIMAL U_BIG_INTEGER U_BOOLEAN U_LOCAL_DATE U_LOCAL_TIME U_LOCAL_DATE_TIME hk)
  · exact weak (fun _ _ _ q => ⟨q.1, q.2.1⟩) (own_law1 l Z a0 hw ws w_STRING w_INTEGER w_LONG w_SHORT w_BYTE w_DOUBLE w_FLOAT w_BIG_DECIMAL w_BIG_INTEGER w_BOOLEAN w_LOCAL_DATE w_LOCAL_TIME w_LOCAL_DATE_TIME p0 h0 n0 O0 U_STRING U_INTEGER U_LONG U_SHORT U_BYTE U_DOUBLE U_FLOAT U_BIG_DECIMAL U_BIG_INTEGER U_BOOLEAN U_LOCAL_DATE U_LOCAL_TIME U_LOCAL_DATE_TIME hk)
  · exact weak (fun _ _ _ q => ⟨q.1, q.2.1⟩) (own_law2 l Z a0 hw ws w_STRING w_INTEGER w_LONG w_SHORT w_BYTE w_DOUBLE w_FLOAT w_BIG_DECIMAL w_BIG_INTEGER w_BOOLEAN w_LOCAL_DATE w_LOCAL_TIME w_LOCAL_DATE_TIME p0 h0 n0 O0 U_STRING U_INTEGER U_LONG U_SHORT U_BYTE U_DOUBLE U_FLOAT U_BIG_DECIMAL U_BIG_INTEGER U_BOOLEAN U_LOCAL_DATE U_LOCAL_TIME U_LOCAL_DATE_TIME hk)
  · exact weak (fun _ _ _ q => ⟨q.1, q.2.1⟩) (own_law3 l Z a0 hw ws w_STRING w_INTEGER w_LONG w_SHORT w_BYTE w_DOUBLE w_FLOAT w_BIG_DECIMAL w_BIG_INTEGER w_BOOLEAN w_LOCAL_DATE w_LOCAL_TIME w_LOCAL_DATE_TIME p0 h0 n0 O0 U_STRING U_INTEGER U_LONG U_SHORT U_BYTE U_DOUBLE U_FLOAT U_BIG_DECIMAL U_BIG_INTEGER U_BOOLEAN U_LOCAL_DATE U_LOCAL_TIME U_LOCAL_DATE_TIME hk)
  · exact weak (fun _ _ _ q => ⟨q.1, q.2.1⟩) (own_law4 l Z a0 hw ws w_STRING w_INTEGER w_LONG w_SHORT w_BYTE w_DOUBLE w_FLOAT w_BIG_DECIMAL w_BIG_INTEGER w_BOOLEAN w_LOCAL_DATE w_LOCAL_TIME w_LOCAL_DATE_TIME p0 h0 n0 O0 U_STRING U_INTEGER U_LONG U_SHORT U_BYTE U_DOUBLE U_FLOAT U_BIG_DECIMAL U_BIG_INTEGER U_BOOLEAN U_LOCAL_DATE U_LOCAL_TIME U_LOCAL_DATE_TIME hk)
  · exact weak (fun _ _ _ q => ⟨q.1, q.2.1⟩) (own_law5 l Z a0 hw ws w_STRING w_INTEGER w_LONG w_SHORT w_BYTE w_DOUBLE w_FLOAT w_BIG_DECIMAL w_BIG_INTEGER w_BOOLEAN w_LOCAL_DATE w_LOCAL_TIME w_LOCAL_DATE_TIME p0 h0 n0 O0 U_STRING U_INTEGER U_LONG U_SHORT U_BYTE U_DOUBLE U_FLOAT U_BIG_DECIMAL U_BIG_INTEGER U_BOOLEAN U_LOCAL_DATE U_LOCAL_TIME U_LOCAL_DATE_TIME hk)
  · exact weak (fun _ _ _ q => ⟨q.1, q.2.1⟩) (own_law6 l Z a0 hw ws w_STRING w_INTEGER w_LONG w_SHORT w_BYTE w_DOUBLE w_FLOAT w_BIG_DECIMAL w_BIG_INTEGER w_BOOLEAN w_LOCAL_DATE w_LOCAL_TIME w_LOCAL_DATE_TIME p0 h0 n0 O0 U_STRING U_INTEGER U_LONG U_SHORT U_BYTE U_DOUBLE U_FLOAT U_BIG_DECIMAL U_BIG_INTEGER U_BOOLEAN U_LOCAL_DATE U_LOCAL_TIME U_LOCAL_DATE_TIME hk)
  · exact weak (fun _ _ _ q => ⟨q.1, q.2.1⟩) (own_law7 l Z a0 hw ws w_STRING w_INTEGER w_LONG w_SHORT w_BYTE w_DOUBLE w_FLOAT w_BIG_DECIMAL w_BIG_INTEGER w_BOOLEAN w_LOCAL_DATE w_LOCAL_TIME w_LOCAL_DATE_TIME p0 h0 n0 O0 U_STRING U_INTEGER U_LONG U_SHORT U_BYTE U_DOUBLE U_FLOAT U_BIG_DECIMAL U_BIG_INTEGER U_BOOLEAN U_LOCAL_DATE U_LOCAL_TIME U_LOCAL_DATE_TIME hk)
  · exact weak (fun _ _ _ q => ⟨q.1, q.2.1⟩) (own_law8 l Z a0 hw ws w_STRING w_INTEGER w_LONG w_SHORT w_BYTE w_DOUBLE w_FLOAT w_BIG_DECIMAL w_BIG_INTEGER w_BOOLEAN w_LOCAL_DATE w_LOCAL_TIME w_LOCAL_DATE_TIME p0 h0 n0 O0 U_STRING U_INTEGER U_LONG U_SHORT U_BYTE U_DOUBLE U_FLOAT U_BIG_DECIMAL U_BIG_INTEGER U_BOOLEAN U_LOCAL_DATE U_LOCAL_TIME U_LOCAL_DATE_TIME hk)
  · exact weak (fun _ _ _ q => ⟨q.1, q.2.1⟩) (own_law9 l Z a0 hw ws w_STRING w_INTEGER w_LONG w_SHORT w_BYTE w_DOUBLE w_FLOAT w_BIG_DECIMAL w_BIG_INTEGER w_BOOLEAN w_LOCAL_DATE w_LOCAL_TIME w_LOCAL_DATE_TIME p0 h0 n0 O0 U_STRING U_INTEGER U_LONG U_SHORT U_BYTE U_DOUBLE U_FLOAT U_BIG_DECIMAL U_BIG_INTEGER U_BOOLEAN U_LOCAL_DATE U_LOCAL_TIME U_LOCAL_DATE_TIME hk)
  · exact weak (fun _ _ _ q => ⟨q.1, q.2.1⟩) (own_law10 l Z a0 hw ws w_STRING w_INTEGER w_LONG w_SHORT w_BYTE w_DOUBLE w_FLOAT w_BIG_DECIMAL w_BIG_INTEGER w_BOOLEAN w_LOCAL_DATE w_LOCAL_TIME w_LOCAL_DATE_TIME p0 h0 n0 O0 U_STRING U_INTEGER U_LONG U_SHORT U_BYTE U_DOUBLE U_FLOAT U_BIG_DECIMAL U_BIG_INTEGER U_BOOLEAN U_LOCAL_DATE U_LOCAL_TIME U_LOCAL_DATE_TIME hk)
  · exact weak (fun _ _ _ q => ⟨q.1, q.2.1⟩) (own_law11 l Z a0 hw ws w_STRING w_INTEGER w_LONG w_SHORT w_BYTE w_DOUBLE w_FLOAT w_BIG_DECIMAL w_BIG_INTEGER w_BOOLEAN w_LOCAL_DATE w_LOCAL_TIME w_LOCAL_DATE_TIME p0 h0 n0 O0 U_STRING U_INTEGER U_LONG U_SHORT U_BYTE U_DOUBLE U_FLOAT U_BIG_DECIMAL U_BIG_INTEGER U_BOOLEAN U_LOCAL_DATE U_LOCAL_TIME U_LOCAL_DATE_TIME hk)
  · exact weak (fun _ _ _ q => ⟨q.1, q.2.1⟩) (own_law12 l Z a0 hw ws w_STRING w_INTEGER w_LONG w_SHORT w_BYTE w_DOUBLE w_FLOAT w_BIG_DECIMAL w_BIG_INTEGER w_BOOLEAN w_LOCAL_DATE w_LOCAL_TIME w_LOCAL_DATE_TIME p0 h0 n0 O0 U_STRING U_INTEGER U_LONG U_SHORT U_BYTE U_DOUBLE U_FLOAT U_BIG_DECIMAL U_BIG_INTEGER U_BOOLEAN U_LOCAL_DATE U_LOCAL_TIME U_LOCAL_DATE_TIME hk)
set_option maxRecDepth 65536 in
set_option maxHeartbeats 40000000 in
theorem comes_1 {Post : Tables → Env → Array Value → State → Outcome → State → Prop} (hpost : ∀ tb e args s v u, (limb_1_1.after args s (.returned v) u = true ∧ limb_1_2.after args s (.returned v) u = true ∧ True) → FrameEnd s (.returned v) u (Jvm.fieldLocs frame_1_writes args s ++ Jvm.arrayLocs frame_1_arrays args s ++ Jvm.staticLocs frame_1_statics s) 0 0 → Post tb e args s (.returned v) u) :
    ArmFor flags0 classFile x code maxLocals ret World_1 tables_1 room_1 Calls_1 rest_1 Pre_1 Post := by
  intro l hfl _ _ p e ha hc hk s m args below hf hA hF happ hP
  obtain ⟨hcalls, hrest, hpre⟩ := hP
  obtain ⟨-, -, -, hnamed, -, -, -, hat⟩ := (Spec.applies_iff hf).mp happ
  obtain ⟨hg, hn⟩ := and_e (Cond.before_iff.mp (show (Jvm.Cond.and given_1 narrow_1).before args s = true from hpre))
  obtain ⟨hq1, hq2⟩ := and_e hg
  obtain ⟨w0, rfl⟩ : ∃ w0 : Value, args = #[w0] := by
    have hs : args.size = 1 := by simpa [Cond.value, given_1] using hq1
    obtain ⟨L⟩ := args
    match L, hs with
    | [w0], _ => exact ⟨w0, rfl⟩
  have hw := fun d (hd : d ∈ tables_1) => atoms_spec (ws := Jvm.Cond.code x code maxLocals ret :: tables_1) hat d (List.mem_cons_of_mem _ hd)
  have hfit : Fit s := fun {y c} hc i hi => by
    obtain ⟨ha, rfl⟩ := Array.getElem?_eq_some_iff.mp hc
    have q := List.all_eq_true.mp ((Array.all_eq_true_iff_forall_mem.mp hF) _ (Array.getElem_mem ha)) i (List.mem_range.mpr hi)
    simpa [Array.getElem?_eq_getElem hi] using q
  obtain ⟨i0, ei0⟩ := is_v hq2
  obtain rfl : w0 = (.int i0) := Option.some.inj ei0
  obtain ⟨hq3, hq4⟩ := and_e hn
  obtain ⟨hq5, hq6⟩ := and_e hq4
  obtain ⟨hq7, hq8⟩ := and_e hq6
  obtain ⟨hq9, hq10⟩ := and_e hq8
  obtain ⟨hq11, hq12⟩ := and_e hq10
  obtain ⟨hq13, hq14⟩ := and_e hq12
  obtain ⟨hq15, hq16⟩ := and_e hq14
  obtain ⟨hq17, hq18⟩ := and_e hq16
  obtain ⟨hq19, hq20⟩ := and_e hq18
  obtain ⟨hq21, hq22⟩ := and_e hq20
  obtain ⟨hq23, hq24⟩ := and_e hq22
  obtain ⟨hq25, hq26⟩ := and_e hq24
  obtain ⟨hq27, hq28⟩ := and_e hq26
  obtain ⟨hq29, hq30⟩ := and_e hq28
  obtain ⟨hq31, hq32⟩ := and_e hq30
  obtain ⟨hq33, hq34⟩ := and_e hq32
  obtain ⟨hq35, hq36⟩ := and_e hq34
  obtain ⟨hq37, hq38⟩ := and_e hq36
  obtain ⟨hq39, hq40⟩ := and_e hq38
  obtain ⟨hq41, hq42⟩ := and_e hq40
  obtain ⟨hq43, hq44⟩ := and_e hq42
  obtain ⟨hq45, hq46⟩ := and_e hq44
  obtain ⟨hq47, hq48⟩ := and_e hq46
  obtain ⟨hq49, hq50⟩ := and_e hq48
  obtain ⟨hq51, hq52⟩ := and_e hq50
  obtain ⟨w_STRING, ev_STRING⟩ := exa_v hq3
  have S_STRING : Sta s s.heap "com/example/traversal/traversal/model/BasicType" "STRING" "Lcom/example/traversal/traversal/model/BasicType;" (.ref w_STRING) := Sta.start ev_STRING (Or.inr ⟨(hw _ (List.mem_of_getElem? (i := 6) rfl)), (hw _ (List.mem_of_getElem? (i := 7) rfl))⟩)
  have E_STRING : Exa s s.heap w_STRING "com/example/traversal/traversal/model/BasicType" := Exa.start ev_STRING hq3
  have R_STRING : Fld s s.heap w_STRING "java/lang/Enum" "ordinal" "I" (.int (0 : Int32)) := Fld.start ((fld_at ev_STRING).symm.trans (own_eqI hq7))
  have U_STRING := And.intro S_STRING (And.intro E_STRING R_STRING)
  obtain ⟨w_INTEGER, ev_INTEGER⟩ := exa_v hq5
  have S_INTEGER : Sta s s.heap "com/example/traversal/traversal/model/BasicType" "INTEGER" "Lcom/example/traversal/traversal/model/BasicType;" (.ref w_INTEGER) := Sta.start ev_INTEGER (Or.inr ⟨(hw _ (List.mem_of_getElem? (i := 6) rfl)), (hw _ (List.mem_of_getElem? (i := 14) rfl))⟩)
  have E_INTEGER : Exa s s.heap w_INTEGER "com/example/traversal/traversal/model/BasicType" := Exa.start ev_INTEGER hq5
  have R_INTEGER : Fld s s.heap w_INTEGER "java/lang/Enum" "ordinal" "I" (.int (1 : Int32)) := Fld.start ((fld_at ev_INTEGER).symm.trans (own_eqI hq9))
  have U_INTEGER := And.intro S_INTEGER (And.intro E_INTEGER R_INTEGER)
  obtain ⟨w_LONG, ev_LONG⟩ := exa_v hq11
  have S_LONG : Sta s s.heap "com/example/traversal/traversal/model/BasicType" "LONG" "Lcom/example/traversal/traversal/model/BasicType;" (.ref w_LONG) := Sta.start ev_LONG (Or.inr ⟨(hw _ (List.mem_of_getElem? (i := 6) rfl)), (hw _ (List.mem_of_getElem? (i := 16) rfl))⟩)
  have E_LONG : Exa s s.heap w_LONG "com/example/traversal/traversal/model/BasicType" := Exa.start ev_LONG hq11
  have R_LONG : Fld s s.heap w_LONG "java/lang/Enum" "ordinal" "I" (.int (2 : Int32)) := Fld.start ((fld_at ev_LONG).symm.trans (own_eqI hq13))
  have U_LONG := And.intro S_LONG (And.intro E_LONG R_LONG)
  obtain ⟨w_SHORT, ev_SHORT⟩ := exa_v hq15
  have S_SHORT : Sta s s.heap "com/example/traversal/traversal/model/BasicType" "SHORT" "Lcom/example/traversal/traversal/model/BasicType;" (.ref w_SHORT) := Sta.start ev_SHORT (Or.inr ⟨(hw _ (List.mem_of_getElem? (i := 6) rfl)), (hw _ (List.mem_of_getElem? (i := 18) rfl))⟩)
  have E_SHORT : Exa s s.heap w_SHORT "com/example/traversal/traversal/model/BasicType" := Exa.start ev_SHORT hq15
  have R_SHORT : Fld s s.heap w_SHORT "java/lang/Enum" "ordinal" "I" (.int (3 : Int32)) := Fld.start ((fld_at ev_SHORT).symm.trans (own_eqI hq17))
  have U_SHORT := And.intro S_SHORT (And.intro E_SHORT R_SHORT)
  obtain ⟨w_BYTE, ev_BYTE⟩ := exa_v hq19
  have S_BYTE : Sta s s.heap "com/example/traversal/traversal/model/BasicType" "BYTE" "Lcom/example/traversal/traversal/model/BasicType;" (.ref w_BYTE) := Sta.start ev_BYTE (Or.inr ⟨(hw _ (List.mem_of_getElem? (i := 6) rfl)), (hw _ (List.mem_of_getElem? (i := 20) rfl))⟩)
  have E_BYTE : Exa s s.heap w_BYTE "com/example/traversal/traversal/model/BasicType" := Exa.start ev_BYTE hq19
  have R_BYTE : Fld s s.heap w_BYTE "java/lang/Enum" "ordinal" "I" (.int (4 : Int32)) := Fld.start ((fld_at ev_BYTE).symm.trans (own_eqI hq21))
  have U_BYTE := And.intro S_BYTE (And.intro E_BYTE R_BYTE)
  obtain ⟨w_DOUBLE, ev_DOUBLE⟩ := exa_v hq31
  have S_DOUBLE : Sta s s.heap "com/example/traversal/traversal/model/BasicType" "DOUBLE" "Lcom/example/traversal/traversal/model/BasicType;" (.ref w_DOUBLE) := Sta.start ev_DOUBLE (Or.inr ⟨(hw _ (List.mem_of_getElem? (i := 6) rfl)), (hw _ (List.mem_of_getElem? (i := 27) rfl))⟩)
  have E_DOUBLE : Exa s s.heap w_DOUBLE "com/example/traversal/traversal/model/BasicType" := Exa.start ev_DOUBLE hq31
  have R_DOUBLE : Fld s s.heap w_DOUBLE "java/lang/Enum" "ordinal" "I" (.int (5 : Int32)) := Fld.start ((fld_at ev_DOUBLE).symm.trans (own_eqI hq33))
  have U_DOUBLE := And.intro S_DOUBLE (And.intro E_DOUBLE R_DOUBLE)
  obtain ⟨w_FLOAT, ev_FLOAT⟩ := exa_v hq27
  have S_FLOAT : Sta s s.heap "com/example/traversal/traversal/model/BasicType" "FLOAT" "Lcom/example/traversal/traversal/model/BasicType;" (.ref w_FLOAT) := Sta.start ev_FLOAT (Or.inr ⟨(hw _ (List.mem_of_getElem? (i := 6) rfl)), (hw _ (List.mem_of_getElem? (i := 25) rfl))⟩)
  have E_FLOAT : Exa s s.heap w_FLOAT "com/example/traversal/traversal/model/BasicType" := Exa.start ev_FLOAT hq27
  have R_FLOAT : Fld s s.heap w_FLOAT "java/lang/Enum" "ordinal" "I" (.int (6 : Int32)) := Fld.start ((fld_at ev_FLOAT).symm.trans (own_eqI hq29))
  have U_FLOAT := And.intro S_FLOAT (And.intro E_FLOAT R_FLOAT)
  obtain ⟨w_BIG_DECIMAL, ev_BIG_DECIMAL⟩ := exa_v hq35
  have S_BIG_DECIMAL : Sta s s.heap "com/example/traversal/traversal/model/BasicType" "BIG_DECIMAL" "Lcom/example/traversal/traversal/model/BasicType;" (.ref w_BIG_DECIMAL) := Sta.start ev_BIG_DECIMAL (Or.inr ⟨(hw _ (List.mem_of_getElem? (i := 6) rfl)), (hw _ (List.mem_of_getElem? (i := 29) rfl))⟩)
  have E_BIG_DECIMAL : Exa s s.heap w_BIG_DECIMAL "com/example/traversal/traversal/model/BasicType" := Exa.start ev_BIG_DECIMAL hq35
  have R_BIG_DECIMAL : Fld s s.heap w_BIG_DECIMAL "java/lang/Enum" "ordinal" "I" (.int (7 : Int32)) := Fld.start ((fld_at ev_BIG_DECIMAL).symm.trans (own_eqI hq37))
  have U_BIG_DECIMAL := And.intro S_BIG_DECIMAL (And.intro E_BIG_DECIMAL R_BIG_DECIMAL)
  obtain ⟨w_BIG_INTEGER, ev_BIG_INTEGER⟩ := exa_v hq23
  have S_BIG_INTEGER : Sta s s.heap "com/example/traversal/traversal/model/BasicType" "BIG_INTEGER" "Lcom/example/traversal/traversal/model/BasicType;" (.ref w_BIG_INTEGER) := Sta.start ev_BIG_INTEGER (Or.inr ⟨(hw _ (List.mem_of_getElem? (i := 6) rfl)), (hw _ (List.mem_of_getElem? (i := 22) rfl))⟩)
  have E_BIG_INTEGER : Exa s s.heap w_BIG_INTEGER "com/example/traversal/traversal/model/BasicType" := Exa.start ev_BIG_INTEGER hq23
  have R_BIG_INTEGER : Fld s s.heap w_BIG_INTEGER "java/lang/Enum" "ordinal" "I" (.int (8 : Int32)) := Fld.start ((fld_at ev_BIG_INTEGER).symm.trans (own_eqI hq25))
  have U_BIG_INTEGER := And.intro S_BIG_INTEGER (And.intro E_BIG_INTEGER R_BIG_INTEGER)
  obtain ⟨w_BOOLEAN, ev_BOOLEAN⟩ := exa_v hq39
  have S_BOOLEAN : Sta s s.heap "com/example/traversal/traversal/model/BasicType" "BOOLEAN" "Lcom/example/traversal/traversal/model/BasicType;" (.ref w_BOOLEAN) := Sta.start ev_BOOLEAN (Or.inr ⟨(hw _ (List.mem_of_getElem? (i := 6) rfl)), (hw _ (List.mem_of_getElem? (i := 31) rfl))⟩)
  have E_BOOLEAN : Exa s s.heap w_BOOLEAN "com/example/traversal/traversal/model/BasicType" := Exa.start ev_BOOLEAN hq39
  have R_BOOLEAN : Fld s s.heap w_BOOLEAN "java/lang/Enum" "ordinal" "I" (.int (9 : Int32)) := Fld.start ((fld_at ev_BOOLEAN).symm.trans (own_eqI hq41))
  have U_BOOLEAN := And.intro S_BOOLEAN (And.intro E_BOOLEAN R_BOOLEAN)
  obtain ⟨w_LOCAL_DATE, ev_LOCAL_DATE⟩ := exa_v hq47
  have S_LOCAL_DATE : Sta s s.heap "com/example/traversal/traversal/model/BasicType" "LOCAL_DATE" "Lcom/example/traversal/traversal/model/BasicType;" (.ref w_LOCAL_DATE) := Sta.start ev_LOCAL_DATE (Or.inr ⟨(hw _ (List.mem_of_getElem? (i := 6) rfl)), (hw _ (List.mem_of_getElem? (i := 38) rfl))⟩)
  have E_LOCAL_DATE : Exa s s.heap w_LOCAL_DATE "com/example/traversal/traversal/model/BasicType" := Exa.start ev_LOCAL_DATE hq47
  have R_LOCAL_DATE : Fld s s.heap w_LOCAL_DATE "java/lang/Enum" "ordinal" "I" (.int (10 : Int32)) := Fld.start ((fld_at ev_LOCAL_DATE).symm.trans (own_eqI hq49))
  have U_LOCAL_DATE := And.intro S_LOCAL_DATE (And.intro E_LOCAL_DATE R_LOCAL_DATE)
  obtain ⟨w_LOCAL_TIME, ev_LOCAL_TIME⟩ := exa_v hq43
  have S_LOCAL_TIME : Sta s s.heap "com/example/traversal/traversal/model/BasicType" "LOCAL_TIME" "Lcom/example/traversal/traversal/model/BasicType;" (.ref w_LOCAL_TIME) := Sta.start ev_LOCAL_TIME (Or.inr ⟨(hw _ (List.mem_of_getElem? (i := 6) rfl)), (hw _ (List.mem_of_getElem? (i := 34) rfl))⟩)
  have E_LOCAL_TIME : Exa s s.heap w_LOCAL_TIME "com/example/traversal/traversal/model/BasicType" := Exa.start ev_LOCAL_TIME hq43
  have R_LOCAL_TIME : Fld s s.heap w_LOCAL_TIME "java/lang/Enum" "ordinal" "I" (.int (11 : Int32)) := Fld.start ((fld_at ev_LOCAL_TIME).symm.trans (own_eqI hq45))
  have U_LOCAL_TIME := And.intro S_LOCAL_TIME (And.intro E_LOCAL_TIME R_LOCAL_TIME)
  obtain ⟨w_LOCAL_DATE_TIME, ev_LOCAL_DATE_TIME⟩ := exa_v hq51
  have S_LOCAL_DATE_TIME : Sta s s.heap "com/example/traversal/traversal/model/BasicType" "LOCAL_DATE_TIME" "Lcom/example/traversal/traversal/model/BasicType;" (.ref w_LOCAL_DATE_TIME) := Sta.start ev_LOCAL_DATE_TIME (Or.inr ⟨(hw _ (List.mem_of_getElem? (i := 6) rfl)), (hw _ (List.mem_of_getElem? (i := 40) rfl))⟩)
  have E_LOCAL_DATE_TIME : Exa s s.heap w_LOCAL_DATE_TIME "com/example/traversal/traversal/model/BasicType" := Exa.start ev_LOCAL_DATE_TIME hq51
  have R_LOCAL_DATE_TIME : Fld s s.heap w_LOCAL_DATE_TIME "java/lang/Enum" "ordinal" "I" (.int (12 : Int32)) := Fld.start ((fld_at ev_LOCAL_DATE_TIME).symm.trans (own_eqI hq52))
  have U_LOCAL_DATE_TIME := And.intro S_LOCAL_DATE_TIME (And.intro E_LOCAL_DATE_TIME R_LOCAL_DATE_TIME)
  obtain ⟨n, o, h1, h2, h3, _, L, rfl, ⟨rfl, N⟩, hq⟩ := own_law l s _ hw tables_1 w_STRING w_INTEGER w_LONG w_SHORT w_BYTE w_DOUBLE w_FLOAT w_BIG_DECIMAL w_BIG_INTEGER w_BOOLEAN w_LOCAL_DATE w_LOCAL_TIME w_LOCAL_DATE_TIME i0 s.heap s.heap.size (Old.start s) U_STRING U_INTEGER U_LONG U_SHORT U_BYTE U_DOUBLE U_FLOAT U_BIG_DECIMAL U_BIG_INTEGER U_BOOLEAN U_LOCAL_DATE U_LOCAL_TIME U_LOCAL_DATE_TIME p e ha hc hk s m _ below hf ((Spec.applies_iff_loose hf).mp happ).1 ⟨rfl, State.Warmed39.refl s, rfl⟩ trivial
  refine ⟨n, _, h1, h2, h3, hpost _ _ _ _ _ _ ⟨Cond.after_iff.mpr rfl, Cond.after_iff.mpr (eq_i res_at (Term.int_eval (1)) rfl), trivial⟩ ⟨hq.1, hq.2.1, (hq.2.2.sift fun y hy => Or.inr (N y hy)).mono (by decide) (by decide)⟩⟩
theorem main_1_1 : Claimed_1_1 := comes_1 fun _ _ _ _ _ _ h hF => ⟨h.1, hF⟩
theorem main_1_2 : Claimed_1_2 := comes_1 fun _ _ _ _ _ _ h hF => ⟨h.2.1, hF⟩
end Jvm.Pilot.@@N@@
namespace Jvm.Pilot.@@N@@
open Jvm Jvm.ClassFile Sem Op Lib Jvm.Free Jvm.Stand Jvm.Pilot.@@N@@.Jvm.D
/-! MADE BY PROGRAM (witnessworld.py) out of the Statement's table words and the real class files: 12 classes; the members and pool entries that the words name. The judged class is class 1, her method 2. -/
namespace start1
open Jvm.ClassFile
def u (s : String) : CpInfo := .utf8 (stringToUtf16 s)
/-- a pool by its gaps: so many unusable entries, then the entry; so many at the end -/
def gap : Nat → List CpInfo → List CpInfo
  | 0, r => r
  | n + 1, r => .unusable :: gap n r
def poolList (es : List (Nat × CpInfo)) (last : Nat) : List CpInfo := es.foldr (fun e r => gap e.1 (e.2 :: r)) (gap last [])
def pool (es : List (Nat × CpInfo)) (last : Nat) : Array CpInfo := ⟨poolList es last⟩
def fileOf (pool : Array CpInfo) (this : Nat) (attrs : Array Attribute := #[]) (ms : Array MethodInfo := #[]) (fl : Nat := 33) (sup : Nat := 0) (ifs : Array Nat := #[]) (fds : Array FieldInfo := #[]) : ClassFile where
  minorVersion := 0
  majorVersion := 65
  constantPool := pool
  accessFlags := fl
  thisClass := this
  superClass := sup
  interfaces := ifs
  fields := fds
  methods := ms
  attributes := attrs
def plain (name : String) (sup : Option ClassId) : Class where
  name := name
  kind := .ordinary
  loader := none
  accessFlags := 33
  super := sup
  interfaces := #[]
  cf := none
  fields := #[]
  methods := #[]
  instanceTypes := #[]
  staticTypes := #[]
  resolved := #[]
  callSites := []
  init := .initialized
  statics := none
  mirror := none

def pool0 : Array CpInfo := pool [(5, u "<init>"), (0, u "()V"), (1, .class_ 10), (1, u "java/lang/Object")] 113

def k0m0 : Method := { name := "<init>", desc := "()V", sig := { parameters := [], returnType := none }, accessFlags := 1, code := none }
/-- java/lang/Object -/
def k0 : Class := { plain "java/lang/Object" none with
  accessFlags := 33
  interfaces := #[]
  cf := some (fileOf pool0 8 #[] #[{ accessFlags := 1, nameIndex := 5, descriptorIndex := 6, attributes := #[] }] 33 0 #[] #[])
  fields := #[]
  methods := #[k0m0]
  instanceTypes := #[]
  staticTypes := #[]
  resolved := Array.replicate 124 none
  statics := none }

def pool1 : Array CpInfo := pool [(2, .class_ 4), (1, u "java/lang/Object"), (0, u "<init>"), (0, u "()V"), (0, .fieldref 8 9), (0, .class_ 10), (0, .nameAndType 11 12), (0, u "com/example/traversal/traversal/model/BasicType"), (0, u "STRING"), (0, u "Lcom/example/traversal/traversal/model/BasicType;"), (0, .fieldref 8 14), (0, .nameAndType 15 12), (0, u "INTEGER"), (0, .fieldref 8 17), (0, .nameAndType 18 12), (0, u "LONG"), (0, .fieldref 8 20), (0, .nameAndType 21 12), (0, u "SHORT"), (0, .fieldref 8 23), (0, .nameAndType 24 12), (0, u "BYTE"), (0, .fieldref 8 26), (0, .nameAndType 27 12), (0, u "DOUBLE"), (0, .fieldref 8 29), (0, .nameAndType 30 12), (0, u "FLOAT"), (0, .fieldref 8 32), (0, .nameAndType 33 12), (0, u "BIG_DECIMAL"), (0, .fieldref 8 35), (0, .nameAndType 36 12), (0, u "BIG_INTEGER"), (0, .fieldref 8 38), (0, .nameAndType 39 12), (0, u "BOOLEAN"), (0, .fieldref 8 41), (0, .nameAndType 42 12), (0, u "LOCAL_DATE"), (0, .fieldref 8 44), (0, .nameAndType 45 12), (0, u "LOCAL_TIME"), (0, .fieldref 8 47), (0, .nameAndType 48 12), (0, u "LOCAL_DATE_TIME"), (0, .integer 2147483647), (0, .methodref 51 52), (0, .class_ 53), (0, .nameAndType 54 55), (0, u "com/example/traversal/traversal/model/BasicTypeIsIntegralPinLaw"), (0, u "pick"), (0, u "(I)Lcom/example/traversal/traversal/model/BasicType;"), (0, .methodref 8 57), (0, .nameAndType 58 59), (0, u "isIntegral"), (0, u "()Z"), (3, u "law"), (0, u "(I)Z")] 2

def k1m0 : Method := { name := "<init>", desc := "()V", sig := { parameters := [], returnType := none }, accessFlags := 1, code := none }
def k1c1 : Code := { maxStack := 2, maxLocals := 1, code := method_2_code, exceptionTable := #[], attributes := #[] }
def k1m1 : Method := { name := "pick", desc := "(I)Lcom/example/traversal/traversal/model/BasicType;", sig := { parameters := [.int], returnType := some (.object "com/example/traversal/traversal/model/BasicType") }, accessFlags := 10, code := some k1c1 }
def k1c2 : Code := { maxStack := 2, maxLocals := 4, code := code, exceptionTable := #[], attributes := #[] }
def k1m2 : Method := { name := "law", desc := "(I)Z", sig := { parameters := [.int], returnType := some .boolean }, accessFlags := 9, code := some k1c2 }
/-- com/example/traversal/traversal/model/BasicTypeIsIntegralPinLaw -/
def k1 : Class := { plain "com/example/traversal/traversal/model/BasicTypeIsIntegralPinLaw" (some 0) with
  accessFlags := 49
  interfaces := #[]
  cf := some (fileOf pool1 51 #[] #[{ accessFlags := 1, nameIndex := 5, descriptorIndex := 6, attributes := #[] }, { accessFlags := 10, nameIndex := 54, descriptorIndex := 55, attributes := #[] }, { accessFlags := 9, nameIndex := 63, descriptorIndex := 64, attributes := #[] }] 49 2 #[] #[])
  fields := #[]
  methods := #[k1m0, k1m1, k1m2]
  instanceTypes := #[]
  staticTypes := #[]
  resolved := Array.replicate 67 none
  statics := none }

def pool2 : Array CpInfo := pool [(1, .class_ 2), (0, u "java/lang/constant/Constable"), (0, .class_ 4), (0, u "java/lang/Object")] 6

/-- java/lang/constant/Constable -/
def k2 : Class := { plain "java/lang/constant/Constable" (some 0) with
  accessFlags := 1537
  interfaces := #[]
  cf := some (fileOf pool2 1 #[] #[] 1537 3 #[] #[])
  fields := #[]
  methods := #[]
  instanceTypes := #[]
  staticTypes := #[]
  resolved := Array.replicate 11 none
  statics := none }

def pool3 : Array CpInfo := pool [(1, .class_ 2), (0, u "java/lang/Comparable"), (0, .class_ 4), (0, u "java/lang/Object")] 7

/-- java/lang/Comparable -/
def k3 : Class := { plain "java/lang/Comparable" (some 0) with
  accessFlags := 1537
  interfaces := #[]
  cf := some (fileOf pool3 1 #[] #[] 1537 3 #[] #[])
  fields := #[]
  methods := #[]
  instanceTypes := #[]
  staticTypes := #[]
  resolved := Array.replicate 12 none
  statics := none }

def pool4 : Array CpInfo := pool [(1, .class_ 2), (0, u "java/io/Serializable"), (0, .class_ 4), (0, u "java/lang/Object")] 2

/-- java/io/Serializable -/
def k4 : Class := { plain "java/io/Serializable" (some 0) with
  accessFlags := 1537
  interfaces := #[]
  cf := some (fileOf pool4 1 #[] #[] 1537 3 #[] #[])
  fields := #[]
  methods := #[]
  instanceTypes := #[]
  staticTypes := #[]
  resolved := Array.replicate 7 none
  statics := none }

def pool5 : Array CpInfo := pool [(2, .class_ 4), (1, u "java/lang/Enum"), (0, u "name"), (0, u "Ljava/lang/String;"), (2, u "ordinal"), (0, u "I"), (1, .class_ 14), (1, u "java/lang/Object"), (4, u "hash"), (86, .class_ 108), (1, u "java/lang/Enum$EnumDesc"), (2, .class_ 112), (0, u "java/lang/constant/Constable"), (0, .class_ 114), (0, u "java/lang/Comparable"), (0, .class_ 116), (0, u "java/io/Serializable")] 87

/-- java/lang/Enum -/
def k5 : Class := { plain "java/lang/Enum" (some 0) with
  accessFlags := 1057
  interfaces := #[2, 3, 4]
  cf := some (fileOf pool5 2 #[.nestMembers #[106]] #[] 1057 12 #[111, 113, 115] #[{ accessFlags := 18, nameIndex := 5, descriptorIndex := 6, attributes := #[] }, { accessFlags := 18, nameIndex := 9, descriptorIndex := 10, attributes := #[] }, { accessFlags := 2, nameIndex := 19, descriptorIndex := 10, attributes := #[] }])
  fields := #[{ name := "name", type := (.object "java/lang/String"), accessFlags := 18, slot := 0, constantValue := 0 }, { name := "ordinal", type := .int, accessFlags := 18, slot := 1, constantValue := 0 }, { name := "hash", type := .int, accessFlags := 2, slot := 2, constantValue := 0 }]
  methods := #[]
  instanceTypes := #[(.object "java/lang/String"), .int, .int]
  staticTypes := #[]
  resolved := Array.replicate 204 none
  statics := none }

def pool6 : Array CpInfo := pool [(1, .class_ 2), (0, u "com/example/traversal/traversal/model/BasicType"), (2, u "STRING"), (0, u "Lcom/example/traversal/traversal/model/BasicType;"), (0, .fieldref 1 8), (0, .nameAndType 9 6), (0, u "INTEGER"), (0, .fieldref 1 11), (0, .nameAndType 12 6), (0, u "LONG"), (0, .fieldref 1 14), (0, .nameAndType 15 6), (0, u "SHORT"), (0, .fieldref 1 17), (0, .nameAndType 18 6), (0, u "BYTE"), (2, u "DOUBLE"), (2, u "FLOAT"), (2, u "BIG_DECIMAL"), (0, .fieldref 1 29), (0, .nameAndType 30 6), (0, u "BIG_INTEGER"), (2, u "BOOLEAN"), (2, u "LOCAL_DATE"), (2, u "LOCAL_TIME"), (2, u "LOCAL_DATE_TIME"), (2, u "$VALUES"), (0, u "[Lcom/example/traversal/traversal/model/BasicType;"), (6, .class_ 55), (1, u "java/lang/Enum"), (8, u "javaType"), (0, u "Ljava/lang/Class;"), (15, u "()Z"), (8, u "NUMERIC_WIDTHS"), (0, u "Ljava/util/List;"), (113, u "isIntegral")] 36

def k6c0 : Code := { maxStack := 2, maxLocals := 1, code := prog_124_method_7_code, exceptionTable := #[], attributes := #[] }
def k6m0 : Method := { name := "isIntegral", desc := "()Z", sig := { parameters := [], returnType := some .boolean }, accessFlags := 1, code := some k6c0 }
/-- com/example/traversal/traversal/model/BasicType -/
def k6 : Class := { plain "com/example/traversal/traversal/model/BasicType" (some 5) with
  accessFlags := 16433
  interfaces := #[]
  cf := some (fileOf pool6 1 #[] #[{ accessFlags := 1, nameIndex := 205, descriptorIndex := 81, attributes := #[] }] 16433 53 #[] #[{ accessFlags := 16409, nameIndex := 5, descriptorIndex := 6, attributes := #[] }, { accessFlags := 16409, nameIndex := 9, descriptorIndex := 6, attributes := #[] }, { accessFlags := 16409, nameIndex := 12, descriptorIndex := 6, attributes := #[] }, { accessFlags := 16409, nameIndex := 15, descriptorIndex := 6, attributes := #[] }, { accessFlags := 16409, nameIndex := 18, descriptorIndex := 6, attributes := #[] }, { accessFlags := 16409, nameIndex := 21, descriptorIndex := 6, attributes := #[] }, { accessFlags := 16409, nameIndex := 24, descriptorIndex := 6, attributes := #[] }, { accessFlags := 16409, nameIndex := 27, descriptorIndex := 6, attributes := #[] }, { accessFlags := 16409, nameIndex := 30, descriptorIndex := 6, attributes := #[] }, { accessFlags := 16409, nameIndex := 33, descriptorIndex := 6, attributes := #[] }, { accessFlags := 16409, nameIndex := 36, descriptorIndex := 6, attributes := #[] }, { accessFlags := 16409, nameIndex := 39, descriptorIndex := 6, attributes := #[] }, { accessFlags := 16409, nameIndex := 42, descriptorIndex := 6, attributes := #[] }, { accessFlags := 26, nameIndex := 90, descriptorIndex := 91, attributes := #[] }, { accessFlags := 18, nameIndex := 64, descriptorIndex := 65, attributes := #[] }, { accessFlags := 4122, nameIndex := 45, descriptorIndex := 46, attributes := #[] }])
  fields := #[{ name := "STRING", type := (.object "com/example/traversal/traversal/model/BasicType"), accessFlags := 16409, slot := 0, constantValue := 0 }, { name := "INTEGER", type := (.object "com/example/traversal/traversal/model/BasicType"), accessFlags := 16409, slot := 1, constantValue := 0 }, { name := "LONG", type := (.object "com/example/traversal/traversal/model/BasicType"), accessFlags := 16409, slot := 2, constantValue := 0 }, { name := "SHORT", type := (.object "com/example/traversal/traversal/model/BasicType"), accessFlags := 16409, slot := 3, constantValue := 0 }, { name := "BYTE", type := (.object "com/example/traversal/traversal/model/BasicType"), accessFlags := 16409, slot := 4, constantValue := 0 }, { name := "DOUBLE", type := (.object "com/example/traversal/traversal/model/BasicType"), accessFlags := 16409, slot := 5, constantValue := 0 }, { name := "FLOAT", type := (.object "com/example/traversal/traversal/model/BasicType"), accessFlags := 16409, slot := 6, constantValue := 0 }, { name := "BIG_DECIMAL", type := (.object "com/example/traversal/traversal/model/BasicType"), accessFlags := 16409, slot := 7, constantValue := 0 }, { name := "BIG_INTEGER", type := (.object "com/example/traversal/traversal/model/BasicType"), accessFlags := 16409, slot := 8, constantValue := 0 }, { name := "BOOLEAN", type := (.object "com/example/traversal/traversal/model/BasicType"), accessFlags := 16409, slot := 9, constantValue := 0 }, { name := "LOCAL_DATE", type := (.object "com/example/traversal/traversal/model/BasicType"), accessFlags := 16409, slot := 10, constantValue := 0 }, { name := "LOCAL_TIME", type := (.object "com/example/traversal/traversal/model/BasicType"), accessFlags := 16409, slot := 11, constantValue := 0 }, { name := "LOCAL_DATE_TIME", type := (.object "com/example/traversal/traversal/model/BasicType"), accessFlags := 16409, slot := 12, constantValue := 0 }, { name := "NUMERIC_WIDTHS", type := (.object "java/util/List"), accessFlags := 26, slot := 13, constantValue := 0 }, { name := "javaType", type := (.object "java/lang/Class"), accessFlags := 18, slot := 3, constantValue := 0 }, { name := "$VALUES", type := (.array (.object "com/example/traversal/traversal/model/BasicType")), accessFlags := 4122, slot := 14, constantValue := 0 }]
  methods := #[k6m0]
  instanceTypes := #[(.object "java/lang/String"), .int, .int, (.object "java/lang/Class")]
  staticTypes := #[(.object "com/example/traversal/traversal/model/BasicType"), (.object "com/example/traversal/traversal/model/BasicType"), (.object "com/example/traversal/traversal/model/BasicType"), (.object "com/example/traversal/traversal/model/BasicType"), (.object "com/example/traversal/traversal/model/BasicType"), (.object "com/example/traversal/traversal/model/BasicType"), (.object "com/example/traversal/traversal/model/BasicType"), (.object "com/example/traversal/traversal/model/BasicType"), (.object "com/example/traversal/traversal/model/BasicType"), (.object "com/example/traversal/traversal/model/BasicType"), (.object "com/example/traversal/traversal/model/BasicType"), (.object "com/example/traversal/traversal/model/BasicType"), (.object "com/example/traversal/traversal/model/BasicType"), (.object "java/util/List"), (.array (.object "com/example/traversal/traversal/model/BasicType"))]
  resolved := Array.replicate 242 none
  statics := some 0 }

def pool7 : Array CpInfo := pool [(1, u "java/lang/Cloneable"), (0, .class_ 1), (0, u "java/lang/Object"), (0, .class_ 3)] 3

/-- java/lang/Cloneable -/
def k7 : Class := { plain "java/lang/Cloneable" (some 0) with
  accessFlags := 1537
  interfaces := #[]
  cf := some (fileOf pool7 2 #[] #[] 1537 4 #[] #[])
  fields := #[]
  methods := #[]
  instanceTypes := #[]
  staticTypes := #[]
  resolved := Array.replicate 8 none
  statics := none }

/-- the primitive byte -/
def k8 : Class := { plain "byte" none with kind := .primitive 'B', accessFlags := 0x411 }
/-- [B -/
def k9 : Class := { plain "[B" (some 0) with kind := .array 8 .byte, interfaces := #[7, 4], accessFlags := 1041 }

/-- the primitive int -/
def k10 : Class := { plain "int" none with kind := .primitive 'I', accessFlags := 0x411 }
/-- [I -/
def k11 : Class := { plain "[I" (some 0) with kind := .array 10 .int, interfaces := #[7, 4], accessFlags := 1041 }

def heap : Heap := #[{ cls := 6, slots := #[.ref 1, .ref 2, .ref 3, .ref 4, .ref 5, .ref 8, .ref 7, .ref 9, .ref 6, .ref 10, .ref 12, .ref 11, .ref 13, .null, .null], vm := .statics 6 },
  { cls := 6, slots := #[.null, .int 0, .int 0, .null], vm := .none },
  { cls := 6, slots := #[.null, .int 1, .int 0, .null], vm := .none },
  { cls := 6, slots := #[.null, .int 2, .int 0, .null], vm := .none },
  { cls := 6, slots := #[.null, .int 3, .int 0, .null], vm := .none },
  { cls := 6, slots := #[.null, .int 4, .int 0, .null], vm := .none },
  { cls := 6, slots := #[.null, .int 8, .int 0, .null], vm := .none },
  { cls := 6, slots := #[.null, .int 6, .int 0, .null], vm := .none },
  { cls := 6, slots := #[.null, .int 5, .int 0, .null], vm := .none },
  { cls := 6, slots := #[.null, .int 7, .int 0, .null], vm := .none },
  { cls := 6, slots := #[.null, .int 9, .int 0, .null], vm := .none },
  { cls := 6, slots := #[.null, .int 11, .int 0, .null], vm := .none },
  { cls := 6, slots := #[.null, .int 10, .int 0, .null], vm := .none },
  { cls := 6, slots := #[.null, .int 12, .int 0, .null], vm := .none }]
def classes : Array Class := #[k0, k1, k2, k3, k4, k5, k6, k7, k8, k9, k10, k11]
def interned : List (Array UInt16 × Addr) := []
def slotsUsed : Nat := 67
def theMethod : MethodId := ⟨1, 2⟩
def args0 : Array Value := #[.int 5]
def aboutOver (below : List Frame) : State where
  vm := { classes := classes, interned := interned.toArray }
  heap := heap
  slotsUsed := slotsUsed
  threads := #[{ frames := .invoking theMethod args0 :: below }]
def below0 : List Frame := [.native { method := ⟨0, 0⟩, args := #[] }]
def about1 : State := aboutOver below0
def p0 : Program := .bare "" "" ""
def e0 : Env := launch0.env 0 0 0
theorem w_frames : about1.frames = Frame.invoking theMethod args0 :: below0 := rfl
set_option maxRecDepth 65536 in
theorem w_args : argsFit about1.vm theMethod args0 = true := by decide +kernel
set_option maxRecDepth 65536 in
theorem w_heap : heapFits about1 = true := by decide +kernel
set_option maxRecDepth 65536 in
theorem w_runnable : about1.curStatus? = some .runnable := by decide +kernel
set_option maxRecDepth 65536 in
theorem w_alone : about1.alone = true := by decide +kernel
set_option maxRecDepth 65536 in
theorem w_named : about1.methodNamed? x = some theMethod := by decide +kernel
set_option maxRecDepth 65536 in
theorem w_hears : about1.hears theMethod below0 = true := by decide +kernel
set_option maxRecDepth 65536 in
theorem w_ripe : about1.ripe theMethod args0 below0 = true := by decide +kernel
theorem w_running : about1.status = .running := rfl
set_option maxRecDepth 65536 in
theorem w_room : about1.hasRoom e0.platform room_1 = true :=
  launch0.hasRoom_least _ room_1 (by decide +kernel) (by decide +kernel) (by decide +kernel) (by decide +kernel) (by decide +kernel) (by decide +kernel)
theorem allAtoms_all (ts : List Jvm.Cond) (a : Array Jvm.Value) (st : Jvm.State) : (allAtoms ts).before a st = ts.all (fun c => c.before a st) := by
  induction ts with
  | nil => rfl
  | cons c t ih =>
    show (Jvm.Cond.and c (allAtoms t)).before a st = _
    rw [Jvm.Cond.before_and, ih, List.all_cons]
def words1 : List Jvm.Cond := Jvm.Cond.code x code maxLocals ret :: tables_1
/-- a 'code' word, met by the world's own term for the bytes: nothing is compared byte by byte -/
theorem code_word {y : MethodName} {bytes : ByteArray} {mx : Nat} {rt : Option FieldType} {a : Array Value} {s : State} {m : MethodId} {meth : Method} {c : Code} (h1 : s.methodNamed? y = some m) (h2 : s.vm.method? m = some meth) (h3 : meth.code = some c) (h4 : c.code = bytes)
    (h5 : (c.maxLocals == mx && c.exceptionTable.isEmpty && decide (c.maxStack ≤ mostOperands) && decide (meth.sig.returnType = rt) && !meth.locks && decide (parseMethodDescriptor y.desc = some meth.sig)) = true) : (Jvm.Cond.code y bytes mx rt).before a s = true := by
  simp only [Bool.and_eq_true, beq_iff_eq, Bool.not_eq_true', decide_eq_true_eq] at h5
  obtain ⟨⟨⟨⟨⟨g1, g2⟩, g3⟩, g4⟩, g5⟩, g6⟩ := h5
  simp [Cond.before, Cond.holds, Cond.value, h1, h2, h3, h4, g1, g2, g3, g4, g5, g6]
def isCode : Jvm.Cond → Bool
  | .code _ _ _ _ => true
  | _ => false
theorem all_split {L : List Jvm.Cond} {P : Jvm.Cond → Bool} (h1 : L.all (fun c => isCode c || P c) = true) (h2 : ∀ c ∈ L.filter isCode, P c = true) : L.all P = true := by
  refine List.all_eq_true.mpr fun c hc => ?_
  have h := List.all_eq_true.mp h1 c hc
  rcases Bool.eq_false_or_eq_true (isCode c) with hi | hi
  · exact h2 c (List.mem_filter.mpr ⟨hc, hi⟩)
  · simpa [hi] using h
set_option maxRecDepth 65536 in
theorem w_c0 : (Jvm.Cond.code x code maxLocals ret).before args0 about1 = true := code_word (m := ⟨1, 2⟩) (meth := k1m2) (c := k1c2) (by decide +kernel) rfl rfl rfl (by decide +kernel)
set_option maxRecDepth 65536 in
theorem w_c1 : (Jvm.Cond.code ({ cls := "com/example/traversal/traversal/model/BasicTypeIsIntegralPinLaw", name := "pick", desc := "(I)Lcom/example/traversal/traversal/model/BasicType;" } : Jvm.MethodName) method_2_code (1 : Nat) (Option.some (Jvm.ClassFile.FieldType.object "com/example/traversal/traversal/model/BasicType"))).before args0 about1 = true := code_word (m := ⟨1, 1⟩) (meth := k1m1) (c := k1c1) (by decide +kernel) rfl rfl rfl (by decide +kernel)
set_option maxRecDepth 65536 in
theorem w_c2 : (Jvm.Cond.code ({ cls := "com/example/traversal/traversal/model/BasicType", name := "isIntegral", desc := "()Z" } : Jvm.MethodName) prog_124_method_7_code (1 : Nat) (Option.some Jvm.ClassFile.FieldType.boolean)).before args0 about1 = true := code_word (m := ⟨6, 0⟩) (meth := k6m0) (c := k6c0) (by decide +kernel) rfl rfl rfl (by decide +kernel)
def codes1 : List Jvm.Cond := [Jvm.Cond.code x code maxLocals ret, Jvm.Cond.code ({ cls := "com/example/traversal/traversal/model/BasicTypeIsIntegralPinLaw", name := "pick", desc := "(I)Lcom/example/traversal/traversal/model/BasicType;" } : Jvm.MethodName) method_2_code (1 : Nat) (Option.some (Jvm.ClassFile.FieldType.object "com/example/traversal/traversal/model/BasicType")), Jvm.Cond.code ({ cls := "com/example/traversal/traversal/model/BasicType", name := "isIntegral", desc := "()Z" } : Jvm.MethodName) prog_124_method_7_code (1 : Nat) (Option.some Jvm.ClassFile.FieldType.boolean)]
set_option maxRecDepth 65536 in
theorem codes_eq : words1.filter isCode = codes1 := rfl
theorem w_codes : ∀ c ∈ words1.filter isCode, c.before args0 about1 = true := by
  rw [codes_eq]
  intro c hc
  simp only [codes1, List.mem_cons, List.not_mem_nil, or_false] at hc
  rcases hc with rfl | rfl | rfl
  · exact w_c0
  · exact w_c1
  · exact w_c2
set_option maxRecDepth 65536 in
theorem w_t1 : (words1.take 24).all (fun c => isCode c || c.before args0 about1) = true := by decide +kernel
set_option maxRecDepth 65536 in
theorem w_t2 : (words1.drop 24).all (fun c => isCode c || c.before args0 about1) = true := by decide +kernel
theorem w_tables : (allAtoms (Jvm.Cond.code x code maxLocals ret :: tables_1)).before args0 about1 = true := by
  rw [allAtoms_all]
  show words1.all (fun c => c.before args0 about1) = true
  refine all_split ?_ w_codes
  rw [← List.take_append_drop 24 words1, List.all_append, w_t1, w_t2]
  rfl
set_option maxRecDepth 65536 in
theorem w_case : (Jvm.Cond.and given_1 narrow_1).before args0 about1 = true := by decide +kernel
theorem w_applies : (headSpec (Jvm.Cond.code x code maxLocals ret :: tables_1) room_1).applies x e0.platform about1 = true :=
  (Spec.applies_iff w_frames).mpr ⟨w_running, w_runnable, w_alone, w_named, w_hears, w_ripe, w_room, w_tables⟩
theorem atStart : AtStart classFile x code maxLocals ret World_1 tables_1 room_1 Calls_1 rest_1 Pre_1 launch0 p0 e0 about1 theMethod args0 below0 :=
  ⟨lists_1, trivial, launch0.admits_env _ _ _, launch0.least_env, fairChoices_fair.cas, fairChoices_fair.clock, w_frames, w_args, w_heap, w_applies, trivial, trivial, w_case⟩
end start1
theorem witness_1 : WitnessClaimed_1 := ⟨start1.p0, start1.e0, start1.about1, start1.theMethod, start1.args0, start1.below0, start1.atStart⟩
end Jvm.Pilot.@@N@@
