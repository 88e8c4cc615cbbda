import JvmDerived
import JvmDerived.Pilot.@@N@@Statement
import JvmDerived.Pilot.@@N@@Code
set_option linter.unusedVariables false
set_option linter.unusedSimpArgs false
namespace Jvm.RoadKit
open Sem ClassFile Op Lib Jvm.Stand Jvm.Free Jvm.LawKit
section New
variable {p : Program} {l : Launch} {e : Env} {R : Room} {s : State} {m : MethodId} {args : Array Value} {below : List Frame} {meth : Method} {c : Code} {T : State} {locs : List Loc} {cells slots : Nat}
theorem retI (X : Stand p l e R s m args below meth c T locs cells slots) (hx : p.tables.exec = Jvm.exec) {pc : Nat} {Ls : Array Slot} {z : Int32} {rest : List Value} (hret : meth.sig.returnType = some .int) (hd : decode c.code pc = .ok (.ireturn, 1)) {fs : List Frame}
    (hl : ∀ (f : JFrame) (acts : List Action), f.method = m → f.locked = none → f.entered = [] → (doReturn e (T.setTop f) acts (some (.int z))).1 = T.setFrames fs) : Steps p.tables e below (T.setTop (mkF m pc Ls (.int z :: rest))) (T.setFrames fs) := by
  have hm' : T.vm.method? m = some meth := X.method'
  have hn : narrow .int (.int z) = .int z := rfl
  show Steps p.tables e below (T.setTop { method := m, pc := pc, locals := Ls, stack := _ :: rest, locked := none }) _
  jvm_step X.here [X.here.top, hx, hd, hm', hret, hn]
  first | (intro acts; rw [hl _ acts rfl rfl rfl]) | rw [hl _ _ rfl rfl rfl]
  exact Steps.refl _
end New
end Jvm.RoadKit
namespace Jvm.Pilot.@@N@@
open Jvm Jvm.ClassFile Sem Op Lib Jvm.Free Jvm.Stand Jvm.LawKit Jvm.RoadKit Bundle Jvm.Pilot.@@N@@.Jvm.D
theorem own_m {α : Type} {L : List α} {x : α} (i : Nat) (h : L[i]? = some x) : x ∈ L := List.mem_of_getElem? h
theorem own_top {tb : Tables} {e : Env} {below : List Frame} {T t : State} {m : MethodId} {pc : Nat} {Ls : Array Slot} {v v' : Value} {rest : List Value} (q : v = v') (k : Steps tb e below (T.setTop (mkF m pc Ls (v' :: rest))) t) : Steps tb e below (T.setTop (mkF m pc Ls (v :: rest))) t := q ▸ k
theorem own_le {Z : State} {n0 : Nat} {h : Heap} (O : Old Z n0 h) : n0 ≤ h.size := O.1 ▸ O.2.1
theorem own_eqI {args : Array Value} {first s : State} {o : Option Outcome} {idx : List Nat} {t : Term} {k : Int32} (h : (Jvm.Cond.eq t (.int k)).value args first o s idx = some true) : t.eval args first o idx s = some (.int k) := by
  cases ht : t.eval args first o idx s with
  | none => simp [Cond.value, Term.eval, ht] at h
  | some x => cases x <;> simp [Cond.value, Term.eval, ht] at h ⊢; exact h
theorem own_eqJ {args : Array Value} {first s : State} {o : Option Outcome} {idx : List Nat} {t : Term} {k : Int64} (h : (Jvm.Cond.eq t (.long k)).value args first o s idx = some true) : t.eval args first o idx s = some (.long k) := by
  cases ht : t.eval args first o idx s with
  | none => simp [Cond.value, Term.eval, ht] at h
  | some x => cases x <;> simp [Cond.value, Term.eval, ht] at h ⊢; exact h
theorem own_eqR {args : Array Value} {first s : State} {o : Option Outcome} {idx : List Nat} {t u : Term} {b : Addr} (h : (Jvm.Cond.eq t u).value args first o s idx = some true) (hu : u.eval args first o idx s = some (.ref b)) : t.eval args first o idx s = some (.ref b) := by
  cases ht : t.eval args first o idx s with
  | none => simp [Cond.value, ht] at h
  | some x => cases x <;> simp [Cond.value, ht, hu] at h ⊢; exact h
def own_En (Z : State) (h : Heap) (C f d : String) (w : Addr) (k : Int32) : Prop := Sta Z h C f d (.ref w) ∧ Exa Z h w C ∧ Fld Z h w "java/lang/Enum" "ordinal" "I" (.int k)
theorem own_d1_0 : decode prog_50_method_5_code 0 = .ok (.aload_n 0, 1) := by decide +kernel
theorem own_d1_1 : decode prog_50_method_5_code 1 = .ok (.getstatic 3, 3) := by decide +kernel
theorem own_d1_4 : decode prog_50_method_5_code 4 = .ok (.if_acmp .ne 10, 3) := by decide +kernel
theorem own_d1_7 : decode prog_50_method_5_code 7 = .ok (.getstatic 10, 3) := by decide +kernel
theorem own_d1_10 : decode prog_50_method_5_code 10 = .ok (.astore_n 1, 1) := by decide +kernel
theorem own_d1_11 : decode prog_50_method_5_code 11 = .ok (.goto 19, 3) := by decide +kernel
theorem own_d1_14 : decode prog_50_method_5_code 14 = .ok (.aload_n 0, 1) := by decide +kernel
theorem own_d1_15 : decode prog_50_method_5_code 15 = .ok (.getstatic 10, 3) := by decide +kernel
theorem own_d1_18 : decode prog_50_method_5_code 18 = .ok (.if_acmp .ne 10, 3) := by decide +kernel
theorem own_d1_21 : decode prog_50_method_5_code 21 = .ok (.getstatic 3, 3) := by decide +kernel
theorem own_d1_24 : decode prog_50_method_5_code 24 = .ok (.astore_n 1, 1) := by decide +kernel
theorem own_d1_25 : decode prog_50_method_5_code 25 = .ok (.goto 5, 3) := by decide +kernel
theorem own_d1_28 : decode prog_50_method_5_code 28 = .ok (.aload_n 0, 1) := by decide +kernel
theorem own_d1_29 : decode prog_50_method_5_code 29 = .ok (.astore_n 1, 1) := by decide +kernel
theorem own_d1_30 : decode prog_50_method_5_code 30 = .ok (.aload_n 1, 1) := by decide +kernel
theorem own_d1_31 : decode prog_50_method_5_code 31 = .ok (.areturn, 1) := by decide +kernel
theorem own_d2_0 : decode method_3_code 0 = .ok (.iload_n 0, 1) := by decide +kernel
theorem own_d2_1 : decode method_3_code 1 = .ok (.iload_n 1, 1) := by decide +kernel
theorem own_d2_2 : decode method_3_code 2 = .ok (.if_icmp .ge 5, 3) := by decide +kernel
theorem own_d2_5 : decode method_3_code 5 = .ok (.iconst (-1), 1) := by decide +kernel
theorem own_d2_6 : decode method_3_code 6 = .ok (.ireturn, 1) := by decide +kernel
theorem own_d2_7 : decode method_3_code 7 = .ok (.iload_n 0, 1) := by decide +kernel
theorem own_d2_8 : decode method_3_code 8 = .ok (.iload_n 1, 1) := by decide +kernel
theorem own_d2_9 : decode method_3_code 9 = .ok (.if_icmp .le 5, 3) := by decide +kernel
theorem own_d2_12 : decode method_3_code 12 = .ok (.iconst 1, 1) := by decide +kernel
theorem own_d2_13 : decode method_3_code 13 = .ok (.ireturn, 1) := by decide +kernel
theorem own_d2_14 : decode method_3_code 14 = .ok (.iconst 0, 1) := by decide +kernel
theorem own_d2_15 : decode method_3_code 15 = .ok (.ireturn, 1) := by decide +kernel
theorem own_d3_0 : decode prog_50_method_4_code 0 = .ok (.iload_n 0, 1) := by decide +kernel
theorem own_d3_1 : decode prog_50_method_4_code 1 = .ok (.ifCond .ge 10, 3) := by decide +kernel
theorem own_d3_4 : decode prog_50_method_4_code 4 = .ok (.getstatic 3, 3) := by decide +kernel
theorem own_d3_7 : decode prog_50_method_4_code 7 = .ok (.astore_n 1, 1) := by decide +kernel
theorem own_d3_8 : decode prog_50_method_4_code 8 = .ok (.goto 18, 3) := by decide +kernel
theorem own_d3_11 : decode prog_50_method_4_code 11 = .ok (.iload_n 0, 1) := by decide +kernel
theorem own_d3_12 : decode prog_50_method_4_code 12 = .ok (.ifCond .le 10, 3) := by decide +kernel
theorem own_d3_15 : decode prog_50_method_4_code 15 = .ok (.getstatic 10, 3) := by decide +kernel
theorem own_d3_18 : decode prog_50_method_4_code 18 = .ok (.astore_n 1, 1) := by decide +kernel
theorem own_d3_19 : decode prog_50_method_4_code 19 = .ok (.goto 7, 3) := by decide +kernel
theorem own_d3_22 : decode prog_50_method_4_code 22 = .ok (.getstatic 7, 3) := by decide +kernel
theorem own_d3_25 : decode prog_50_method_4_code 25 = .ok (.astore_n 1, 1) := by decide +kernel
theorem own_d3_26 : decode prog_50_method_4_code 26 = .ok (.aload_n 1, 1) := by decide +kernel
theorem own_d3_27 : decode prog_50_method_4_code 27 = .ok (.areturn, 1) := by decide +kernel
theorem own_pn0 : plainName "com/example/bindweave/bindweave/expression/Order" = true := by first | (simp [plainName, overriddenIn]; done) | decide +kernel
theorem own_pn1 : plainName "com/example/bindweave/bindweave/expression/OrderReversedPinLaw" = true := by first | (simp [plainName, overriddenIn]; done) | decide +kernel
theorem own_pd0 : parseMethodDescriptor "()Lcom/example/bindweave/bindweave/expression/Order;" = some ⟨[], some (.object "com/example/bindweave/bindweave/expression/Order")⟩ := by decide +kernel
theorem own_pd1 : parseMethodDescriptor "(II)I" = some ⟨[.int, .int], some .int⟩ := by decide +kernel
theorem own_pd2 : parseMethodDescriptor "(I)Lcom/example/bindweave/bindweave/expression/Order;" = some ⟨[.int], some (.object "com/example/bindweave/bindweave/expression/Order")⟩ := by decide +kernel
theorem own_sign (x : Int32) : x < (0 : Int32) ∨ (¬ x < (0 : Int32) ∧ ¬ (0 : Int32) < x) ∨ (¬ x < (0 : Int32) ∧ (0 : Int32) < x) := by
  by_cases h : x < (0 : Int32)
  · exact Or.inl h
  · by_cases g : (0 : Int32) < x
    · exact Or.inr (Or.inr ⟨h, g⟩)
    · exact Or.inr (Or.inl ⟨h, g⟩)
theorem own_lt1 {a b : Int32} (h : b < (0 : Int32)) (g : ¬ a < (0 : Int32)) : b < a := by
  rw [Int32.lt_iff_toInt_lt] at *; omega
theorem own_lt2 {a b : Int32} (h : ¬ (0 : Int32) < b) (g : (0 : Int32) < a) : b < a := by
  rw [Int32.lt_iff_toInt_lt] at *; omega
theorem own_cut (x y : Int32) : x < y ∨ (¬ x < y ∧ ¬ y < x) ∨ (¬ x < y ∧ y < x) := by
  by_cases h : x < y
  · exact Or.inl h
  · by_cases g : y < x
    · exact Or.inr (Or.inr ⟨h, g⟩)
    · exact Or.inr (Or.inl ⟨h, g⟩)
theorem own_asym {x y : Int32} (h : x < y) : ¬ y < x := by
  rw [Int32.lt_iff_toInt_lt] at *; omega
theorem own_mask2 (x : Int32) : (x &&& (3 : Int32)) = (0 : Int32) ∨ (x &&& (3 : Int32)) = (1 : Int32) ∨ (x &&& (3 : Int32)) = (2 : Int32) ∨ (x &&& (3 : Int32)) = (3 : Int32) := by
  have h1 : (x &&& (3 : Int32)).toInt = x.toInt % (2 ^ 2 : Nat) := c_mask x 3 2 (by decide) (by decide)
  generalize (x &&& (3 : Int32)) = k at h1 ⊢
  simp only [← Int32.toInt_inj, show (0 : Int32).toInt = 0 from by decide, show (1 : Int32).toInt = 1 from by decide, show (2 : Int32).toInt = 2 from by decide, show (3 : Int32).toInt = 3 from by decide]
  omega
theorem own_both (p0 p1 p2 : Int32) : ((p0 &&& (3 : Int32)) = (0 : Int32) ∧ p1 < p2) ∨ ((p0 &&& (3 : Int32)) = (0 : Int32) ∧ (¬ p1 < p2 ∧ ¬ p2 < p1)) ∨ ((p0 &&& (3 : Int32)) = (0 : Int32) ∧ (¬ p1 < p2 ∧ p2 < p1)) ∨ ((p0 &&& (3 : Int32)) = (1 : Int32) ∧ p1 < p2) ∨ ((p0 &&& (3 : Int32)) = (1 : Int32) ∧ (¬ p1 < p2 ∧ ¬ p2 < p1)) ∨ ((p0 &&& (3 : Int32)) = (1 : Int32) ∧ (¬ p1 < p2 ∧ p2 < p1)) ∨ ((p0 &&& (3 : Int32)) = (2 : Int32) ∧ p1 < p2) ∨ ((p0 &&& (3 : Int32)) = (2 : Int32) ∧ (¬ p1 < p2 ∧ ¬ p2 < p1)) ∨ ((p0 &&& (3 : Int32)) = (2 : Int32) ∧ (¬ p1 < p2 ∧ p2 < p1)) ∨ ((p0 &&& (3 : Int32)) = (3 : Int32) ∧ p1 < p2) ∨ ((p0 &&& (3 : Int32)) = (3 : Int32) ∧ (¬ p1 < p2 ∧ ¬ p2 < p1)) ∨ ((p0 &&& (3 : Int32)) = (3 : Int32) ∧ (¬ p1 < p2 ∧ p2 < p1)) := by
  rcases own_mask2 p0 with h | h | h | h <;> rcases own_cut p1 p2 with g | g | g <;> simp only [h, g, true_and, and_true, not_false_eq_true, true_or, or_true, and_self]
theorem own_of_L_ef (m : MethodId) (pz : Int32) : entryFrame m #[(.int pz)] 2 = mkF m 0 #[iv pz, .unset] [] := by first | (simp [entryFrame, mkF, argsToLocals, Value.category]; done) | rfl
def own_of_L_Q (Z : State) (w_LESS : Addr) (w_EQUAL : Addr) (w_GREATER : Addr) (w_UNORDERED : Addr) (pz : Int32) (h0 : Heap) (n0 : Nat) (v : Option Value) (h : Heap) (L : List Loc) : Prop := v = some (.ref w_LESS) ∧ Fr n0 L ∧ h = h0
set_option maxRecDepth 65536 in
set_option maxHeartbeats 40000000 in
theorem own_of_L (l : Launch) (Z : State) (a0 : Array Value) (hw : ∀ d ∈ tables_1, d.before a0 Z = true) (ws : List Jvm.Cond) (w_LESS : Addr) (w_EQUAL : Addr) (w_GREATER : Addr) (w_UNORDERED : Addr) (pz : Int32) (h0 : Heap) (n0 : Nat) (O0 : Old Z n0 h0) (U_LESS : own_En Z Z.heap "com/example/bindweave/bindweave/expression/Order" "LESS" "Lcom/example/bindweave/bindweave/expression/Order;" w_LESS (0 : Int32)) (U_EQUAL : own_En Z Z.heap "com/example/bindweave/bindweave/expression/Order" "EQUAL" "Lcom/example/bindweave/bindweave/expression/Order;" w_EQUAL (1 : Int32)) (U_GREATER : own_En Z Z.heap "com/example/bindweave/bindweave/expression/Order" "GREATER" "Lcom/example/bindweave/bindweave/expression/Order;" w_GREATER (2 : Int32)) (U_UNORDERED : own_En Z Z.heap "com/example/bindweave/bindweave/expression/Order" "UNORDERED" "Lcom/example/bindweave/bindweave/expression/Order;" w_UNORDERED (3 : Int32)) (s1 : pz < (0 : Int32)) :
    MetFree l (⟨"com/example/bindweave/bindweave/expression/Order", "of", "(I)Lcom/example/bindweave/bindweave/expression/Order;"⟩ : MethodName) (head1 (Jvm.Cond.code (⟨"com/example/bindweave/bindweave/expression/Order", "of", "(I)Lcom/example/bindweave/bindweave/expression/Order;"⟩ : MethodName) prog_50_method_4_code 2 (some (.object "com/example/bindweave/bindweave/expression/Order")) :: ws) ({ frames := 0, cells := 0, slots := 0, locals := 0 } : Room)) (fun ar U => ar = #[(.int pz)] ∧ Z.Warmed39 U.vm ∧ U.heap = h0) (fun _ _ _ _ _ => True) (fun _ U oc U' => ∃ v L, oc = .returned v ∧ own_of_L_Q Z w_LESS w_EQUAL w_GREATER w_UNORDERED pz h0 n0 v U'.heap L ∧ FrameEnd U oc U' L ({ frames := 0, cells := 0, slots := 0, locals := 0 } : Room).cells ({ frames := 0, cells := 0, slots := 0, locals := 0 } : Room).slots) := by
  refine MetFree.of_bodySF (plainFor_of_name own_pn0) hisR ?_
  intro p e s m args below meth c s₁ Bd hml0 hP hK
  obtain ⟨rfl, hZ, hh⟩ := hP
  have hx := Bd.exec
  have hby := Bd.bytes
  have hml : c.maxLocals = 2 := hml0
  have hown : s.vm.findClass "com/example/bindweave/bindweave/expression/Order" = some m.cls := findClass_of_methodNamed Bd.named
  have hnm := (name_of_methodNamed Bd.named Bd.method).1
  have X0 : Stand p l e ({ frames := 0, cells := 0, slots := 0, locals := 0 } : Room) s m #[(.int pz)] below meth c s₁ [] 0 0 := Stand.of_body Bd
  have e0 : s₁.heap = h0 := by rw [← hh, Bd.state]; rfl
  have N0 := Fr.nil n0
  have pre0 : ∀ t, Steps p.tables e below (s₁.setTop (mkF m 0 #[iv pz, .unset] [])) t → Steps p.tables e below (s₁.setTop (entryFrame m #[(.int pz)] 2)) t := fun t k => castTop (own_of_L_ef m pz) k
  obtain ⟨T1, X1, e1, st1⟩ := getS2 X0 hx hZ hown (host := "") (Or.inl (hw _ (own_m 10 rfl))) Via.refl e0 (U_LESS.1.ext O0.2) (g := (mkF m 4 #[iv pz, .unset] [])) rfl (hb hby own_d3_4)
  obtain ⟨fs, hr, hrun, hended, hW, hsame⟩ := X1.leave (v := some (.ref w_LESS)) (fun h => by rw [Bd.returns] at h; cases h)
  refine ⟨_, _, pre0 _ ?_, hrun, hended, _, _, rfl, ?_, ⟨_, rfl⟩, hW, hsame.mono (by decide) (by decide)⟩
  · show Steps p.tables e below (s₁.setTop (mkF m 0 #[iv pz, .unset] [])) _
    refine XS.iloadN X0.here hx rfl (hb hby own_d3_0) rfl ?_
    show Steps p.tables e below (s₁.setTop (mkF m 1 #[iv pz, .unset] [(.int pz)])) _
    refine XS.ifNo X0.here hx rfl (hb hby own_d3_1) rfl ((if0 _ _).trans (tlt s1).2.1) ?_
    show Steps p.tables e below (s₁.setTop (mkF m 4 #[iv pz, .unset] [])) _
    refine st1 _ ?_
    show Steps p.tables e below (T1.setTop (mkF m 7 #[iv pz, .unset] [(.ref w_LESS)])) _
    refine XS.astoreN X1.here hx rfl (hb hby own_d3_7) rfl rfl (l' := #[iv pz, rv w_LESS]) rfl ?_
    show Steps p.tables e below (T1.setTop (mkF m 8 #[iv pz, rv w_LESS] [])) _
    refine XS.goto X1.here hx rfl (pc0 := 8) (pc' := 26) rfl (hb hby own_d3_8) (by decide) (by decide) ?_
    show Steps p.tables e below (T1.setTop (mkF m 26 #[iv pz, rv w_LESS] [])) _
    refine XS.aloadN X1.here hx rfl (hb hby own_d3_26) rfl rfl ?_
    show Steps p.tables e below (T1.setTop (mkF m 27 #[iv pz, rv w_LESS] [(.ref w_LESS)])) _
    jvm_step X1.here [X1.here.top, hx, (hb hby own_d3_27), X1.method', Bd.returns, Value.isRef, FieldType.isReference]
    first | (intro acts; rw [hr _ acts rfl rfl rfl]) | rw [hr _ _ rfl rfl rfl]
    exact Steps.refl _
  · show own_of_L_Q Z w_LESS w_EQUAL w_GREATER w_UNORDERED pz h0 n0 _ T1.heap _
    rw [e1]
    exact ⟨rfl, N0, rfl⟩
theorem own_of_E_ef (m : MethodId) (pz : Int32) : entryFrame m #[(.int pz)] 2 = mkF m 0 #[iv pz, .unset] [] := by first | (simp [entryFrame, mkF, argsToLocals, Value.category]; done) | rfl
def own_of_E_Q (Z : State) (w_LESS : Addr) (w_EQUAL : Addr) (w_GREATER : Addr) (w_UNORDERED : Addr) (pz : Int32) (h0 : Heap) (n0 : Nat) (v : Option Value) (h : Heap) (L : List Loc) : Prop := v = some (.ref w_EQUAL) ∧ Fr n0 L ∧ h = h0
set_option maxRecDepth 65536 in
set_option maxHeartbeats 40000000 in
theorem own_of_E (l : Launch) (Z : State) (a0 : Array Value) (hw : ∀ d ∈ tables_1, d.before a0 Z = true) (ws : List Jvm.Cond) (w_LESS : Addr) (w_EQUAL : Addr) (w_GREATER : Addr) (w_UNORDERED : Addr) (pz : Int32) (h0 : Heap) (n0 : Nat) (O0 : Old Z n0 h0) (U_LESS : own_En Z Z.heap "com/example/bindweave/bindweave/expression/Order" "LESS" "Lcom/example/bindweave/bindweave/expression/Order;" w_LESS (0 : Int32)) (U_EQUAL : own_En Z Z.heap "com/example/bindweave/bindweave/expression/Order" "EQUAL" "Lcom/example/bindweave/bindweave/expression/Order;" w_EQUAL (1 : Int32)) (U_GREATER : own_En Z Z.heap "com/example/bindweave/bindweave/expression/Order" "GREATER" "Lcom/example/bindweave/bindweave/expression/Order;" w_GREATER (2 : Int32)) (U_UNORDERED : own_En Z Z.heap "com/example/bindweave/bindweave/expression/Order" "UNORDERED" "Lcom/example/bindweave/bindweave/expression/Order;" w_UNORDERED (3 : Int32)) (s1 : ¬ pz < (0 : Int32)) (s2 : ¬ (0 : Int32) < pz) :
    MetFree l (⟨"com/example/bindweave/bindweave/expression/Order", "of", "(I)Lcom/example/bindweave/bindweave/expression/Order;"⟩ : MethodName) (head1 (Jvm.Cond.code (⟨"com/example/bindweave/bindweave/expression/Order", "of", "(I)Lcom/example/bindweave/bindweave/expression/Order;"⟩ : MethodName) prog_50_method_4_code 2 (some (.object "com/example/bindweave/bindweave/expression/Order")) :: ws) ({ frames := 0, cells := 0, slots := 0, locals := 0 } : Room)) (fun ar U => ar = #[(.int pz)] ∧ Z.Warmed39 U.vm ∧ U.heap = h0) (fun _ _ _ _ _ => True) (fun _ U oc U' => ∃ v L, oc = .returned v ∧ own_of_E_Q Z w_LESS w_EQUAL w_GREATER w_UNORDERED pz h0 n0 v U'.heap L ∧ FrameEnd U oc U' L ({ frames := 0, cells := 0, slots := 0, locals := 0 } : Room).cells ({ frames := 0, cells := 0, slots := 0, locals := 0 } : Room).slots) := by
  refine MetFree.of_bodySF (plainFor_of_name own_pn0) hisR ?_
  intro p e s m args below meth c s₁ Bd hml0 hP hK
  obtain ⟨rfl, hZ, hh⟩ := hP
  have hx := Bd.exec
  have hby := Bd.bytes
  have hml : c.maxLocals = 2 := hml0
  have hown : s.vm.findClass "com/example/bindweave/bindweave/expression/Order" = some m.cls := findClass_of_methodNamed Bd.named
  have hnm := (name_of_methodNamed Bd.named Bd.method).1
  have X0 : Stand p l e ({ frames := 0, cells := 0, slots := 0, locals := 0 } : Room) s m #[(.int pz)] below meth c s₁ [] 0 0 := Stand.of_body Bd
  have e0 : s₁.heap = h0 := by rw [← hh, Bd.state]; rfl
  have N0 := Fr.nil n0
  have pre0 : ∀ t, Steps p.tables e below (s₁.setTop (mkF m 0 #[iv pz, .unset] [])) t → Steps p.tables e below (s₁.setTop (entryFrame m #[(.int pz)] 2)) t := fun t k => castTop (own_of_E_ef m pz) k
  obtain ⟨T1, X1, e1, st1⟩ := getS2 X0 hx hZ hown (host := "") (Or.inl (hw _ (own_m 23 rfl))) Via.refl e0 (U_EQUAL.1.ext O0.2) (g := (mkF m 22 #[iv pz, .unset] [])) rfl (hb hby own_d3_22)
  obtain ⟨fs, hr, hrun, hended, hW, hsame⟩ := X1.leave (v := some (.ref w_EQUAL)) (fun h => by rw [Bd.returns] at h; cases h)
  refine ⟨_, _, pre0 _ ?_, hrun, hended, _, _, rfl, ?_, ⟨_, rfl⟩, hW, hsame.mono (by decide) (by decide)⟩
  · show Steps p.tables e below (s₁.setTop (mkF m 0 #[iv pz, .unset] [])) _
    refine XS.iloadN X0.here hx rfl (hb hby own_d3_0) rfl ?_
    show Steps p.tables e below (s₁.setTop (mkF m 1 #[iv pz, .unset] [(.int pz)])) _
    refine XS.ifYes X0.here hx rfl (pc0 := 1) (pc' := 11) rfl (hb hby own_d3_1) rfl ((if0 _ _).trans (flt s1).2.1) (by decide) (by decide) ?_
    show Steps p.tables e below (s₁.setTop (mkF m 11 #[iv pz, .unset] [])) _
    refine XS.iloadN X0.here hx rfl (hb hby own_d3_11) rfl ?_
    show Steps p.tables e below (s₁.setTop (mkF m 12 #[iv pz, .unset] [(.int pz)])) _
    refine XS.ifYes X0.here hx rfl (pc0 := 12) (pc' := 22) rfl (hb hby own_d3_12) rfl ((if0 _ _).trans (flt s2).2.2.2) (by decide) (by decide) ?_
    show Steps p.tables e below (s₁.setTop (mkF m 22 #[iv pz, .unset] [])) _
    refine st1 _ ?_
    show Steps p.tables e below (T1.setTop (mkF m 25 #[iv pz, .unset] [(.ref w_EQUAL)])) _
    refine XS.astoreN X1.here hx rfl (hb hby own_d3_25) rfl rfl (l' := #[iv pz, rv w_EQUAL]) rfl ?_
    show Steps p.tables e below (T1.setTop (mkF m 26 #[iv pz, rv w_EQUAL] [])) _
    refine XS.aloadN X1.here hx rfl (hb hby own_d3_26) rfl rfl ?_
    show Steps p.tables e below (T1.setTop (mkF m 27 #[iv pz, rv w_EQUAL] [(.ref w_EQUAL)])) _
    jvm_step X1.here [X1.here.top, hx, (hb hby own_d3_27), X1.method', Bd.returns, Value.isRef, FieldType.isReference]
    first | (intro acts; rw [hr _ acts rfl rfl rfl]) | rw [hr _ _ rfl rfl rfl]
    exact Steps.refl _
  · show own_of_E_Q Z w_LESS w_EQUAL w_GREATER w_UNORDERED pz h0 n0 _ T1.heap _
    rw [e1]
    exact ⟨rfl, N0, rfl⟩
theorem own_of_G_ef (m : MethodId) (pz : Int32) : entryFrame m #[(.int pz)] 2 = mkF m 0 #[iv pz, .unset] [] := by first | (simp [entryFrame, mkF, argsToLocals, Value.category]; done) | rfl
def own_of_G_Q (Z : State) (w_LESS : Addr) (w_EQUAL : Addr) (w_GREATER : Addr) (w_UNORDERED : Addr) (pz : Int32) (h0 : Heap) (n0 : Nat) (v : Option Value) (h : Heap) (L : List Loc) : Prop := v = some (.ref w_GREATER) ∧ Fr n0 L ∧ h = h0
set_option maxRecDepth 65536 in
set_option maxHeartbeats 40000000 in
theorem own_of_G (l : Launch) (Z : State) (a0 : Array Value) (hw : ∀ d ∈ tables_1, d.before a0 Z = true) (ws : List Jvm.Cond) (w_LESS : Addr) (w_EQUAL : Addr) (w_GREATER : Addr) (w_UNORDERED : Addr) (pz : Int32) (h0 : Heap) (n0 : Nat) (O0 : Old Z n0 h0) (U_LESS : own_En Z Z.heap "com/example/bindweave/bindweave/expression/Order" "LESS" "Lcom/example/bindweave/bindweave/expression/Order;" w_LESS (0 : Int32)) (U_EQUAL : own_En Z Z.heap "com/example/bindweave/bindweave/expression/Order" "EQUAL" "Lcom/example/bindweave/bindweave/expression/Order;" w_EQUAL (1 : Int32)) (U_GREATER : own_En Z Z.heap "com/example/bindweave/bindweave/expression/Order" "GREATER" "Lcom/example/bindweave/bindweave/expression/Order;" w_GREATER (2 : Int32)) (U_UNORDERED : own_En Z Z.heap "com/example/bindweave/bindweave/expression/Order" "UNORDERED" "Lcom/example/bindweave/bindweave/expression/Order;" w_UNORDERED (3 : Int32)) (s1 : ¬ pz < (0 : Int32)) (s2 : (0 : Int32) < pz) :
    MetFree l (⟨"com/example/bindweave/bindweave/expression/Order", "of", "(I)Lcom/example/bindweave/bindweave/expression/Order;"⟩ : MethodName) (head1 (Jvm.Cond.code (⟨"com/example/bindweave/bindweave/expression/Order", "of", "(I)Lcom/example/bindweave/bindweave/expression/Order;"⟩ : MethodName) prog_50_method_4_code 2 (some (.object "com/example/bindweave/bindweave/expression/Order")) :: ws) ({ frames := 0, cells := 0, slots := 0, locals := 0 } : Room)) (fun ar U => ar = #[(.int pz)] ∧ Z.Warmed39 U.vm ∧ U.heap = h0) (fun _ _ _ _ _ => True) (fun _ U oc U' => ∃ v L, oc = .returned v ∧ own_of_G_Q Z w_LESS w_EQUAL w_GREATER w_UNORDERED pz h0 n0 v U'.heap L ∧ FrameEnd U oc U' L ({ frames := 0, cells := 0, slots := 0, locals := 0 } : Room).cells ({ frames := 0, cells := 0, slots := 0, locals := 0 } : Room).slots) := by
  refine MetFree.of_bodySF (plainFor_of_name own_pn0) hisR ?_
  intro p e s m args below meth c s₁ Bd hml0 hP hK
  obtain ⟨rfl, hZ, hh⟩ := hP
  have hx := Bd.exec
  have hby := Bd.bytes
  have hml : c.maxLocals = 2 := hml0
  have hown : s.vm.findClass "com/example/bindweave/bindweave/expression/Order" = some m.cls := findClass_of_methodNamed Bd.named
  have hnm := (name_of_methodNamed Bd.named Bd.method).1
  have X0 : Stand p l e ({ frames := 0, cells := 0, slots := 0, locals := 0 } : Room) s m #[(.int pz)] below meth c s₁ [] 0 0 := Stand.of_body Bd
  have e0 : s₁.heap = h0 := by rw [← hh, Bd.state]; rfl
  have N0 := Fr.nil n0
  have pre0 : ∀ t, Steps p.tables e below (s₁.setTop (mkF m 0 #[iv pz, .unset] [])) t → Steps p.tables e below (s₁.setTop (entryFrame m #[(.int pz)] 2)) t := fun t k => castTop (own_of_G_ef m pz) k
  obtain ⟨T1, X1, e1, st1⟩ := getS2 X0 hx hZ hown (host := "") (Or.inl (hw _ (own_m 11 rfl))) Via.refl e0 (U_GREATER.1.ext O0.2) (g := (mkF m 15 #[iv pz, .unset] [])) rfl (hb hby own_d3_15)
  obtain ⟨fs, hr, hrun, hended, hW, hsame⟩ := X1.leave (v := some (.ref w_GREATER)) (fun h => by rw [Bd.returns] at h; cases h)
  refine ⟨_, _, pre0 _ ?_, hrun, hended, _, _, rfl, ?_, ⟨_, rfl⟩, hW, hsame.mono (by decide) (by decide)⟩
  · show Steps p.tables e below (s₁.setTop (mkF m 0 #[iv pz, .unset] [])) _
    refine XS.iloadN X0.here hx rfl (hb hby own_d3_0) rfl ?_
    show Steps p.tables e below (s₁.setTop (mkF m 1 #[iv pz, .unset] [(.int pz)])) _
    refine XS.ifYes X0.here hx rfl (pc0 := 1) (pc' := 11) rfl (hb hby own_d3_1) rfl ((if0 _ _).trans (flt s1).2.1) (by decide) (by decide) ?_
    show Steps p.tables e below (s₁.setTop (mkF m 11 #[iv pz, .unset] [])) _
    refine XS.iloadN X0.here hx rfl (hb hby own_d3_11) rfl ?_
    show Steps p.tables e below (s₁.setTop (mkF m 12 #[iv pz, .unset] [(.int pz)])) _
    refine XS.ifNo X0.here hx rfl (hb hby own_d3_12) rfl ((if0 _ _).trans (tlt s2).2.2.2) ?_
    show Steps p.tables e below (s₁.setTop (mkF m 15 #[iv pz, .unset] [])) _
    refine st1 _ ?_
    show Steps p.tables e below (T1.setTop (mkF m 18 #[iv pz, .unset] [(.ref w_GREATER)])) _
    refine XS.astoreN X1.here hx rfl (hb hby own_d3_18) rfl rfl (l' := #[iv pz, rv w_GREATER]) rfl ?_
    show Steps p.tables e below (T1.setTop (mkF m 19 #[iv pz, rv w_GREATER] [])) _
    refine XS.goto X1.here hx rfl (pc0 := 19) (pc' := 26) rfl (hb hby own_d3_19) (by decide) (by decide) ?_
    show Steps p.tables e below (T1.setTop (mkF m 26 #[iv pz, rv w_GREATER] [])) _
    refine XS.aloadN X1.here hx rfl (hb hby own_d3_26) rfl rfl ?_
    show Steps p.tables e below (T1.setTop (mkF m 27 #[iv pz, rv w_GREATER] [(.ref w_GREATER)])) _
    jvm_step X1.here [X1.here.top, hx, (hb hby own_d3_27), X1.method', Bd.returns, Value.isRef, FieldType.isReference]
    first | (intro acts; rw [hr _ acts rfl rfl rfl]) | rw [hr _ _ rfl rfl rfl]
    exact Steps.refl _
  · show own_of_G_Q Z w_LESS w_EQUAL w_GREATER w_UNORDERED pz h0 n0 _ T1.heap _
    rw [e1]
    exact ⟨rfl, N0, rfl⟩
theorem own_rev_LESS_ef (m : MethodId) (w_LESS : Addr) : entryFrame m #[(.ref w_LESS)] 2 = mkF m 0 #[rv w_LESS, .unset] [] := by first | (simp [entryFrame, mkF, argsToLocals, Value.category]; done) | rfl
def own_rev_LESS_Q (Z : State) (w_LESS : Addr) (w_EQUAL : Addr) (w_GREATER : Addr) (w_UNORDERED : Addr) (h0 : Heap) (n0 : Nat) (v : Option Value) (h : Heap) (L : List Loc) : Prop := v = some (.ref w_GREATER) ∧ Fr n0 L ∧ h = h0
set_option maxRecDepth 65536 in
set_option maxHeartbeats 40000000 in
theorem own_rev_LESS (l : Launch) (Z : State) (a0 : Array Value) (hw : ∀ d ∈ tables_1, d.before a0 Z = true) (ws : List Jvm.Cond) (w_LESS : Addr) (w_EQUAL : Addr) (w_GREATER : Addr) (w_UNORDERED : Addr) (h0 : Heap) (n0 : Nat) (O0 : Old Z n0 h0) (U_LESS : own_En Z Z.heap "com/example/bindweave/bindweave/expression/Order" "LESS" "Lcom/example/bindweave/bindweave/expression/Order;" w_LESS (0 : Int32)) (U_EQUAL : own_En Z Z.heap "com/example/bindweave/bindweave/expression/Order" "EQUAL" "Lcom/example/bindweave/bindweave/expression/Order;" w_EQUAL (1 : Int32)) (U_GREATER : own_En Z Z.heap "com/example/bindweave/bindweave/expression/Order" "GREATER" "Lcom/example/bindweave/bindweave/expression/Order;" w_GREATER (2 : Int32)) (U_UNORDERED : own_En Z Z.heap "com/example/bindweave/bindweave/expression/Order" "UNORDERED" "Lcom/example/bindweave/bindweave/expression/Order;" w_UNORDERED (3 : Int32)) :
    MetFree l (⟨"com/example/bindweave/bindweave/expression/Order", "reversed", "()Lcom/example/bindweave/bindweave/expression/Order;"⟩ : MethodName) (head1 (Jvm.Cond.code (⟨"com/example/bindweave/bindweave/expression/Order", "reversed", "()Lcom/example/bindweave/bindweave/expression/Order;"⟩ : MethodName) prog_50_method_5_code 2 (some (.object "com/example/bindweave/bindweave/expression/Order")) :: ws) ({ frames := 0, cells := 0, slots := 0, locals := 0 } : Room)) (fun ar U => ar = #[(.ref w_LESS)] ∧ Z.Warmed39 U.vm ∧ U.heap = h0) (fun _ _ _ _ _ => True) (fun _ U oc U' => ∃ v L, oc = .returned v ∧ own_rev_LESS_Q Z w_LESS w_EQUAL w_GREATER w_UNORDERED h0 n0 v U'.heap L ∧ FrameEnd U oc U' L ({ frames := 0, cells := 0, slots := 0, locals := 0 } : Room).cells ({ frames := 0, cells := 0, slots := 0, locals := 0 } : Room).slots) := by
  refine MetFree.of_bodySF (plainFor_of_name own_pn0) hisR ?_
  intro p e s m args below meth c s₁ Bd hml0 hP hK
  obtain ⟨rfl, hZ, hh⟩ := hP
  have hx := Bd.exec
  have hby := Bd.bytes
  have hml : c.maxLocals = 2 := hml0
  have hown : s.vm.findClass "com/example/bindweave/bindweave/expression/Order" = some m.cls := findClass_of_methodNamed Bd.named
  have hnm := (name_of_methodNamed Bd.named Bd.method).1
  have X0 : Stand p l e ({ frames := 0, cells := 0, slots := 0, locals := 0 } : Room) s m #[(.ref w_LESS)] below meth c s₁ [] 0 0 := Stand.of_body Bd
  have e0 : s₁.heap = h0 := by rw [← hh, Bd.state]; rfl
  have N0 := Fr.nil n0
  have pre0 : ∀ t, Steps p.tables e below (s₁.setTop (mkF m 0 #[rv w_LESS, .unset] [])) t → Steps p.tables e below (s₁.setTop (entryFrame m #[(.ref w_LESS)] 2)) t := fun t k => castTop (own_rev_LESS_ef m w_LESS) k
  obtain ⟨T1, X1, e1, st1⟩ := getS2 X0 hx hZ hown (host := "") (Or.inl (hw _ (own_m 10 rfl))) Via.refl e0 (U_LESS.1.ext O0.2) (g := (mkF m 1 #[rv w_LESS, .unset] [(.ref w_LESS)])) rfl (hb hby own_d1_1)
  obtain ⟨T2, X2, e2, st2⟩ := getS2 X1 hx hZ hown (host := "") (Or.inl (hw _ (own_m 11 rfl))) Via.refl e1 (U_GREATER.1.ext O0.2) (g := (mkF m 7 #[rv w_LESS, .unset] [])) rfl (hb hby own_d1_7)
  obtain ⟨fs, hr, hrun, hended, hW, hsame⟩ := X2.leave (v := some (.ref w_GREATER)) (fun h => by rw [Bd.returns] at h; cases h)
  refine ⟨_, _, pre0 _ ?_, hrun, hended, _, _, rfl, ?_, ⟨_, rfl⟩, hW, hsame.mono (by decide) (by decide)⟩
  · show Steps p.tables e below (s₁.setTop (mkF m 0 #[rv w_LESS, .unset] [])) _
    refine XS.aloadN X0.here hx rfl (hb hby own_d1_0) rfl rfl ?_
    show Steps p.tables e below (s₁.setTop (mkF m 1 #[rv w_LESS, .unset] [(.ref w_LESS)])) _
    refine st1 _ ?_
    show Steps p.tables e below (T1.setTop (mkF m 4 #[rv w_LESS, .unset] [(.ref w_LESS), (.ref w_LESS)])) _
    refine Jvm.RoadKit.acmp (g := (mkF m 4 #[rv w_LESS, .unset] [(.ref w_LESS), (.ref w_LESS)])) X1 hx rfl rfl rfl (pc0 := 4) (pc' := 7) (same := true) rfl (hb hby own_d1_4) rfl (decide_eq_true rfl) (by decide) (by decide) ?_
    show Steps p.tables e below (T1.setTop (mkF m 7 #[rv w_LESS, .unset] [])) _
    refine st2 _ ?_
    show Steps p.tables e below (T2.setTop (mkF m 10 #[rv w_LESS, .unset] [(.ref w_GREATER)])) _
    refine XS.astoreN X2.here hx rfl (hb hby own_d1_10) rfl rfl (l' := #[rv w_LESS, rv w_GREATER]) rfl ?_
    show Steps p.tables e below (T2.setTop (mkF m 11 #[rv w_LESS, rv w_GREATER] [])) _
    refine XS.goto X2.here hx rfl (pc0 := 11) (pc' := 30) rfl (hb hby own_d1_11) (by decide) (by decide) ?_
    show Steps p.tables e below (T2.setTop (mkF m 30 #[rv w_LESS, rv w_GREATER] [])) _
    refine XS.aloadN X2.here hx rfl (hb hby own_d1_30) rfl rfl ?_
    show Steps p.tables e below (T2.setTop (mkF m 31 #[rv w_LESS, rv w_GREATER] [(.ref w_GREATER)])) _
    jvm_step X2.here [X2.here.top, hx, (hb hby own_d1_31), X2.method', Bd.returns, Value.isRef, FieldType.isReference]
    first | (intro acts; rw [hr _ acts rfl rfl rfl]) | rw [hr _ _ rfl rfl rfl]
    exact Steps.refl _
  · show own_rev_LESS_Q Z w_LESS w_EQUAL w_GREATER w_UNORDERED h0 n0 _ T2.heap _
    rw [e2]
    exact ⟨rfl, N0, rfl⟩
theorem own_rev_GREATER_ef (m : MethodId) (w_GREATER : Addr) : entryFrame m #[(.ref w_GREATER)] 2 = mkF m 0 #[rv w_GREATER, .unset] [] := by first | (simp [entryFrame, mkF, argsToLocals, Value.category]; done) | rfl
def own_rev_GREATER_Q (Z : State) (w_LESS : Addr) (w_EQUAL : Addr) (w_GREATER : Addr) (w_UNORDERED : Addr) (h0 : Heap) (n0 : Nat) (v : Option Value) (h : Heap) (L : List Loc) : Prop := v = some (.ref w_LESS) ∧ Fr n0 L ∧ h = h0
set_option maxRecDepth 65536 in
set_option maxHeartbeats 40000000 in
theorem own_rev_GREATER (l : Launch) (Z : State) (a0 : Array Value) (hw : ∀ d ∈ tables_1, d.before a0 Z = true) (ws : List Jvm.Cond) (w_LESS : Addr) (w_EQUAL : Addr) (w_GREATER : Addr) (w_UNORDERED : Addr) (h0 : Heap) (n0 : Nat) (O0 : Old Z n0 h0) (U_LESS : own_En Z Z.heap "com/example/bindweave/bindweave/expression/Order" "LESS" "Lcom/example/bindweave/bindweave/expression/Order;" w_LESS (0 : Int32)) (U_EQUAL : own_En Z Z.heap "com/example/bindweave/bindweave/expression/Order" "EQUAL" "Lcom/example/bindweave/bindweave/expression/Order;" w_EQUAL (1 : Int32)) (U_GREATER : own_En Z Z.heap "com/example/bindweave/bindweave/expression/Order" "GREATER" "Lcom/example/bindweave/bindweave/expression/Order;" w_GREATER (2 : Int32)) (U_UNORDERED : own_En Z Z.heap "com/example/bindweave/bindweave/expression/Order" "UNORDERED" "Lcom/example/bindweave/bindweave/expression/Order;" w_UNORDERED (3 : Int32)) :
    MetFree l (⟨"com/example/bindweave/bindweave/expression/Order", "reversed", "()Lcom/example/bindweave/bindweave/expression/Order;"⟩ : MethodName) (head1 (Jvm.Cond.code (⟨"com/example/bindweave/bindweave/expression/Order", "reversed", "()Lcom/example/bindweave/bindweave/expression/Order;"⟩ : MethodName) prog_50_method_5_code 2 (some (.object "com/example/bindweave/bindweave/expression/Order")) :: ws) ({ frames := 0, cells := 0, slots := 0, locals := 0 } : Room)) (fun ar U => ar = #[(.ref w_GREATER)] ∧ Z.Warmed39 U.vm ∧ U.heap = h0) (fun _ _ _ _ _ => True) (fun _ U oc U' => ∃ v L, oc = .returned v ∧ own_rev_GREATER_Q Z w_LESS w_EQUAL w_GREATER w_UNORDERED h0 n0 v U'.heap L ∧ FrameEnd U oc U' L ({ frames := 0, cells := 0, slots := 0, locals := 0 } : Room).cells ({ frames := 0, cells := 0, slots := 0, locals := 0 } : Room).slots) := by
  refine MetFree.of_bodySF (plainFor_of_name own_pn0) hisR ?_
  intro p e s m args below meth c s₁ Bd hml0 hP hK
  obtain ⟨rfl, hZ, hh⟩ := hP
  have hx := Bd.exec
  have hby := Bd.bytes
  have hml : c.maxLocals = 2 := hml0
  have hown : s.vm.findClass "com/example/bindweave/bindweave/expression/Order" = some m.cls := findClass_of_methodNamed Bd.named
  have hnm := (name_of_methodNamed Bd.named Bd.method).1
  have X0 : Stand p l e ({ frames := 0, cells := 0, slots := 0, locals := 0 } : Room) s m #[(.ref w_GREATER)] below meth c s₁ [] 0 0 := Stand.of_body Bd
  have e0 : s₁.heap = h0 := by rw [← hh, Bd.state]; rfl
  have N0 := Fr.nil n0
  have pre0 : ∀ t, Steps p.tables e below (s₁.setTop (mkF m 0 #[rv w_GREATER, .unset] [])) t → Steps p.tables e below (s₁.setTop (entryFrame m #[(.ref w_GREATER)] 2)) t := fun t k => castTop (own_rev_GREATER_ef m w_GREATER) k
  obtain ⟨T1, X1, e1, st1⟩ := getS2 X0 hx hZ hown (host := "") (Or.inl (hw _ (own_m 10 rfl))) Via.refl e0 (U_LESS.1.ext O0.2) (g := (mkF m 1 #[rv w_GREATER, .unset] [(.ref w_GREATER)])) rfl (hb hby own_d1_1)
  obtain ⟨T2, X2, e2, st2⟩ := getS2 X1 hx hZ hown (host := "") (Or.inl (hw _ (own_m 11 rfl))) Via.refl e1 (U_GREATER.1.ext O0.2) (g := (mkF m 15 #[rv w_GREATER, .unset] [(.ref w_GREATER)])) rfl (hb hby own_d1_15)
  obtain ⟨T3, X3, e3, st3⟩ := getS2 X2 hx hZ hown (host := "") (Or.inl (hw _ (own_m 10 rfl))) Via.refl e2 (U_LESS.1.ext O0.2) (g := (mkF m 21 #[rv w_GREATER, .unset] [])) rfl (hb hby own_d1_21)
  obtain ⟨fs, hr, hrun, hended, hW, hsame⟩ := X3.leave (v := some (.ref w_LESS)) (fun h => by rw [Bd.returns] at h; cases h)
  refine ⟨_, _, pre0 _ ?_, hrun, hended, _, _, rfl, ?_, ⟨_, rfl⟩, hW, hsame.mono (by decide) (by decide)⟩
  · show Steps p.tables e below (s₁.setTop (mkF m 0 #[rv w_GREATER, .unset] [])) _
    refine XS.aloadN X0.here hx rfl (hb hby own_d1_0) rfl rfl ?_
    show Steps p.tables e below (s₁.setTop (mkF m 1 #[rv w_GREATER, .unset] [(.ref w_GREATER)])) _
    refine st1 _ ?_
    show Steps p.tables e below (T1.setTop (mkF m 4 #[rv w_GREATER, .unset] [(.ref w_LESS), (.ref w_GREATER)])) _
    refine Jvm.RoadKit.acmp (g := (mkF m 4 #[rv w_GREATER, .unset] [(.ref w_LESS), (.ref w_GREATER)])) X1 hx rfl rfl rfl (pc0 := 4) (pc' := 14) (same := false) rfl (hb hby own_d1_4) rfl (decide_eq_false fun q => (Ne.symm (Fld.ne U_LESS.2.2 U_GREATER.2.2 (by decide))) (Value.ref.inj q)) (by decide) (by decide) ?_
    show Steps p.tables e below (T1.setTop (mkF m 14 #[rv w_GREATER, .unset] [])) _
    refine XS.aloadN X1.here hx rfl (hb hby own_d1_14) rfl rfl ?_
    show Steps p.tables e below (T1.setTop (mkF m 15 #[rv w_GREATER, .unset] [(.ref w_GREATER)])) _
    refine st2 _ ?_
    show Steps p.tables e below (T2.setTop (mkF m 18 #[rv w_GREATER, .unset] [(.ref w_GREATER), (.ref w_GREATER)])) _
    refine Jvm.RoadKit.acmp (g := (mkF m 18 #[rv w_GREATER, .unset] [(.ref w_GREATER), (.ref w_GREATER)])) X2 hx rfl rfl rfl (pc0 := 18) (pc' := 21) (same := true) rfl (hb hby own_d1_18) rfl (decide_eq_true rfl) (by decide) (by decide) ?_
    show Steps p.tables e below (T2.setTop (mkF m 21 #[rv w_GREATER, .unset] [])) _
    refine st3 _ ?_
    show Steps p.tables e below (T3.setTop (mkF m 24 #[rv w_GREATER, .unset] [(.ref w_LESS)])) _
    refine XS.astoreN X3.here hx rfl (hb hby own_d1_24) rfl rfl (l' := #[rv w_GREATER, rv w_LESS]) rfl ?_
    show Steps p.tables e below (T3.setTop (mkF m 25 #[rv w_GREATER, rv w_LESS] [])) _
    refine XS.goto X3.here hx rfl (pc0 := 25) (pc' := 30) rfl (hb hby own_d1_25) (by decide) (by decide) ?_
    show Steps p.tables e below (T3.setTop (mkF m 30 #[rv w_GREATER, rv w_LESS] [])) _
    refine XS.aloadN X3.here hx rfl (hb hby own_d1_30) rfl rfl ?_
    show Steps p.tables e below (T3.setTop (mkF m 31 #[rv w_GREATER, rv w_LESS] [(.ref w_LESS)])) _
    jvm_step X3.here [X3.here.top, hx, (hb hby own_d1_31), X3.method', Bd.returns, Value.isRef, FieldType.isReference]
    first | (intro acts; rw [hr _ acts rfl rfl rfl]) | rw [hr _ _ rfl rfl rfl]
    exact Steps.refl _
  · show own_rev_GREATER_Q Z w_LESS w_EQUAL w_GREATER w_UNORDERED h0 n0 _ T3.heap _
    rw [e3]
    exact ⟨rfl, N0, rfl⟩
theorem own_rev_EQUAL_ef (m : MethodId) (w_EQUAL : Addr) : entryFrame m #[(.ref w_EQUAL)] 2 = mkF m 0 #[rv w_EQUAL, .unset] [] := by first | (simp [entryFrame, mkF, argsToLocals, Value.category]; done) | rfl
def own_rev_EQUAL_Q (Z : State) (w_LESS : Addr) (w_EQUAL : Addr) (w_GREATER : Addr) (w_UNORDERED : Addr) (h0 : Heap) (n0 : Nat) (v : Option Value) (h : Heap) (L : List Loc) : Prop := v = some (.ref w_EQUAL) ∧ Fr n0 L ∧ h = h0
set_option maxRecDepth 65536 in
set_option maxHeartbeats 40000000 in
theorem own_rev_EQUAL (l : Launch) (Z : State) (a0 : Array Value) (hw : ∀ d ∈ tables_1, d.before a0 Z = true) (ws : List Jvm.Cond) (w_LESS : Addr) (w_EQUAL : Addr) (w_GREATER : Addr) (w_UNORDERED : Addr) (h0 : Heap) (n0 : Nat) (O0 : Old Z n0 h0) (U_LESS : own_En Z Z.heap "com/example/bindweave/bindweave/expression/Order" "LESS" "Lcom/example/bindweave/bindweave/expression/Order;" w_LESS (0 : Int32)) (U_EQUAL : own_En Z Z.heap "com/example/bindweave/bindweave/expression/Order" "EQUAL" "Lcom/example/bindweave/bindweave/expression/Order;" w_EQUAL (1 : Int32)) (U_GREATER : own_En Z Z.heap "com/example/bindweave/bindweave/expression/Order" "GREATER" "Lcom/example/bindweave/bindweave/expression/Order;" w_GREATER (2 : Int32)) (U_UNORDERED : own_En Z Z.heap "com/example/bindweave/bindweave/expression/Order" "UNORDERED" "Lcom/example/bindweave/bindweave/expression/Order;" w_UNORDERED (3 : Int32)) :
    MetFree l (⟨"com/example/bindweave/bindweave/expression/Order", "reversed", "()Lcom/example/bindweave/bindweave/expression/Order;"⟩ : MethodName) (head1 (Jvm.Cond.code (⟨"com/example/bindweave/bindweave/expression/Order", "reversed", "()Lcom/example/bindweave/bindweave/expression/Order;"⟩ : MethodName) prog_50_method_5_code 2 (some (.object "com/example/bindweave/bindweave/expression/Order")) :: ws) ({ frames := 0, cells := 0, slots := 0, locals := 0 } : Room)) (fun ar U => ar = #[(.ref w_EQUAL)] ∧ Z.Warmed39 U.vm ∧ U.heap = h0) (fun _ _ _ _ _ => True) (fun _ U oc U' => ∃ v L, oc = .returned v ∧ own_rev_EQUAL_Q Z w_LESS w_EQUAL w_GREATER w_UNORDERED h0 n0 v U'.heap L ∧ FrameEnd U oc U' L ({ frames := 0, cells := 0, slots := 0, locals := 0 } : Room).cells ({ frames := 0, cells := 0, slots := 0, locals := 0 } : Room).slots) := by
  refine MetFree.of_bodySF (plainFor_of_name own_pn0) hisR ?_
  intro p e s m args below meth c s₁ Bd hml0 hP hK
  obtain ⟨rfl, hZ, hh⟩ := hP
  have hx := Bd.exec
  have hby := Bd.bytes
  have hml : c.maxLocals = 2 := hml0
  have hown : s.vm.findClass "com/example/bindweave/bindweave/expression/Order" = some m.cls := findClass_of_methodNamed Bd.named
  have hnm := (name_of_methodNamed Bd.named Bd.method).1
  have X0 : Stand p l e ({ frames := 0, cells := 0, slots := 0, locals := 0 } : Room) s m #[(.ref w_EQUAL)] below meth c s₁ [] 0 0 := Stand.of_body Bd
  have e0 : s₁.heap = h0 := by rw [← hh, Bd.state]; rfl
  have N0 := Fr.nil n0
  have pre0 : ∀ t, Steps p.tables e below (s₁.setTop (mkF m 0 #[rv w_EQUAL, .unset] [])) t → Steps p.tables e below (s₁.setTop (entryFrame m #[(.ref w_EQUAL)] 2)) t := fun t k => castTop (own_rev_EQUAL_ef m w_EQUAL) k
  obtain ⟨T1, X1, e1, st1⟩ := getS2 X0 hx hZ hown (host := "") (Or.inl (hw _ (own_m 10 rfl))) Via.refl e0 (U_LESS.1.ext O0.2) (g := (mkF m 1 #[rv w_EQUAL, .unset] [(.ref w_EQUAL)])) rfl (hb hby own_d1_1)
  obtain ⟨T2, X2, e2, st2⟩ := getS2 X1 hx hZ hown (host := "") (Or.inl (hw _ (own_m 11 rfl))) Via.refl e1 (U_GREATER.1.ext O0.2) (g := (mkF m 15 #[rv w_EQUAL, .unset] [(.ref w_EQUAL)])) rfl (hb hby own_d1_15)
  obtain ⟨fs, hr, hrun, hended, hW, hsame⟩ := X2.leave (v := some (.ref w_EQUAL)) (fun h => by rw [Bd.returns] at h; cases h)
  refine ⟨_, _, pre0 _ ?_, hrun, hended, _, _, rfl, ?_, ⟨_, rfl⟩, hW, hsame.mono (by decide) (by decide)⟩
  · show Steps p.tables e below (s₁.setTop (mkF m 0 #[rv w_EQUAL, .unset] [])) _
    refine XS.aloadN X0.here hx rfl (hb hby own_d1_0) rfl rfl ?_
    show Steps p.tables e below (s₁.setTop (mkF m 1 #[rv w_EQUAL, .unset] [(.ref w_EQUAL)])) _
    refine st1 _ ?_
    show Steps p.tables e below (T1.setTop (mkF m 4 #[rv w_EQUAL, .unset] [(.ref w_LESS), (.ref w_EQUAL)])) _
    refine Jvm.RoadKit.acmp (g := (mkF m 4 #[rv w_EQUAL, .unset] [(.ref w_LESS), (.ref w_EQUAL)])) X1 hx rfl rfl rfl (pc0 := 4) (pc' := 14) (same := false) rfl (hb hby own_d1_4) rfl (decide_eq_false fun q => (Ne.symm (Fld.ne U_LESS.2.2 U_EQUAL.2.2 (by decide))) (Value.ref.inj q)) (by decide) (by decide) ?_
    show Steps p.tables e below (T1.setTop (mkF m 14 #[rv w_EQUAL, .unset] [])) _
    refine XS.aloadN X1.here hx rfl (hb hby own_d1_14) rfl rfl ?_
    show Steps p.tables e below (T1.setTop (mkF m 15 #[rv w_EQUAL, .unset] [(.ref w_EQUAL)])) _
    refine st2 _ ?_
    show Steps p.tables e below (T2.setTop (mkF m 18 #[rv w_EQUAL, .unset] [(.ref w_GREATER), (.ref w_EQUAL)])) _
    refine Jvm.RoadKit.acmp (g := (mkF m 18 #[rv w_EQUAL, .unset] [(.ref w_GREATER), (.ref w_EQUAL)])) X2 hx rfl rfl rfl (pc0 := 18) (pc' := 28) (same := false) rfl (hb hby own_d1_18) rfl (decide_eq_false fun q => (Fld.ne U_EQUAL.2.2 U_GREATER.2.2 (by decide)) (Value.ref.inj q)) (by decide) (by decide) ?_
    show Steps p.tables e below (T2.setTop (mkF m 28 #[rv w_EQUAL, .unset] [])) _
    refine XS.aloadN X2.here hx rfl (hb hby own_d1_28) rfl rfl ?_
    show Steps p.tables e below (T2.setTop (mkF m 29 #[rv w_EQUAL, .unset] [(.ref w_EQUAL)])) _
    refine XS.astoreN X2.here hx rfl (hb hby own_d1_29) rfl rfl (l' := #[rv w_EQUAL, rv w_EQUAL]) rfl ?_
    show Steps p.tables e below (T2.setTop (mkF m 30 #[rv w_EQUAL, rv w_EQUAL] [])) _
    refine XS.aloadN X2.here hx rfl (hb hby own_d1_30) rfl rfl ?_
    show Steps p.tables e below (T2.setTop (mkF m 31 #[rv w_EQUAL, rv w_EQUAL] [(.ref w_EQUAL)])) _
    jvm_step X2.here [X2.here.top, hx, (hb hby own_d1_31), X2.method', Bd.returns, Value.isRef, FieldType.isReference]
    first | (intro acts; rw [hr _ acts rfl rfl rfl]) | rw [hr _ _ rfl rfl rfl]
    exact Steps.refl _
  · show own_rev_EQUAL_Q Z w_LESS w_EQUAL w_GREATER w_UNORDERED h0 n0 _ T2.heap _
    rw [e2]
    exact ⟨rfl, N0, rfl⟩
theorem own_rev_UNORDERED_ef (m : MethodId) (w_UNORDERED : Addr) : entryFrame m #[(.ref w_UNORDERED)] 2 = mkF m 0 #[rv w_UNORDERED, .unset] [] := by first | (simp [entryFrame, mkF, argsToLocals, Value.category]; done) | rfl
def own_rev_UNORDERED_Q (Z : State) (w_LESS : Addr) (w_EQUAL : Addr) (w_GREATER : Addr) (w_UNORDERED : Addr) (h0 : Heap) (n0 : Nat) (v : Option Value) (h : Heap) (L : List Loc) : Prop := v = some (.ref w_UNORDERED) ∧ Fr n0 L ∧ h = h0
set_option maxRecDepth 65536 in
set_option maxHeartbeats 40000000 in
theorem own_rev_UNORDERED (l : Launch) (Z : State) (a0 : Array Value) (hw : ∀ d ∈ tables_1, d.before a0 Z = true) (ws : List Jvm.Cond) (w_LESS : Addr) (w_EQUAL : Addr) (w_GREATER : Addr) (w_UNORDERED : Addr) (h0 : Heap) (n0 : Nat) (O0 : Old Z n0 h0) (U_LESS : own_En Z Z.heap "com/example/bindweave/bindweave/expression/Order" "LESS" "Lcom/example/bindweave/bindweave/expression/Order;" w_LESS (0 : Int32)) (U_EQUAL : own_En Z Z.heap "com/example/bindweave/bindweave/expression/Order" "EQUAL" "Lcom/example/bindweave/bindweave/expression/Order;" w_EQUAL (1 : Int32)) (U_GREATER : own_En Z Z.heap "com/example/bindweave/bindweave/expression/Order" "GREATER" "Lcom/example/bindweave/bindweave/expression/Order;" w_GREATER (2 : Int32)) (U_UNORDERED : own_En Z Z.heap "com/example/bindweave/bindweave/expression/Order" "UNORDERED" "Lcom/example/bindweave/bindweave/expression/Order;" w_UNORDERED (3 : Int32)) :
    MetFree l (⟨"com/example/bindweave/bindweave/expression/Order", "reversed", "()Lcom/example/bindweave/bindweave/expression/Order;"⟩ : MethodName) (head1 (Jvm.Cond.code (⟨"com/example/bindweave/bindweave/expression/Order", "reversed", "()Lcom/example/bindweave/bindweave/expression/Order;"⟩ : MethodName) prog_50_method_5_code 2 (some (.object "com/example/bindweave/bindweave/expression/Order")) :: ws) ({ frames := 0, cells := 0, slots := 0, locals := 0 } : Room)) (fun ar U => ar = #[(.ref w_UNORDERED)] ∧ Z.Warmed39 U.vm ∧ U.heap = h0) (fun _ _ _ _ _ => True) (fun _ U oc U' => ∃ v L, oc = .returned v ∧ own_rev_UNORDERED_Q Z w_LESS w_EQUAL w_GREATER w_UNORDERED h0 n0 v U'.heap L ∧ FrameEnd U oc U' L ({ frames := 0, cells := 0, slots := 0, locals := 0 } : Room).cells ({ frames := 0, cells := 0, slots := 0, locals := 0 } : Room).slots) := by
  refine MetFree.of_bodySF (plainFor_of_name own_pn0) hisR ?_
  intro p e s m args below meth c s₁ Bd hml0 hP hK
  obtain ⟨rfl, hZ, hh⟩ := hP
  have hx := Bd.exec
  have hby := Bd.bytes
  have hml : c.maxLocals = 2 := hml0
  have hown : s.vm.findClass "com/example/bindweave/bindweave/expression/Order" = some m.cls := findClass_of_methodNamed Bd.named
  have hnm := (name_of_methodNamed Bd.named Bd.method).1
  have X0 : Stand p l e ({ frames := 0, cells := 0, slots := 0, locals := 0 } : Room) s m #[(.ref w_UNORDERED)] below meth c s₁ [] 0 0 := Stand.of_body Bd
  have e0 : s₁.heap = h0 := by rw [← hh, Bd.state]; rfl
  have N0 := Fr.nil n0
  have pre0 : ∀ t, Steps p.tables e below (s₁.setTop (mkF m 0 #[rv w_UNORDERED, .unset] [])) t → Steps p.tables e below (s₁.setTop (entryFrame m #[(.ref w_UNORDERED)] 2)) t := fun t k => castTop (own_rev_UNORDERED_ef m w_UNORDERED) k
  obtain ⟨T1, X1, e1, st1⟩ := getS2 X0 hx hZ hown (host := "") (Or.inl (hw _ (own_m 10 rfl))) Via.refl e0 (U_LESS.1.ext O0.2) (g := (mkF m 1 #[rv w_UNORDERED, .unset] [(.ref w_UNORDERED)])) rfl (hb hby own_d1_1)
  obtain ⟨T2, X2, e2, st2⟩ := getS2 X1 hx hZ hown (host := "") (Or.inl (hw _ (own_m 11 rfl))) Via.refl e1 (U_GREATER.1.ext O0.2) (g := (mkF m 15 #[rv w_UNORDERED, .unset] [(.ref w_UNORDERED)])) rfl (hb hby own_d1_15)
  obtain ⟨fs, hr, hrun, hended, hW, hsame⟩ := X2.leave (v := some (.ref w_UNORDERED)) (fun h => by rw [Bd.returns] at h; cases h)
  refine ⟨_, _, pre0 _ ?_, hrun, hended, _, _, rfl, ?_, ⟨_, rfl⟩, hW, hsame.mono (by decide) (by decide)⟩
  · show Steps p.tables e below (s₁.setTop (mkF m 0 #[rv w_UNORDERED, .unset] [])) _
    refine XS.aloadN X0.here hx rfl (hb hby own_d1_0) rfl rfl ?_
    show Steps p.tables e below (s₁.setTop (mkF m 1 #[rv w_UNORDERED, .unset] [(.ref w_UNORDERED)])) _
    refine st1 _ ?_
    show Steps p.tables e below (T1.setTop (mkF m 4 #[rv w_UNORDERED, .unset] [(.ref w_LESS), (.ref w_UNORDERED)])) _
    refine Jvm.RoadKit.acmp (g := (mkF m 4 #[rv w_UNORDERED, .unset] [(.ref w_LESS), (.ref w_UNORDERED)])) X1 hx rfl rfl rfl (pc0 := 4) (pc' := 14) (same := false) rfl (hb hby own_d1_4) rfl (decide_eq_false fun q => (Ne.symm (Fld.ne U_LESS.2.2 U_UNORDERED.2.2 (by decide))) (Value.ref.inj q)) (by decide) (by decide) ?_
    show Steps p.tables e below (T1.setTop (mkF m 14 #[rv w_UNORDERED, .unset] [])) _
    refine XS.aloadN X1.here hx rfl (hb hby own_d1_14) rfl rfl ?_
    show Steps p.tables e below (T1.setTop (mkF m 15 #[rv w_UNORDERED, .unset] [(.ref w_UNORDERED)])) _
    refine st2 _ ?_
    show Steps p.tables e below (T2.setTop (mkF m 18 #[rv w_UNORDERED, .unset] [(.ref w_GREATER), (.ref w_UNORDERED)])) _
    refine Jvm.RoadKit.acmp (g := (mkF m 18 #[rv w_UNORDERED, .unset] [(.ref w_GREATER), (.ref w_UNORDERED)])) X2 hx rfl rfl rfl (pc0 := 18) (pc' := 28) (same := false) rfl (hb hby own_d1_18) rfl (decide_eq_false fun q => (Ne.symm (Fld.ne U_GREATER.2.2 U_UNORDERED.2.2 (by decide))) (Value.ref.inj q)) (by decide) (by decide) ?_
    show Steps p.tables e below (T2.setTop (mkF m 28 #[rv w_UNORDERED, .unset] [])) _
    refine XS.aloadN X2.here hx rfl (hb hby own_d1_28) rfl rfl ?_
    show Steps p.tables e below (T2.setTop (mkF m 29 #[rv w_UNORDERED, .unset] [(.ref w_UNORDERED)])) _
    refine XS.astoreN X2.here hx rfl (hb hby own_d1_29) rfl rfl (l' := #[rv w_UNORDERED, rv w_UNORDERED]) rfl ?_
    show Steps p.tables e below (T2.setTop (mkF m 30 #[rv w_UNORDERED, rv w_UNORDERED] [])) _
    refine XS.aloadN X2.here hx rfl (hb hby own_d1_30) rfl rfl ?_
    show Steps p.tables e below (T2.setTop (mkF m 31 #[rv w_UNORDERED, rv w_UNORDERED] [(.ref w_UNORDERED)])) _
    jvm_step X2.here [X2.here.top, hx, (hb hby own_d1_31), X2.method', Bd.returns, Value.isRef, FieldType.isReference]
    first | (intro acts; rw [hr _ acts rfl rfl rfl]) | rw [hr _ _ rfl rfl rfl]
    exact Steps.refl _
  · show own_rev_UNORDERED_Q Z w_LESS w_EQUAL w_GREATER w_UNORDERED h0 n0 _ T2.heap _
    rw [e2]
    exact ⟨rfl, N0, rfl⟩
theorem own_sg_L_ef (m : MethodId) (x : Int32) (y : Int32) : entryFrame m #[(.int x), (.int y)] 2 = mkF m 0 #[iv x, iv y] [] := by first | (simp [entryFrame, mkF, argsToLocals, Value.category]; done) | rfl
def own_sg_L_Q (Z : State) (w_LESS : Addr) (w_EQUAL : Addr) (w_GREATER : Addr) (w_UNORDERED : Addr) (x : Int32) (y : Int32) (h0 : Heap) (n0 : Nat) (v : Option Value) (h : Heap) (L : List Loc) : Prop := v = some (.int (-1)) ∧ Fr n0 L ∧ h = h0
set_option maxRecDepth 65536 in
set_option maxHeartbeats 40000000 in
theorem own_sg_L (l : Launch) (Z : State) (a0 : Array Value) (hw : ∀ d ∈ tables_1, d.before a0 Z = true) (ws : List Jvm.Cond) (w_LESS : Addr) (w_EQUAL : Addr) (w_GREATER : Addr) (w_UNORDERED : Addr) (x : Int32) (y : Int32) (h0 : Heap) (n0 : Nat) (O0 : Old Z n0 h0) (U_LESS : own_En Z Z.heap "com/example/bindweave/bindweave/expression/Order" "LESS" "Lcom/example/bindweave/bindweave/expression/Order;" w_LESS (0 : Int32)) (U_EQUAL : own_En Z Z.heap "com/example/bindweave/bindweave/expression/Order" "EQUAL" "Lcom/example/bindweave/bindweave/expression/Order;" w_EQUAL (1 : Int32)) (U_GREATER : own_En Z Z.heap "com/example/bindweave/bindweave/expression/Order" "GREATER" "Lcom/example/bindweave/bindweave/expression/Order;" w_GREATER (2 : Int32)) (U_UNORDERED : own_En Z Z.heap "com/example/bindweave/bindweave/expression/Order" "UNORDERED" "Lcom/example/bindweave/bindweave/expression/Order;" w_UNORDERED (3 : Int32)) (s1 : x < y) :
    MetFree l (⟨"com/example/bindweave/bindweave/expression/OrderReversedPinLaw", "sign", "(II)I"⟩ : MethodName) (head1 (Jvm.Cond.code (⟨"com/example/bindweave/bindweave/expression/OrderReversedPinLaw", "sign", "(II)I"⟩ : MethodName) method_3_code 2 (some .int) :: ws) ({ frames := 0, cells := 0, slots := 0, locals := 0 } : Room)) (fun ar U => ar = #[(.int x), (.int y)] ∧ Z.Warmed39 U.vm ∧ U.heap = h0) (fun _ _ _ _ _ => True) (fun _ U oc U' => ∃ v L, oc = .returned v ∧ own_sg_L_Q Z w_LESS w_EQUAL w_GREATER w_UNORDERED x y h0 n0 v U'.heap L ∧ FrameEnd U oc U' L ({ frames := 0, cells := 0, slots := 0, locals := 0 } : Room).cells ({ frames := 0, cells := 0, slots := 0, locals := 0 } : Room).slots) := by
  refine MetFree.of_bodySF (plainFor_of_name own_pn1) hisR ?_
  intro p e s m args below meth c s₁ Bd hml0 hP hK
  obtain ⟨rfl, hZ, hh⟩ := hP
  have hx := Bd.exec
  have hby := Bd.bytes
  have hml : c.maxLocals = 2 := hml0
  have hown : s.vm.findClass "com/example/bindweave/bindweave/expression/OrderReversedPinLaw" = some m.cls := findClass_of_methodNamed Bd.named
  have hnm := (name_of_methodNamed Bd.named Bd.method).1
  have X0 : Stand p l e ({ frames := 0, cells := 0, slots := 0, locals := 0 } : Room) s m #[(.int x), (.int y)] below meth c s₁ [] 0 0 := Stand.of_body Bd
  have e0 : s₁.heap = h0 := by rw [← hh, Bd.state]; rfl
  have N0 := Fr.nil n0
  have pre0 : ∀ t, Steps p.tables e below (s₁.setTop (mkF m 0 #[iv x, iv y] [])) t → Steps p.tables e below (s₁.setTop (entryFrame m #[(.int x), (.int y)] 2)) t := fun t k => castTop (own_sg_L_ef m x y) k
  obtain ⟨fs, hr, hrun, hended, hW, hsame⟩ := X0.leave (v := some (.int (-1))) (fun h => by rw [Bd.returns] at h; cases h)
  refine ⟨_, _, pre0 _ ?_, hrun, hended, _, _, rfl, ?_, ⟨_, rfl⟩, hW, hsame.mono (by decide) (by decide)⟩
  · show Steps p.tables e below (s₁.setTop (mkF m 0 #[iv x, iv y] [])) _
    refine XS.iloadN X0.here hx rfl (hb hby own_d2_0) rfl ?_
    show Steps p.tables e below (s₁.setTop (mkF m 1 #[iv x, iv y] [(.int x)])) _
    refine XS.iloadN X0.here hx rfl (hb hby own_d2_1) rfl ?_
    show Steps p.tables e below (s₁.setTop (mkF m 2 #[iv x, iv y] [(.int y), (.int x)])) _
    refine XS.icmpNo X0.here hx rfl (hb hby own_d2_2) rfl (tlt s1).2.1 ?_
    show Steps p.tables e below (s₁.setTop (mkF m 5 #[iv x, iv y] [])) _
    refine XS.iconst X0.here hx rfl (hb hby own_d2_5) ?_
    show Steps p.tables e below (s₁.setTop (mkF m 6 #[iv x, iv y] [(.int (-1))])) _
    exact retI X0 hx Bd.returns (hb hby own_d2_6) hr
  · show own_sg_L_Q Z w_LESS w_EQUAL w_GREATER w_UNORDERED x y h0 n0 _ s₁.heap _
    rw [e0]
    exact ⟨rfl, N0, rfl⟩
theorem own_sg_E_ef (m : MethodId) (x : Int32) (y : Int32) : entryFrame m #[(.int x), (.int y)] 2 = mkF m 0 #[iv x, iv y] [] := by first | (simp [entryFrame, mkF, argsToLocals, Value.category]; done) | rfl
def own_sg_E_Q (Z : State) (w_LESS : Addr) (w_EQUAL : Addr) (w_GREATER : Addr) (w_UNORDERED : Addr) (x : Int32) (y : Int32) (h0 : Heap) (n0 : Nat) (v : Option Value) (h : Heap) (L : List Loc) : Prop := v = some (.int 0) ∧ Fr n0 L ∧ h = h0
set_option maxRecDepth 65536 in
set_option maxHeartbeats 40000000 in
theorem own_sg_E (l : Launch) (Z : State) (a0 : Array Value) (hw : ∀ d ∈ tables_1, d.before a0 Z = true) (ws : List Jvm.Cond) (w_LESS : Addr) (w_EQUAL : Addr) (w_GREATER : Addr) (w_UNORDERED : Addr) (x : Int32) (y : Int32) (h0 : Heap) (n0 : Nat) (O0 : Old Z n0 h0) (U_LESS : own_En Z Z.heap "com/example/bindweave/bindweave/expression/Order" "LESS" "Lcom/example/bindweave/bindweave/expression/Order;" w_LESS (0 : Int32)) (U_EQUAL : own_En Z Z.heap "com/example/bindweave/bindweave/expression/Order" "EQUAL" "Lcom/example/bindweave/bindweave/expression/Order;" w_EQUAL (1 : Int32)) (U_GREATER : own_En Z Z.heap "com/example/bindweave/bindweave/expression/Order" "GREATER" "Lcom/example/bindweave/bindweave/expression/Order;" w_GREATER (2 : Int32)) (U_UNORDERED : own_En Z Z.heap "com/example/bindweave/bindweave/expression/Order" "UNORDERED" "Lcom/example/bindweave/bindweave/expression/Order;" w_UNORDERED (3 : Int32)) (s1 : ¬ x < y) (s2 : ¬ y < x) :
    MetFree l (⟨"com/example/bindweave/bindweave/expression/OrderReversedPinLaw", "sign", "(II)I"⟩ : MethodName) (head1 (Jvm.Cond.code (⟨"com/example/bindweave/bindweave/expression/OrderReversedPinLaw", "sign", "(II)I"⟩ : MethodName) method_3_code 2 (some .int) :: ws) ({ frames := 0, cells := 0, slots := 0, locals := 0 } : Room)) (fun ar U => ar = #[(.int x), (.int y)] ∧ Z.Warmed39 U.vm ∧ U.heap = h0) (fun _ _ _ _ _ => True) (fun _ U oc U' => ∃ v L, oc = .returned v ∧ own_sg_E_Q Z w_LESS w_EQUAL w_GREATER w_UNORDERED x y h0 n0 v U'.heap L ∧ FrameEnd U oc U' L ({ frames := 0, cells := 0, slots := 0, locals := 0 } : Room).cells ({ frames := 0, cells := 0, slots := 0, locals := 0 } : Room).slots) := by
  refine MetFree.of_bodySF (plainFor_of_name own_pn1) hisR ?_
  intro p e s m args below meth c s₁ Bd hml0 hP hK
  obtain ⟨rfl, hZ, hh⟩ := hP
  have hx := Bd.exec
  have hby := Bd.bytes
  have hml : c.maxLocals = 2 := hml0
  have hown : s.vm.findClass "com/example/bindweave/bindweave/expression/OrderReversedPinLaw" = some m.cls := findClass_of_methodNamed Bd.named
  have hnm := (name_of_methodNamed Bd.named Bd.method).1
  have X0 : Stand p l e ({ frames := 0, cells := 0, slots := 0, locals := 0 } : Room) s m #[(.int x), (.int y)] below meth c s₁ [] 0 0 := Stand.of_body Bd
  have e0 : s₁.heap = h0 := by rw [← hh, Bd.state]; rfl
  have N0 := Fr.nil n0
  have pre0 : ∀ t, Steps p.tables e below (s₁.setTop (mkF m 0 #[iv x, iv y] [])) t → Steps p.tables e below (s₁.setTop (entryFrame m #[(.int x), (.int y)] 2)) t := fun t k => castTop (own_sg_E_ef m x y) k
  obtain ⟨fs, hr, hrun, hended, hW, hsame⟩ := X0.leave (v := some (.int 0)) (fun h => by rw [Bd.returns] at h; cases h)
  refine ⟨_, _, pre0 _ ?_, hrun, hended, _, _, rfl, ?_, ⟨_, rfl⟩, hW, hsame.mono (by decide) (by decide)⟩
  · show Steps p.tables e below (s₁.setTop (mkF m 0 #[iv x, iv y] [])) _
    refine XS.iloadN X0.here hx rfl (hb hby own_d2_0) rfl ?_
    show Steps p.tables e below (s₁.setTop (mkF m 1 #[iv x, iv y] [(.int x)])) _
    refine XS.iloadN X0.here hx rfl (hb hby own_d2_1) rfl ?_
    show Steps p.tables e below (s₁.setTop (mkF m 2 #[iv x, iv y] [(.int y), (.int x)])) _
    refine XS.icmpYes X0.here hx rfl (pc0 := 2) (pc' := 7) rfl (hb hby own_d2_2) rfl (flt s1).2.1 (by decide) (by decide) ?_
    show Steps p.tables e below (s₁.setTop (mkF m 7 #[iv x, iv y] [])) _
    refine XS.iloadN X0.here hx rfl (hb hby own_d2_7) rfl ?_
    show Steps p.tables e below (s₁.setTop (mkF m 8 #[iv x, iv y] [(.int x)])) _
    refine XS.iloadN X0.here hx rfl (hb hby own_d2_8) rfl ?_
    show Steps p.tables e below (s₁.setTop (mkF m 9 #[iv x, iv y] [(.int y), (.int x)])) _
    refine XS.icmpYes X0.here hx rfl (pc0 := 9) (pc' := 14) rfl (hb hby own_d2_9) rfl (flt s2).2.2.2 (by decide) (by decide) ?_
    show Steps p.tables e below (s₁.setTop (mkF m 14 #[iv x, iv y] [])) _
    refine XS.iconst X0.here hx rfl (hb hby own_d2_14) ?_
    show Steps p.tables e below (s₁.setTop (mkF m 15 #[iv x, iv y] [(.int 0)])) _
    exact retI X0 hx Bd.returns (hb hby own_d2_15) hr
  · show own_sg_E_Q Z w_LESS w_EQUAL w_GREATER w_UNORDERED x y h0 n0 _ s₁.heap _
    rw [e0]
    exact ⟨rfl, N0, rfl⟩
theorem own_sg_G_ef (m : MethodId) (x : Int32) (y : Int32) : entryFrame m #[(.int x), (.int y)] 2 = mkF m 0 #[iv x, iv y] [] := by first | (simp [entryFrame, mkF, argsToLocals, Value.category]; done) | rfl
def own_sg_G_Q (Z : State) (w_LESS : Addr) (w_EQUAL : Addr) (w_GREATER : Addr) (w_UNORDERED : Addr) (x : Int32) (y : Int32) (h0 : Heap) (n0 : Nat) (v : Option Value) (h : Heap) (L : List Loc) : Prop := v = some (.int 1) ∧ Fr n0 L ∧ h = h0
set_option maxRecDepth 65536 in
set_option maxHeartbeats 40000000 in
theorem own_sg_G (l : Launch) (Z : State) (a0 : Array Value) (hw : ∀ d ∈ tables_1, d.before a0 Z = true) (ws : List Jvm.Cond) (w_LESS : Addr) (w_EQUAL : Addr) (w_GREATER : Addr) (w_UNORDERED : Addr) (x : Int32) (y : Int32) (h0 : Heap) (n0 : Nat) (O0 : Old Z n0 h0) (U_LESS : own_En Z Z.heap "com/example/bindweave/bindweave/expression/Order" "LESS" "Lcom/example/bindweave/bindweave/expression/Order;" w_LESS (0 : Int32)) (U_EQUAL : own_En Z Z.heap "com/example/bindweave/bindweave/expression/Order" "EQUAL" "Lcom/example/bindweave/bindweave/expression/Order;" w_EQUAL (1 : Int32)) (U_GREATER : own_En Z Z.heap "com/example/bindweave/bindweave/expression/Order" "GREATER" "Lcom/example/bindweave/bindweave/expression/Order;" w_GREATER (2 : Int32)) (U_UNORDERED : own_En Z Z.heap "com/example/bindweave/bindweave/expression/Order" "UNORDERED" "Lcom/example/bindweave/bindweave/expression/Order;" w_UNORDERED (3 : Int32)) (s1 : ¬ x < y) (s2 : y < x) :
    MetFree l (⟨"com/example/bindweave/bindweave/expression/OrderReversedPinLaw", "sign", "(II)I"⟩ : MethodName) (head1 (Jvm.Cond.code (⟨"com/example/bindweave/bindweave/expression/OrderReversedPinLaw", "sign", "(II)I"⟩ : MethodName) method_3_code 2 (some .int) :: ws) ({ frames := 0, cells := 0, slots := 0, locals := 0 } : Room)) (fun ar U => ar = #[(.int x), (.int y)] ∧ Z.Warmed39 U.vm ∧ U.heap = h0) (fun _ _ _ _ _ => True) (fun _ U oc U' => ∃ v L, oc = .returned v ∧ own_sg_G_Q Z w_LESS w_EQUAL w_GREATER w_UNORDERED x y h0 n0 v U'.heap L ∧ FrameEnd U oc U' L ({ frames := 0, cells := 0, slots := 0, locals := 0 } : Room).cells ({ frames := 0, cells := 0, slots := 0, locals := 0 } : Room).slots) := by
  refine MetFree.of_bodySF (plainFor_of_name own_pn1) hisR ?_
  intro p e s m args below meth c s₁ Bd hml0 hP hK
  obtain ⟨rfl, hZ, hh⟩ := hP
  have hx := Bd.exec
  have hby := Bd.bytes
  have hml : c.maxLocals = 2 := hml0
  have hown : s.vm.findClass "com/example/bindweave/bindweave/expression/OrderReversedPinLaw" = some m.cls := findClass_of_methodNamed Bd.named
  have hnm := (name_of_methodNamed Bd.named Bd.method).1
  have X0 : Stand p l e ({ frames := 0, cells := 0, slots := 0, locals := 0 } : Room) s m #[(.int x), (.int y)] below meth c s₁ [] 0 0 := Stand.of_body Bd
  have e0 : s₁.heap = h0 := by rw [← hh, Bd.state]; rfl
  have N0 := Fr.nil n0
  have pre0 : ∀ t, Steps p.tables e below (s₁.setTop (mkF m 0 #[iv x, iv y] [])) t → Steps p.tables e below (s₁.setTop (entryFrame m #[(.int x), (.int y)] 2)) t := fun t k => castTop (own_sg_G_ef m x y) k
  obtain ⟨fs, hr, hrun, hended, hW, hsame⟩ := X0.leave (v := some (.int 1)) (fun h => by rw [Bd.returns] at h; cases h)
  refine ⟨_, _, pre0 _ ?_, hrun, hended, _, _, rfl, ?_, ⟨_, rfl⟩, hW, hsame.mono (by decide) (by decide)⟩
  · show Steps p.tables e below (s₁.setTop (mkF m 0 #[iv x, iv y] [])) _
    refine XS.iloadN X0.here hx rfl (hb hby own_d2_0) rfl ?_
    show Steps p.tables e below (s₁.setTop (mkF m 1 #[iv x, iv y] [(.int x)])) _
    refine XS.iloadN X0.here hx rfl (hb hby own_d2_1) rfl ?_
    show Steps p.tables e below (s₁.setTop (mkF m 2 #[iv x, iv y] [(.int y), (.int x)])) _
    refine XS.icmpYes X0.here hx rfl (pc0 := 2) (pc' := 7) rfl (hb hby own_d2_2) rfl (flt s1).2.1 (by decide) (by decide) ?_
    show Steps p.tables e below (s₁.setTop (mkF m 7 #[iv x, iv y] [])) _
    refine XS.iloadN X0.here hx rfl (hb hby own_d2_7) rfl ?_
    show Steps p.tables e below (s₁.setTop (mkF m 8 #[iv x, iv y] [(.int x)])) _
    refine XS.iloadN X0.here hx rfl (hb hby own_d2_8) rfl ?_
    show Steps p.tables e below (s₁.setTop (mkF m 9 #[iv x, iv y] [(.int y), (.int x)])) _
    refine XS.icmpNo X0.here hx rfl (hb hby own_d2_9) rfl (tlt s2).2.2.2 ?_
    show Steps p.tables e below (s₁.setTop (mkF m 12 #[iv x, iv y] [])) _
    refine XS.iconst X0.here hx rfl (hb hby own_d2_12) ?_
    show Steps p.tables e below (s₁.setTop (mkF m 13 #[iv x, iv y] [(.int 1)])) _
    exact retI X0 hx Bd.returns (hb hby own_d2_13) hr
  · show own_sg_G_Q Z w_LESS w_EQUAL w_GREATER w_UNORDERED x y h0 n0 _ s₁.heap _
    rw [e0]
    exact ⟨rfl, N0, rfl⟩
theorem own_law0_ef (m : MethodId) (p0 : Int32) (p1 : Int32) (p2 : Int32) : entryFrame m #[(.int p0), (.int p1), (.int p2)] maxLocals = mkF m 0 #[iv p0, iv p1, iv p2, .unset, .unset, .unset, .unset, .unset, .unset, .unset, .unset, .unset, .unset] [] := by first | (simp [entryFrame, mkF, argsToLocals, Value.category, maxLocals]; done) | rfl
def own_law0_Q (Z : State) (w_LESS : Addr) (w_EQUAL : Addr) (w_GREATER : Addr) (w_UNORDERED : Addr) (p0 : Int32) (p1 : Int32) (p2 : Int32) (h0 : Heap) (n0 : Nat) (v : Option Value) (h : Heap) (L : List Loc) : Prop := v = some (.int 1) ∧ Fr n0 L ∧ True
set_option maxRecDepth 65536 in
set_option maxHeartbeats 40000000 in
theorem own_law0 (l : Launch) (Z : State) (a0 : Array Value) (hw : ∀ d ∈ tables_1, d.before a0 Z = true) (ws : List Jvm.Cond) (w_LESS : Addr) (w_EQUAL : Addr) (w_GREATER : Addr) (w_UNORDERED : Addr) (p0 : Int32) (p1 : Int32) (p2 : Int32) (h0 : Heap) (n0 : Nat) (O0 : Old Z n0 h0) (U_LESS : own_En Z Z.heap "com/example/bindweave/bindweave/expression/Order" "LESS" "Lcom/example/bindweave/bindweave/expression/Order;" w_LESS (0 : Int32)) (U_EQUAL : own_En Z Z.heap "com/example/bindweave/bindweave/expression/Order" "EQUAL" "Lcom/example/bindweave/bindweave/expression/Order;" w_EQUAL (1 : Int32)) (U_GREATER : own_En Z Z.heap "com/example/bindweave/bindweave/expression/Order" "GREATER" "Lcom/example/bindweave/bindweave/expression/Order;" w_GREATER (2 : Int32)) (U_UNORDERED : own_En Z Z.heap "com/example/bindweave/bindweave/expression/Order" "UNORDERED" "Lcom/example/bindweave/bindweave/expression/Order;" w_UNORDERED (3 : Int32)) (hk : (p0 &&& (3 : Int32)) = (0 : Int32) ∧ p1 < p2) :
    MetFree l x (head1 (Jvm.Cond.code x code maxLocals ret :: ws) room_1) (fun ar U => ar = #[(.int p0), (.int p1), (.int p2)] ∧ Z.Warmed39 U.vm ∧ U.heap = h0) (fun _ _ _ _ _ => True) (fun _ U oc U' => ∃ v L, oc = .returned v ∧ own_law0_Q Z w_LESS w_EQUAL w_GREATER w_UNORDERED p0 p1 p2 h0 n0 v U'.heap L ∧ FrameEnd U oc U' L 0 0) := by
  refine MetFree.of_bodySF (plainFor_of_name own_pn1) hisR ?_
  intro p e s m args below meth c s₁ Bd hml0 hP hK
  obtain ⟨rfl, hZ, hh⟩ := hP
  have hx := Bd.exec
  have hby := Bd.bytes
  have hml : c.maxLocals = 13 := hml0
  have hown : s.vm.findClass "com/example/bindweave/bindweave/expression/OrderReversedPinLaw" = some m.cls := findClass_of_methodNamed Bd.named
  have hnm := (name_of_methodNamed Bd.named Bd.method).1
  have X0 : Stand p l e room_1 s m #[(.int p0), (.int p1), (.int p2)] below meth c s₁ [] 0 0 := Stand.of_body Bd
  have e0 : s₁.heap = h0 := by rw [← hh, Bd.state]; rfl
  have N0 := Fr.nil n0
  have pre0 : ∀ t, Steps p.tables e below (s₁.setTop (mkF m 0 #[iv p0, iv p1, iv p2, .unset, .unset, .unset, .unset, .unset, .unset, .unset, .unset, .unset, .unset] [])) t → Steps p.tables e below (s₁.setTop (entryFrame m #[(.int p0), (.int p1), (.int p2)] maxLocals)) t := fun t k => castTop (own_law0_ef m p0 p1 p2) k
  obtain ⟨T1, X1, e1, st1⟩ := getS2 X0 hx hZ hown (host := "") (Or.inl (hw _ (own_m 0 rfl))) Via.refl e0 (U_LESS.1.ext O0.2) (g := (mkF m 8 #[iv p0, iv p1, iv p2, iv 0, .unset, .unset, .unset, .unset, .unset, .unset, .unset, .unset, .unset] [])) rfl (hb hby at_8)
  obtain ⟨T2, X2, e2, st2⟩ := getS2 X1 hx hZ hown (host := "") (Or.inl (hw _ (own_m 3 rfl))) Via.refl e1 (U_GREATER.1.ext O0.2) (g := (mkF m 13 #[iv p0, iv p1, iv p2, iv 0, rv w_LESS, .unset, .unset, .unset, .unset, .unset, .unset, .unset, .unset] [])) rfl (hb hby at_13)
  obtain ⟨cq3, kq3, q3a, q3b, q3c⟩ := isOf hZ e2 (U_LESS.2.1.ext O0.2)
  obtain ⟨_, _, ⟨T3, L3, k3, n3⟩, -, X3, ⟨Lc3, hQ3, l3, y3, z3⟩, st3⟩ := X2.virtualBack hx (y := (⟨"com/example/bindweave/bindweave/expression/Order", "reversed", "()Lcom/example/bindweave/bindweave/expression/Order;"⟩ : MethodName)) (z := (⟨"com/example/bindweave/bindweave/expression/Order", "reversed", "()Lcom/example/bindweave/bindweave/expression/Order;"⟩ : MethodName)) hown (mvT hZ (hw _ (own_m 5 rfl))) (mvT hZ (hw _ (own_m 6 rfl))) (notFace_of_selects (args := #[]) (mvT hZ (hw _ (own_m 8 rfl)))) (mvT hZ (hw _ (own_m 8 rfl))) (mvT hZ (hw _ (own_m 7 rfl))) (by decide) (backOf (W := 0) (own_rev_LESS l Z a0 hw [] w_LESS w_EQUAL w_GREATER w_UNORDERED  h0 n0 O0 U_LESS U_EQUAL U_GREATER U_UNORDERED ) hZ (hw _ (own_m 9 rfl)) (hw _ (own_m 1 rfl)) (by decide) (by decide)) q3a q3c (g := (mkF m 69 #[iv p0, iv p1, iv p2, iv 0, rv w_LESS, rv w_GREATER, .unset, .unset, .unset, .unset, .unset, .unset, .unset] [(.ref w_LESS)])) rfl (by rw [hml]; rfl) (Steps.refl _) (argsL := []) (rest := []) (lenOf own_pd0 rfl) rfl (by show 2 * 0 + _ ≤ _; exact Nat.le_of_eq rfl) (hb hby at_69) (fun _ _ => ⟨rfl, e2, (by decide : 0 + 0 ≤ _), (by decide : 0 + 0 ≤ _)⟩)
  dsimp only [Pt.U, Pt.locs, Pt.cells, Pt.slots] at X3 l3 y3 z3 st3 hQ3
  subst l3 y3 z3
  obtain ⟨rfl, N3q, e3⟩ := hQ3
  have N3 := Fr.app N0 N3q
  obtain ⟨cq4, kq4, q4a, q4b, q4c⟩ := isOf hZ e3 (U_GREATER.2.1.ext O0.2)
  obtain ⟨_, _, ⟨T4, L4, k4, n4⟩, -, X4, ⟨Lc4, hQ4, l4, y4, z4⟩, st4⟩ := X3.virtualBack hx (y := (⟨"com/example/bindweave/bindweave/expression/Order", "reversed", "()Lcom/example/bindweave/bindweave/expression/Order;"⟩ : MethodName)) (z := (⟨"com/example/bindweave/bindweave/expression/Order", "reversed", "()Lcom/example/bindweave/bindweave/expression/Order;"⟩ : MethodName)) hown (mvT hZ (hw _ (own_m 5 rfl))) (mvT hZ (hw _ (own_m 6 rfl))) (notFace_of_selects (args := #[]) (mvT hZ (hw _ (own_m 8 rfl)))) (mvT hZ (hw _ (own_m 8 rfl))) (mvT hZ (hw _ (own_m 7 rfl))) (by decide) (backOf (W := 0) (own_rev_GREATER l Z a0 hw [] w_LESS w_EQUAL w_GREATER w_UNORDERED  h0 n0 O0 U_LESS U_EQUAL U_GREATER U_UNORDERED ) hZ (hw _ (own_m 9 rfl)) (hw _ (own_m 1 rfl)) (by decide) (by decide)) q4a q4c (g := (mkF m 95 #[iv p0, iv p1, iv p2, iv 0, rv w_LESS, rv w_GREATER, rv w_GREATER, iv 1, .unset, .unset, .unset, .unset, .unset] [(.ref w_GREATER)])) rfl (by rw [hml]; rfl) (Steps.refl _) (argsL := []) (rest := []) (lenOf own_pd0 rfl) rfl (by show 2 * 0 + _ ≤ _; exact Nat.le_of_eq rfl) (hb hby at_95) (fun _ _ => ⟨rfl, e3, (by decide : 0 + 0 ≤ _), (by decide : 0 + 0 ≤ _)⟩)
  dsimp only [Pt.U, Pt.locs, Pt.cells, Pt.slots] at X4 l4 y4 z4 st4 hQ4
  subst l4 y4 z4
  obtain ⟨rfl, N4q, e4⟩ := hQ4
  have N4 := Fr.app N3 N4q
  obtain ⟨_, _, ⟨T5, L5, k5, n5⟩, -, X5, ⟨Lc5, hQ5, l5, y5, z5⟩, st5⟩ := Jvm.LawKit.callS X4 hx (y := (⟨"com/example/bindweave/bindweave/expression/OrderReversedPinLaw", "sign", "(II)I"⟩ : MethodName)) hown (mvT hZ (hw _ (own_m 12 rfl))) (mvT hZ (hw _ (own_m 13 rfl))) (mvT hZ (hw _ (own_m 14 rfl))) (mvT hZ (hw _ (own_m 15 rfl))) (by decide) (backOf (W := 0) (own_sg_L l Z a0 hw [] w_LESS w_EQUAL w_GREATER w_UNORDERED p1 p2 h0 n0 O0 U_LESS U_EQUAL U_GREATER U_UNORDERED hk.2) hZ (hw _ (own_m 15 rfl)) (hw _ (own_m 14 rfl)) (by decide) (by decide)) (g := (mkF m 112 #[iv p0, iv p1, iv p2, iv 0, rv w_LESS, rv w_GREATER, rv w_GREATER, iv 1, iv 1, .unset, .unset, .unset, .unset] [(.int p2), (.int p1)])) rfl (by rw [hml]; rfl) (argsL := [(.int p1), (.int p2)]) (rest := []) (lenOf own_pd1 rfl) rfl (by show 2 * 0 + _ ≤ _; exact Nat.le_of_eq rfl) (hb hby at_112) (fun _ _ => ⟨rfl, e4, (by decide : 0 + 0 ≤ _), (by decide : 0 + 0 ≤ _)⟩)
  dsimp only [Pt.U, Pt.locs, Pt.cells, Pt.slots] at X5 l5 y5 z5 st5 hQ5
  subst l5 y5 z5
  obtain ⟨rfl, N5q, e5⟩ := hQ5
  have N5 := Fr.app N4 N5q
  obtain ⟨_, _, ⟨T6, L6, k6, n6⟩, -, X6, ⟨Lc6, hQ6, l6, y6, z6⟩, st6⟩ := Jvm.LawKit.callS X5 hx (y := (⟨"com/example/bindweave/bindweave/expression/Order", "of", "(I)Lcom/example/bindweave/bindweave/expression/Order;"⟩ : MethodName)) hown (mvT hZ (hw _ (own_m 16 rfl))) (mvT hZ (hw _ (own_m 17 rfl))) (mvT hZ (hw _ (own_m 1 rfl))) (mvT hZ (hw _ (own_m 18 rfl))) (by decide) (backOf (W := 0) (own_of_L l Z a0 hw [] w_LESS w_EQUAL w_GREATER w_UNORDERED (-1 : Int32) h0 n0 O0 U_LESS U_EQUAL U_GREATER U_UNORDERED (by decide)) hZ (hw _ (own_m 18 rfl)) (hw _ (own_m 1 rfl)) (by decide) (by decide)) (g := (mkF m 115 #[iv p0, iv p1, iv p2, iv 0, rv w_LESS, rv w_GREATER, rv w_GREATER, iv 1, iv 1, .unset, .unset, .unset, .unset] [(.int (-1))])) rfl (by rw [hml]; rfl) (argsL := [(.int (-1))]) (rest := []) (lenOf own_pd2 rfl) rfl (by show 2 * 0 + _ ≤ _; exact Nat.le_of_eq rfl) (hb hby at_115) (fun _ _ => ⟨rfl, e5, (by decide : 0 + 0 ≤ _), (by decide : 0 + 0 ≤ _)⟩)
  dsimp only [Pt.U, Pt.locs, Pt.cells, Pt.slots] at X6 l6 y6 z6 st6 hQ6
  subst l6 y6 z6
  obtain ⟨rfl, N6q, e6⟩ := hQ6
  have N6 := Fr.app N5 N6q
  obtain ⟨_, _, ⟨T7, L7, k7, n7⟩, -, X7, ⟨Lc7, hQ7, l7, y7, z7⟩, st7⟩ := Jvm.LawKit.callS X6 hx (y := (⟨"com/example/bindweave/bindweave/expression/OrderReversedPinLaw", "sign", "(II)I"⟩ : MethodName)) hown (mvT hZ (hw _ (own_m 12 rfl))) (mvT hZ (hw _ (own_m 13 rfl))) (mvT hZ (hw _ (own_m 14 rfl))) (mvT hZ (hw _ (own_m 15 rfl))) (by decide) (backOf (W := 0) (own_sg_G l Z a0 hw [] w_LESS w_EQUAL w_GREATER w_UNORDERED p2 p1 h0 n0 O0 U_LESS U_EQUAL U_GREATER U_UNORDERED (own_asym hk.2) hk.2) hZ (hw _ (own_m 15 rfl)) (hw _ (own_m 14 rfl)) (by decide) (by decide)) (g := (mkF m 122 #[iv p0, iv p1, iv p2, iv 0, rv w_LESS, rv w_GREATER, rv w_GREATER, iv 1, iv 1, rv w_LESS, .unset, .unset, .unset] [(.int p1), (.int p2)])) rfl (by rw [hml]; rfl) (argsL := [(.int p2), (.int p1)]) (rest := []) (lenOf own_pd1 rfl) rfl (by show 2 * 0 + _ ≤ _; exact Nat.le_of_eq rfl) (hb hby at_122) (fun _ _ => ⟨rfl, e6, (by decide : 0 + 0 ≤ _), (by decide : 0 + 0 ≤ _)⟩)
  dsimp only [Pt.U, Pt.locs, Pt.cells, Pt.slots] at X7 l7 y7 z7 st7 hQ7
  subst l7 y7 z7
  obtain ⟨rfl, N7q, e7⟩ := hQ7
  have N7 := Fr.app N6 N7q
  obtain ⟨_, _, ⟨T8, L8, k8, n8⟩, -, X8, ⟨Lc8, hQ8, l8, y8, z8⟩, st8⟩ := Jvm.LawKit.callS X7 hx (y := (⟨"com/example/bindweave/bindweave/expression/Order", "of", "(I)Lcom/example/bindweave/bindweave/expression/Order;"⟩ : MethodName)) hown (mvT hZ (hw _ (own_m 16 rfl))) (mvT hZ (hw _ (own_m 17 rfl))) (mvT hZ (hw _ (own_m 1 rfl))) (mvT hZ (hw _ (own_m 18 rfl))) (by decide) (backOf (W := 0) (own_of_G l Z a0 hw [] w_LESS w_EQUAL w_GREATER w_UNORDERED (1 : Int32) h0 n0 O0 U_LESS U_EQUAL U_GREATER U_UNORDERED (by decide) (by decide)) hZ (hw _ (own_m 18 rfl)) (hw _ (own_m 1 rfl)) (by decide) (by decide)) (g := (mkF m 125 #[iv p0, iv p1, iv p2, iv 0, rv w_LESS, rv w_GREATER, rv w_GREATER, iv 1, iv 1, rv w_LESS, .unset, .unset, .unset] [(.int 1)])) rfl (by rw [hml]; rfl) (argsL := [(.int 1)]) (rest := []) (lenOf own_pd2 rfl) rfl (by show 2 * 0 + _ ≤ _; exact Nat.le_of_eq rfl) (hb hby at_125) (fun _ _ => ⟨rfl, e7, (by decide : 0 + 0 ≤ _), (by decide : 0 + 0 ≤ _)⟩)
  dsimp only [Pt.U, Pt.locs, Pt.cells, Pt.slots] at X8 l8 y8 z8 st8 hQ8
  subst l8 y8 z8
  obtain ⟨rfl, N8q, e8⟩ := hQ8
  have N8 := Fr.app N7 N8q
  obtain ⟨cq9, kq9, q9a, q9b, q9c⟩ := isOf hZ e8 (U_LESS.2.1.ext O0.2)
  obtain ⟨_, _, ⟨T9, L9, k9, n9⟩, -, X9, ⟨Lc9, hQ9, l9, y9, z9⟩, st9⟩ := X8.virtualBack hx (y := (⟨"com/example/bindweave/bindweave/expression/Order", "reversed", "()Lcom/example/bindweave/bindweave/expression/Order;"⟩ : MethodName)) (z := (⟨"com/example/bindweave/bindweave/expression/Order", "reversed", "()Lcom/example/bindweave/bindweave/expression/Order;"⟩ : MethodName)) hown (mvT hZ (hw _ (own_m 5 rfl))) (mvT hZ (hw _ (own_m 6 rfl))) (notFace_of_selects (args := #[]) (mvT hZ (hw _ (own_m 8 rfl)))) (mvT hZ (hw _ (own_m 8 rfl))) (mvT hZ (hw _ (own_m 7 rfl))) (by decide) (backOf (W := 0) (own_rev_LESS l Z a0 hw [] w_LESS w_EQUAL w_GREATER w_UNORDERED  h0 n0 O0 U_LESS U_EQUAL U_GREATER U_UNORDERED ) hZ (hw _ (own_m 9 rfl)) (hw _ (own_m 1 rfl)) (by decide) (by decide)) q9a q9c (g := (mkF m 132 #[iv p0, iv p1, iv p2, iv 0, rv w_LESS, rv w_GREATER, rv w_GREATER, iv 1, iv 1, rv w_LESS, rv w_GREATER, .unset, .unset] [(.ref w_LESS)])) rfl (by rw [hml]; rfl) (Steps.refl _) (argsL := []) (rest := []) (lenOf own_pd0 rfl) rfl (by show 2 * 0 + _ ≤ _; exact Nat.le_of_eq rfl) (hb hby at_132) (fun _ _ => ⟨rfl, e8, (by decide : 0 + 0 ≤ _), (by decide : 0 + 0 ≤ _)⟩)
  dsimp only [Pt.U, Pt.locs, Pt.cells, Pt.slots] at X9 l9 y9 z9 st9 hQ9
  subst l9 y9 z9
  obtain ⟨rfl, N9q, e9⟩ := hQ9
  have N9 := Fr.app N8 N9q
  obtain ⟨fs, hr, hrun, hended, hW, hsame⟩ := X9.leave (v := some (.int 1)) (fun h => by rw [Bd.returns] at h; cases h)
  refine ⟨_, _, pre0 _ ?_, hrun, hended, _, _, rfl, ?_, ⟨_, rfl⟩, hW, hsame.mono (by decide) (by decide)⟩
  · show Steps p.tables e below (s₁.setTop (mkF m 0 #[iv p0, iv p1, iv p2, .unset, .unset, .unset, .unset, .unset, .unset, .unset, .unset, .unset, .unset] [])) _
    refine XS.iloadN X0.here hx rfl (hb hby at_0) rfl ?_
    show Steps p.tables e below (s₁.setTop (mkF m 1 #[iv p0, iv p1, iv p2, .unset, .unset, .unset, .unset, .unset, .unset, .unset, .unset, .unset, .unset] [(.int p0)])) _
    refine XS.iconst X0.here hx rfl (hb hby at_1) ?_
    show Steps p.tables e below (s₁.setTop (mkF m 2 #[iv p0, iv p1, iv p2, .unset, .unset, .unset, .unset, .unset, .unset, .unset, .unset, .unset, .unset] [(.int 3), (.int p0)])) _
    refine XS.iand X0.here hx rfl (hb hby at_2) rfl ?_
    show Steps p.tables e below (s₁.setTop (mkF m 3 #[iv p0, iv p1, iv p2, .unset, .unset, .unset, .unset, .unset, .unset, .unset, .unset, .unset, .unset] [(.int (p0 &&& (3 : Int32)))])) _
    refine own_top (v' := (.int 0)) (congrArg Value.int hk.1) ?_
    show Steps p.tables e below (s₁.setTop (mkF m 3 #[iv p0, iv p1, iv p2, .unset, .unset, .unset, .unset, .unset, .unset, .unset, .unset, .unset, .unset] [(.int 0)])) _
    refine XS.istoreN X0.here hx rfl (hb hby at_3) rfl (l' := #[iv p0, iv p1, iv p2, iv 0, .unset, .unset, .unset, .unset, .unset, .unset, .unset, .unset, .unset]) rfl ?_
    show Steps p.tables e below (s₁.setTop (mkF m 4 #[iv p0, iv p1, iv p2, iv 0, .unset, .unset, .unset, .unset, .unset, .unset, .unset, .unset, .unset] [])) _
    refine XS.iloadN X0.here hx rfl (hb hby at_4) rfl ?_
    show Steps p.tables e below (s₁.setTop (mkF m 5 #[iv p0, iv p1, iv p2, iv 0, .unset, .unset, .unset, .unset, .unset, .unset, .unset, .unset, .unset] [(.int 0)])) _
    refine XS.ifNo X0.here hx rfl (hb hby at_5) rfl ((if0 _ _).trans (teq (by decide)).2) ?_
    show Steps p.tables e below (s₁.setTop (mkF m 8 #[iv p0, iv p1, iv p2, iv 0, .unset, .unset, .unset, .unset, .unset, .unset, .unset, .unset, .unset] [])) _
    refine st1 _ ?_
    show Steps p.tables e below (T1.setTop (mkF m 11 #[iv p0, iv p1, iv p2, iv 0, .unset, .unset, .unset, .unset, .unset, .unset, .unset, .unset, .unset] [(.ref w_LESS)])) _
    refine XS.astore X1.here hx rfl (hb hby at_11) rfl rfl (l' := #[iv p0, iv p1, iv p2, iv 0, rv w_LESS, .unset, .unset, .unset, .unset, .unset, .unset, .unset, .unset]) rfl ?_
    show Steps p.tables e below (T1.setTop (mkF m 13 #[iv p0, iv p1, iv p2, iv 0, rv w_LESS, .unset, .unset, .unset, .unset, .unset, .unset, .unset, .unset] [])) _
    refine st2 _ ?_
    show Steps p.tables e below (T2.setTop (mkF m 16 #[iv p0, iv p1, iv p2, iv 0, rv w_LESS, .unset, .unset, .unset, .unset, .unset, .unset, .unset, .unset] [(.ref w_GREATER)])) _
    refine XS.astore X2.here hx rfl (hb hby at_16) rfl rfl (l' := #[iv p0, iv p1, iv p2, iv 0, rv w_LESS, rv w_GREATER, .unset, .unset, .unset, .unset, .unset, .unset, .unset]) rfl ?_
    show Steps p.tables e below (T2.setTop (mkF m 18 #[iv p0, iv p1, iv p2, iv 0, rv w_LESS, rv w_GREATER, .unset, .unset, .unset, .unset, .unset, .unset, .unset] [])) _
    refine XS.goto X2.here hx rfl (pc0 := 18) (pc' := 67) rfl (hb hby at_18) (by decide) (by decide) ?_
    show Steps p.tables e below (T2.setTop (mkF m 67 #[iv p0, iv p1, iv p2, iv 0, rv w_LESS, rv w_GREATER, .unset, .unset, .unset, .unset, .unset, .unset, .unset] [])) _
    refine XS.aload X2.here hx rfl (hb hby at_67) rfl rfl ?_
    show Steps p.tables e below (T2.setTop (mkF m 69 #[iv p0, iv p1, iv p2, iv 0, rv w_LESS, rv w_GREATER, .unset, .unset, .unset, .unset, .unset, .unset, .unset] [(.ref w_LESS)])) _
    refine st3.trans ?_
    show Steps p.tables e below (T3.setTop (mkF m 72 #[iv p0, iv p1, iv p2, iv 0, rv w_LESS, rv w_GREATER, .unset, .unset, .unset, .unset, .unset, .unset, .unset] [(.ref w_GREATER)])) _
    refine XS.astore X3.here hx rfl (hb hby at_72) rfl rfl (l' := #[iv p0, iv p1, iv p2, iv 0, rv w_LESS, rv w_GREATER, rv w_GREATER, .unset, .unset, .unset, .unset, .unset, .unset]) rfl ?_
    show Steps p.tables e below (T3.setTop (mkF m 74 #[iv p0, iv p1, iv p2, iv 0, rv w_LESS, rv w_GREATER, rv w_GREATER, .unset, .unset, .unset, .unset, .unset, .unset] [])) _
    refine XS.aload X3.here hx rfl (hb hby at_74) rfl rfl ?_
    show Steps p.tables e below (T3.setTop (mkF m 76 #[iv p0, iv p1, iv p2, iv 0, rv w_LESS, rv w_GREATER, rv w_GREATER, .unset, .unset, .unset, .unset, .unset, .unset] [(.ref w_GREATER)])) _
    refine XS.aload X3.here hx rfl (hb hby at_76) rfl rfl ?_
    show Steps p.tables e below (T3.setTop (mkF m 78 #[iv p0, iv p1, iv p2, iv 0, rv w_LESS, rv w_GREATER, rv w_GREATER, .unset, .unset, .unset, .unset, .unset, .unset] [(.ref w_GREATER), (.ref w_GREATER)])) _
    refine Jvm.RoadKit.acmp (g := (mkF m 78 #[iv p0, iv p1, iv p2, iv 0, rv w_LESS, rv w_GREATER, rv w_GREATER, .unset, .unset, .unset, .unset, .unset, .unset] [(.ref w_GREATER), (.ref w_GREATER)])) X3 hx rfl rfl rfl (pc0 := 78) (pc' := 81) (same := true) rfl (hb hby at_78) rfl (decide_eq_true rfl) (by decide) (by decide) ?_
    show Steps p.tables e below (T3.setTop (mkF m 81 #[iv p0, iv p1, iv p2, iv 0, rv w_LESS, rv w_GREATER, rv w_GREATER, .unset, .unset, .unset, .unset, .unset, .unset] [])) _
    refine XS.iconst X3.here hx rfl (hb hby at_81) ?_
    show Steps p.tables e below (T3.setTop (mkF m 82 #[iv p0, iv p1, iv p2, iv 0, rv w_LESS, rv w_GREATER, rv w_GREATER, .unset, .unset, .unset, .unset, .unset, .unset] [(.int 1)])) _
    refine XS.goto X3.here hx rfl (pc0 := 82) (pc' := 86) rfl (hb hby at_82) (by decide) (by decide) ?_
    show Steps p.tables e below (T3.setTop (mkF m 86 #[iv p0, iv p1, iv p2, iv 0, rv w_LESS, rv w_GREATER, rv w_GREATER, .unset, .unset, .unset, .unset, .unset, .unset] [(.int 1)])) _
    refine XS.istore X3.here hx rfl (hb hby at_86) rfl (l' := #[iv p0, iv p1, iv p2, iv 0, rv w_LESS, rv w_GREATER, rv w_GREATER, iv 1, .unset, .unset, .unset, .unset, .unset]) rfl ?_
    show Steps p.tables e below (T3.setTop (mkF m 88 #[iv p0, iv p1, iv p2, iv 0, rv w_LESS, rv w_GREATER, rv w_GREATER, iv 1, .unset, .unset, .unset, .unset, .unset] [])) _
    refine XS.aload X3.here hx rfl (hb hby at_88) rfl rfl ?_
    show Steps p.tables e below (T3.setTop (mkF m 90 #[iv p0, iv p1, iv p2, iv 0, rv w_LESS, rv w_GREATER, rv w_GREATER, iv 1, .unset, .unset, .unset, .unset, .unset] [(.ref w_GREATER)])) _
    refine XS.ifnullNo X3.here hx rfl (hb hby at_90) rfl ?_
    show Steps p.tables e below (T3.setTop (mkF m 93 #[iv p0, iv p1, iv p2, iv 0, rv w_LESS, rv w_GREATER, rv w_GREATER, iv 1, .unset, .unset, .unset, .unset, .unset] [])) _
    refine XS.aload X3.here hx rfl (hb hby at_93) rfl rfl ?_
    show Steps p.tables e below (T3.setTop (mkF m 95 #[iv p0, iv p1, iv p2, iv 0, rv w_LESS, rv w_GREATER, rv w_GREATER, iv 1, .unset, .unset, .unset, .unset, .unset] [(.ref w_GREATER)])) _
    refine st4.trans ?_
    show Steps p.tables e below (T4.setTop (mkF m 98 #[iv p0, iv p1, iv p2, iv 0, rv w_LESS, rv w_GREATER, rv w_GREATER, iv 1, .unset, .unset, .unset, .unset, .unset] [(.ref w_LESS)])) _
    refine XS.aload X4.here hx rfl (hb hby at_98) rfl rfl ?_
    show Steps p.tables e below (T4.setTop (mkF m 100 #[iv p0, iv p1, iv p2, iv 0, rv w_LESS, rv w_GREATER, rv w_GREATER, iv 1, .unset, .unset, .unset, .unset, .unset] [(.ref w_LESS), (.ref w_LESS)])) _
    refine Jvm.RoadKit.acmp (g := (mkF m 100 #[iv p0, iv p1, iv p2, iv 0, rv w_LESS, rv w_GREATER, rv w_GREATER, iv 1, .unset, .unset, .unset, .unset, .unset] [(.ref w_LESS), (.ref w_LESS)])) X4 hx rfl rfl rfl (pc0 := 100) (pc' := 103) (same := true) rfl (hb hby at_100) rfl (decide_eq_true rfl) (by decide) (by decide) ?_
    show Steps p.tables e below (T4.setTop (mkF m 103 #[iv p0, iv p1, iv p2, iv 0, rv w_LESS, rv w_GREATER, rv w_GREATER, iv 1, .unset, .unset, .unset, .unset, .unset] [])) _
    refine XS.iconst X4.here hx rfl (hb hby at_103) ?_
    show Steps p.tables e below (T4.setTop (mkF m 104 #[iv p0, iv p1, iv p2, iv 0, rv w_LESS, rv w_GREATER, rv w_GREATER, iv 1, .unset, .unset, .unset, .unset, .unset] [(.int 1)])) _
    refine XS.goto X4.here hx rfl (pc0 := 104) (pc' := 108) rfl (hb hby at_104) (by decide) (by decide) ?_
    show Steps p.tables e below (T4.setTop (mkF m 108 #[iv p0, iv p1, iv p2, iv 0, rv w_LESS, rv w_GREATER, rv w_GREATER, iv 1, .unset, .unset, .unset, .unset, .unset] [(.int 1)])) _
    refine XS.istore X4.here hx rfl (hb hby at_108) rfl (l' := #[iv p0, iv p1, iv p2, iv 0, rv w_LESS, rv w_GREATER, rv w_GREATER, iv 1, iv 1, .unset, .unset, .unset, .unset]) rfl ?_
    show Steps p.tables e below (T4.setTop (mkF m 110 #[iv p0, iv p1, iv p2, iv 0, rv w_LESS, rv w_GREATER, rv w_GREATER, iv 1, iv 1, .unset, .unset, .unset, .unset] [])) _
    refine XS.iloadN X4.here hx rfl (hb hby at_110) rfl ?_
    show Steps p.tables e below (T4.setTop (mkF m 111 #[iv p0, iv p1, iv p2, iv 0, rv w_LESS, rv w_GREATER, rv w_GREATER, iv 1, iv 1, .unset, .unset, .unset, .unset] [(.int p1)])) _
    refine XS.iloadN X4.here hx rfl (hb hby at_111) rfl ?_
    show Steps p.tables e below (T4.setTop (mkF m 112 #[iv p0, iv p1, iv p2, iv 0, rv w_LESS, rv w_GREATER, rv w_GREATER, iv 1, iv 1, .unset, .unset, .unset, .unset] [(.int p2), (.int p1)])) _
    refine st5 _ ?_
    show Steps p.tables e below (T5.setTop (mkF m 115 #[iv p0, iv p1, iv p2, iv 0, rv w_LESS, rv w_GREATER, rv w_GREATER, iv 1, iv 1, .unset, .unset, .unset, .unset] [(.int (-1))])) _
    refine st6 _ ?_
    show Steps p.tables e below (T6.setTop (mkF m 118 #[iv p0, iv p1, iv p2, iv 0, rv w_LESS, rv w_GREATER, rv w_GREATER, iv 1, iv 1, .unset, .unset, .unset, .unset] [(.ref w_LESS)])) _
    refine XS.astore X6.here hx rfl (hb hby at_118) rfl rfl (l' := #[iv p0, iv p1, iv p2, iv 0, rv w_LESS, rv w_GREATER, rv w_GREATER, iv 1, iv 1, rv w_LESS, .unset, .unset, .unset]) rfl ?_
    show Steps p.tables e below (T6.setTop (mkF m 120 #[iv p0, iv p1, iv p2, iv 0, rv w_LESS, rv w_GREATER, rv w_GREATER, iv 1, iv 1, rv w_LESS, .unset, .unset, .unset] [])) _
    refine XS.iloadN X6.here hx rfl (hb hby at_120) rfl ?_
    show Steps p.tables e below (T6.setTop (mkF m 121 #[iv p0, iv p1, iv p2, iv 0, rv w_LESS, rv w_GREATER, rv w_GREATER, iv 1, iv 1, rv w_LESS, .unset, .unset, .unset] [(.int p2)])) _
    refine XS.iloadN X6.here hx rfl (hb hby at_121) rfl ?_
    show Steps p.tables e below (T6.setTop (mkF m 122 #[iv p0, iv p1, iv p2, iv 0, rv w_LESS, rv w_GREATER, rv w_GREATER, iv 1, iv 1, rv w_LESS, .unset, .unset, .unset] [(.int p1), (.int p2)])) _
    refine st7 _ ?_
    show Steps p.tables e below (T7.setTop (mkF m 125 #[iv p0, iv p1, iv p2, iv 0, rv w_LESS, rv w_GREATER, rv w_GREATER, iv 1, iv 1, rv w_LESS, .unset, .unset, .unset] [(.int 1)])) _
    refine st8 _ ?_
    show Steps p.tables e below (T8.setTop (mkF m 128 #[iv p0, iv p1, iv p2, iv 0, rv w_LESS, rv w_GREATER, rv w_GREATER, iv 1, iv 1, rv w_LESS, .unset, .unset, .unset] [(.ref w_GREATER)])) _
    refine XS.astore X8.here hx rfl (hb hby at_128) rfl rfl (l' := #[iv p0, iv p1, iv p2, iv 0, rv w_LESS, rv w_GREATER, rv w_GREATER, iv 1, iv 1, rv w_LESS, rv w_GREATER, .unset, .unset]) rfl ?_
    show Steps p.tables e below (T8.setTop (mkF m 130 #[iv p0, iv p1, iv p2, iv 0, rv w_LESS, rv w_GREATER, rv w_GREATER, iv 1, iv 1, rv w_LESS, rv w_GREATER, .unset, .unset] [])) _
    refine XS.aload X8.here hx rfl (hb hby at_130) rfl rfl ?_
    show Steps p.tables e below (T8.setTop (mkF m 132 #[iv p0, iv p1, iv p2, iv 0, rv w_LESS, rv w_GREATER, rv w_GREATER, iv 1, iv 1, rv w_LESS, rv w_GREATER, .unset, .unset] [(.ref w_LESS)])) _
    refine st9.trans ?_
    show Steps p.tables e below (T9.setTop (mkF m 135 #[iv p0, iv p1, iv p2, iv 0, rv w_LESS, rv w_GREATER, rv w_GREATER, iv 1, iv 1, rv w_LESS, rv w_GREATER, .unset, .unset] [(.ref w_GREATER)])) _
    refine XS.astore X9.here hx rfl (hb hby at_135) rfl rfl (l' := #[iv p0, iv p1, iv p2, iv 0, rv w_LESS, rv w_GREATER, rv w_GREATER, iv 1, iv 1, rv w_LESS, rv w_GREATER, rv w_GREATER, .unset]) rfl ?_
    show Steps p.tables e below (T9.setTop (mkF m 137 #[iv p0, iv p1, iv p2, iv 0, rv w_LESS, rv w_GREATER, rv w_GREATER, iv 1, iv 1, rv w_LESS, rv w_GREATER, rv w_GREATER, .unset] [])) _
    refine XS.aload X9.here hx rfl (hb hby at_137) rfl rfl ?_
    show Steps p.tables e below (T9.setTop (mkF m 139 #[iv p0, iv p1, iv p2, iv 0, rv w_LESS, rv w_GREATER, rv w_GREATER, iv 1, iv 1, rv w_LESS, rv w_GREATER, rv w_GREATER, .unset] [(.ref w_GREATER)])) _
    refine XS.aload X9.here hx rfl (hb hby at_139) rfl rfl ?_
    show Steps p.tables e below (T9.setTop (mkF m 141 #[iv p0, iv p1, iv p2, iv 0, rv w_LESS, rv w_GREATER, rv w_GREATER, iv 1, iv 1, rv w_LESS, rv w_GREATER, rv w_GREATER, .unset] [(.ref w_GREATER), (.ref w_GREATER)])) _
    refine Jvm.RoadKit.acmp (g := (mkF m 141 #[iv p0, iv p1, iv p2, iv 0, rv w_LESS, rv w_GREATER, rv w_GREATER, iv 1, iv 1, rv w_LESS, rv w_GREATER, rv w_GREATER, .unset] [(.ref w_GREATER), (.ref w_GREATER)])) X9 hx rfl rfl rfl (pc0 := 141) (pc' := 144) (same := true) rfl (hb hby at_141) rfl (decide_eq_true rfl) (by decide) (by decide) ?_
    show Steps p.tables e below (T9.setTop (mkF m 144 #[iv p0, iv p1, iv p2, iv 0, rv w_LESS, rv w_GREATER, rv w_GREATER, iv 1, iv 1, rv w_LESS, rv w_GREATER, rv w_GREATER, .unset] [])) _
    refine XS.iconst X9.here hx rfl (hb hby at_144) ?_
    show Steps p.tables e below (T9.setTop (mkF m 145 #[iv p0, iv p1, iv p2, iv 0, rv w_LESS, rv w_GREATER, rv w_GREATER, iv 1, iv 1, rv w_LESS, rv w_GREATER, rv w_GREATER, .unset] [(.int 1)])) _
    refine XS.goto X9.here hx rfl (pc0 := 145) (pc' := 149) rfl (hb hby at_145) (by decide) (by decide) ?_
    show Steps p.tables e below (T9.setTop (mkF m 149 #[iv p0, iv p1, iv p2, iv 0, rv w_LESS, rv w_GREATER, rv w_GREATER, iv 1, iv 1, rv w_LESS, rv w_GREATER, rv w_GREATER, .unset] [(.int 1)])) _
    refine XS.istore X9.here hx rfl (hb hby at_149) rfl (l' := #[iv p0, iv p1, iv p2, iv 0, rv w_LESS, rv w_GREATER, rv w_GREATER, iv 1, iv 1, rv w_LESS, rv w_GREATER, rv w_GREATER, iv 1]) rfl ?_
    show Steps p.tables e below (T9.setTop (mkF m 151 #[iv p0, iv p1, iv p2, iv 0, rv w_LESS, rv w_GREATER, rv w_GREATER, iv 1, iv 1, rv w_LESS, rv w_GREATER, rv w_GREATER, iv 1] [])) _
    refine XS.iload X9.here hx rfl (hb hby at_151) rfl ?_
    show Steps p.tables e below (T9.setTop (mkF m 153 #[iv p0, iv p1, iv p2, iv 0, rv w_LESS, rv w_GREATER, rv w_GREATER, iv 1, iv 1, rv w_LESS, rv w_GREATER, rv w_GREATER, iv 1] [(.int 1)])) _
    refine XS.ifNo X9.here hx rfl (hb hby at_153) rfl ((if0 _ _).trans (feq (by decide)).1) ?_
    show Steps p.tables e below (T9.setTop (mkF m 156 #[iv p0, iv p1, iv p2, iv 0, rv w_LESS, rv w_GREATER, rv w_GREATER, iv 1, iv 1, rv w_LESS, rv w_GREATER, rv w_GREATER, iv 1] [])) _
    refine XS.iload X9.here hx rfl (hb hby at_156) rfl ?_
    show Steps p.tables e below (T9.setTop (mkF m 158 #[iv p0, iv p1, iv p2, iv 0, rv w_LESS, rv w_GREATER, rv w_GREATER, iv 1, iv 1, rv w_LESS, rv w_GREATER, rv w_GREATER, iv 1] [(.int 1)])) _
    refine XS.ifNo X9.here hx rfl (hb hby at_158) rfl ((if0 _ _).trans (feq (by decide)).1) ?_
    show Steps p.tables e below (T9.setTop (mkF m 161 #[iv p0, iv p1, iv p2, iv 0, rv w_LESS, rv w_GREATER, rv w_GREATER, iv 1, iv 1, rv w_LESS, rv w_GREATER, rv w_GREATER, iv 1] [])) _
    refine XS.iload X9.here hx rfl (hb hby at_161) rfl ?_
    show Steps p.tables e below (T9.setTop (mkF m 163 #[iv p0, iv p1, iv p2, iv 0, rv w_LESS, rv w_GREATER, rv w_GREATER, iv 1, iv 1, rv w_LESS, rv w_GREATER, rv w_GREATER, iv 1] [(.int 1)])) _
    refine XS.ifNo X9.here hx rfl (hb hby at_163) rfl ((if0 _ _).trans (feq (by decide)).1) ?_
    show Steps p.tables e below (T9.setTop (mkF m 166 #[iv p0, iv p1, iv p2, iv 0, rv w_LESS, rv w_GREATER, rv w_GREATER, iv 1, iv 1, rv w_LESS, rv w_GREATER, rv w_GREATER, iv 1] [])) _
    refine XS.iconst X9.here hx rfl (hb hby at_166) ?_
    show Steps p.tables e below (T9.setTop (mkF m 167 #[iv p0, iv p1, iv p2, iv 0, rv w_LESS, rv w_GREATER, rv w_GREATER, iv 1, iv 1, rv w_LESS, rv w_GREATER, rv w_GREATER, iv 1] [(.int 1)])) _
    refine XS.goto X9.here hx rfl (pc0 := 167) (pc' := 171) rfl (hb hby at_167) (by decide) (by decide) ?_
    show Steps p.tables e below (T9.setTop (mkF m 171 #[iv p0, iv p1, iv p2, iv 0, rv w_LESS, rv w_GREATER, rv w_GREATER, iv 1, iv 1, rv w_LESS, rv w_GREATER, rv w_GREATER, iv 1] [(.int 1)])) _
    exact retN X9 hx (t := .boolean) Bd.returns (by simp) (hb hby at_171) hr
  · show own_law0_Q Z w_LESS w_EQUAL w_GREATER w_UNORDERED p0 p1 p2 h0 n0 _ T9.heap _
    rw [e9]
    exact ⟨rfl, N9, trivial⟩
theorem own_law1_ef (m : MethodId) (p0 : Int32) (p1 : Int32) (p2 : Int32) : entryFrame m #[(.int p0), (.int p1), (.int p2)] maxLocals = mkF m 0 #[iv p0, iv p1, iv p2, .unset, .unset, .unset, .unset, .unset, .unset, .unset, .unset, .unset, .unset] [] := by first | (simp [entryFrame, mkF, argsToLocals, Value.category, maxLocals]; done) | rfl
def own_law1_Q (Z : State) (w_LESS : Addr) (w_EQUAL : Addr) (w_GREATER : Addr) (w_UNORDERED : Addr) (p0 : Int32) (p1 : Int32) (p2 : Int32) (h0 : Heap) (n0 : Nat) (v : Option Value) (h : Heap) (L : List Loc) : Prop := v = some (.int 1) ∧ Fr n0 L ∧ True
set_option maxRecDepth 65536 in
set_option maxHeartbeats 40000000 in
theorem own_law1 (l : Launch) (Z : State) (a0 : Array Value) (hw : ∀ d ∈ tables_1, d.before a0 Z = true) (ws : List Jvm.Cond) (w_LESS : Addr) (w_EQUAL : Addr) (w_GREATER : Addr) (w_UNORDERED : Addr) (p0 : Int32) (p1 : Int32) (p2 : Int32) (h0 : Heap) (n0 : Nat) (O0 : Old Z n0 h0) (U_LESS : own_En Z Z.heap "com/example/bindweave/bindweave/expression/Order" "LESS" "Lcom/example/bindweave/bindweave/expression/Order;" w_LESS (0 : Int32)) (U_EQUAL : own_En Z Z.heap "com/example/bindweave/bindweave/expression/Order" "EQUAL" "Lcom/example/bindweave/bindweave/expression/Order;" w_EQUAL (1 : Int32)) (U_GREATER : own_En Z Z.heap "com/example/bindweave/bindweave/expression/Order" "GREATER" "Lcom/example/bindweave/bindweave/expression/Order;" w_GREATER (2 : Int32)) (U_UNORDERED : own_En Z Z.heap "com/example/bindweave/bindweave/expression/Order" "UNORDERED" "Lcom/example/bindweave/bindweave/expression/Order;" w_UNORDERED (3 : Int32)) (hk : (p0 &&& (3 : Int32)) = (0 : Int32) ∧ (¬ p1 < p2 ∧ ¬ p2 < p1)) :
    MetFree l x (head1 (Jvm.Cond.code x code maxLocals ret :: ws) room_1) (fun ar U => ar = #[(.int p0), (.int p1), (.int p2)] ∧ Z.Warmed39 U.vm ∧ U.heap = h0) (fun _ _ _ _ _ => True) (fun _ U oc U' => ∃ v L, oc = .returned v ∧ own_law1_Q Z w_LESS w_EQUAL w_GREATER w_UNORDERED p0 p1 p2 h0 n0 v U'.heap L ∧ FrameEnd U oc U' L 0 0) := by
  refine MetFree.of_bodySF (plainFor_of_name own_pn1) hisR ?_
  intro p e s m args below meth c s₁ Bd hml0 hP hK
  obtain ⟨rfl, hZ, hh⟩ := hP
  have hx := Bd.exec
  have hby := Bd.bytes
  have hml : c.maxLocals = 13 := hml0
  have hown : s.vm.findClass "com/example/bindweave/bindweave/expression/OrderReversedPinLaw" = some m.cls := findClass_of_methodNamed Bd.named
  have hnm := (name_of_methodNamed Bd.named Bd.method).1
  have X0 : Stand p l e room_1 s m #[(.int p0), (.int p1), (.int p2)] below meth c s₁ [] 0 0 := Stand.of_body Bd
  have e0 : s₁.heap = h0 := by rw [← hh, Bd.state]; rfl
  have N0 := Fr.nil n0
  have pre0 : ∀ t, Steps p.tables e below (s₁.setTop (mkF m 0 #[iv p0, iv p1, iv p2, .unset, .unset, .unset, .unset, .unset, .unset, .unset, .unset, .unset, .unset] [])) t → Steps p.tables e below (s₁.setTop (entryFrame m #[(.int p0), (.int p1), (.int p2)] maxLocals)) t := fun t k => castTop (own_law1_ef m p0 p1 p2) k
  obtain ⟨T1, X1, e1, st1⟩ := getS2 X0 hx hZ hown (host := "") (Or.inl (hw _ (own_m 0 rfl))) Via.refl e0 (U_LESS.1.ext O0.2) (g := (mkF m 8 #[iv p0, iv p1, iv p2, iv 0, .unset, .unset, .unset, .unset, .unset, .unset, .unset, .unset, .unset] [])) rfl (hb hby at_8)
  obtain ⟨T2, X2, e2, st2⟩ := getS2 X1 hx hZ hown (host := "") (Or.inl (hw _ (own_m 3 rfl))) Via.refl e1 (U_GREATER.1.ext O0.2) (g := (mkF m 13 #[iv p0, iv p1, iv p2, iv 0, rv w_LESS, .unset, .unset, .unset, .unset, .unset, .unset, .unset, .unset] [])) rfl (hb hby at_13)
  obtain ⟨cq3, kq3, q3a, q3b, q3c⟩ := isOf hZ e2 (U_LESS.2.1.ext O0.2)
  obtain ⟨_, _, ⟨T3, L3, k3, n3⟩, -, X3, ⟨Lc3, hQ3, l3, y3, z3⟩, st3⟩ := X2.virtualBack hx (y := (⟨"com/example/bindweave/bindweave/expression/Order", "reversed", "()Lcom/example/bindweave/bindweave/expression/Order;"⟩ : MethodName)) (z := (⟨"com/example/bindweave/bindweave/expression/Order", "reversed", "()Lcom/example/bindweave/bindweave/expression/Order;"⟩ : MethodName)) hown (mvT hZ (hw _ (own_m 5 rfl))) (mvT hZ (hw _ (own_m 6 rfl))) (notFace_of_selects (args := #[]) (mvT hZ (hw _ (own_m 8 rfl)))) (mvT hZ (hw _ (own_m 8 rfl))) (mvT hZ (hw _ (own_m 7 rfl))) (by decide) (backOf (W := 0) (own_rev_LESS l Z a0 hw [] w_LESS w_EQUAL w_GREATER w_UNORDERED  h0 n0 O0 U_LESS U_EQUAL U_GREATER U_UNORDERED ) hZ (hw _ (own_m 9 rfl)) (hw _ (own_m 1 rfl)) (by decide) (by decide)) q3a q3c (g := (mkF m 69 #[iv p0, iv p1, iv p2, iv 0, rv w_LESS, rv w_GREATER, .unset, .unset, .unset, .unset, .unset, .unset, .unset] [(.ref w_LESS)])) rfl (by rw [hml]; rfl) (Steps.refl _) (argsL := []) (rest := []) (lenOf own_pd0 rfl) rfl (by show 2 * 0 + _ ≤ _; exact Nat.le_of_eq rfl) (hb hby at_69) (fun _ _ => ⟨rfl, e2, (by decide : 0 + 0 ≤ _), (by decide : 0 + 0 ≤ _)⟩)
  dsimp only [Pt.U, Pt.locs, Pt.cells, Pt.slots] at X3 l3 y3 z3 st3 hQ3
  subst l3 y3 z3
  obtain ⟨rfl, N3q, e3⟩ := hQ3
  have N3 := Fr.app N0 N3q
  obtain ⟨cq4, kq4, q4a, q4b, q4c⟩ := isOf hZ e3 (U_GREATER.2.1.ext O0.2)
  obtain ⟨_, _, ⟨T4, L4, k4, n4⟩, -, X4, ⟨Lc4, hQ4, l4, y4, z4⟩, st4⟩ := X3.virtualBack hx (y := (⟨"com/example/bindweave/bindweave/expression/Order", "reversed", "()Lcom/example/bindweave/bindweave/expression/Order;"⟩ : MethodName)) (z := (⟨"com/example/bindweave/bindweave/expression/Order", "reversed", "()Lcom/example/bindweave/bindweave/expression/Order;"⟩ : MethodName)) hown (mvT hZ (hw _ (own_m 5 rfl))) (mvT hZ (hw _ (own_m 6 rfl))) (notFace_of_selects (args := #[]) (mvT hZ (hw _ (own_m 8 rfl)))) (mvT hZ (hw _ (own_m 8 rfl))) (mvT hZ (hw _ (own_m 7 rfl))) (by decide) (backOf (W := 0) (own_rev_GREATER l Z a0 hw [] w_LESS w_EQUAL w_GREATER w_UNORDERED  h0 n0 O0 U_LESS U_EQUAL U_GREATER U_UNORDERED ) hZ (hw _ (own_m 9 rfl)) (hw _ (own_m 1 rfl)) (by decide) (by decide)) q4a q4c (g := (mkF m 95 #[iv p0, iv p1, iv p2, iv 0, rv w_LESS, rv w_GREATER, rv w_GREATER, iv 1, .unset, .unset, .unset, .unset, .unset] [(.ref w_GREATER)])) rfl (by rw [hml]; rfl) (Steps.refl _) (argsL := []) (rest := []) (lenOf own_pd0 rfl) rfl (by show 2 * 0 + _ ≤ _; exact Nat.le_of_eq rfl) (hb hby at_95) (fun _ _ => ⟨rfl, e3, (by decide : 0 + 0 ≤ _), (by decide : 0 + 0 ≤ _)⟩)
  dsimp only [Pt.U, Pt.locs, Pt.cells, Pt.slots] at X4 l4 y4 z4 st4 hQ4
  subst l4 y4 z4
  obtain ⟨rfl, N4q, e4⟩ := hQ4
  have N4 := Fr.app N3 N4q
  obtain ⟨_, _, ⟨T5, L5, k5, n5⟩, -, X5, ⟨Lc5, hQ5, l5, y5, z5⟩, st5⟩ := Jvm.LawKit.callS X4 hx (y := (⟨"com/example/bindweave/bindweave/expression/OrderReversedPinLaw", "sign", "(II)I"⟩ : MethodName)) hown (mvT hZ (hw _ (own_m 12 rfl))) (mvT hZ (hw _ (own_m 13 rfl))) (mvT hZ (hw _ (own_m 14 rfl))) (mvT hZ (hw _ (own_m 15 rfl))) (by decide) (backOf (W := 0) (own_sg_E l Z a0 hw [] w_LESS w_EQUAL w_GREATER w_UNORDERED p1 p2 h0 n0 O0 U_LESS U_EQUAL U_GREATER U_UNORDERED hk.2.1 hk.2.2) hZ (hw _ (own_m 15 rfl)) (hw _ (own_m 14 rfl)) (by decide) (by decide)) (g := (mkF m 112 #[iv p0, iv p1, iv p2, iv 0, rv w_LESS, rv w_GREATER, rv w_GREATER, iv 1, iv 1, .unset, .unset, .unset, .unset] [(.int p2), (.int p1)])) rfl (by rw [hml]; rfl) (argsL := [(.int p1), (.int p2)]) (rest := []) (lenOf own_pd1 rfl) rfl (by show 2 * 0 + _ ≤ _; exact Nat.le_of_eq rfl) (hb hby at_112) (fun _ _ => ⟨rfl, e4, (by decide : 0 + 0 ≤ _), (by decide : 0 + 0 ≤ _)⟩)
  dsimp only [Pt.U, Pt.locs, Pt.cells, Pt.slots] at X5 l5 y5 z5 st5 hQ5
  subst l5 y5 z5
  obtain ⟨rfl, N5q, e5⟩ := hQ5
  have N5 := Fr.app N4 N5q
  obtain ⟨_, _, ⟨T6, L6, k6, n6⟩, -, X6, ⟨Lc6, hQ6, l6, y6, z6⟩, st6⟩ := Jvm.LawKit.callS X5 hx (y := (⟨"com/example/bindweave/bindweave/expression/Order", "of", "(I)Lcom/example/bindweave/bindweave/expression/Order;"⟩ : MethodName)) hown (mvT hZ (hw _ (own_m 16 rfl))) (mvT hZ (hw _ (own_m 17 rfl))) (mvT hZ (hw _ (own_m 1 rfl))) (mvT hZ (hw _ (own_m 18 rfl))) (by decide) (backOf (W := 0) (own_of_E l Z a0 hw [] w_LESS w_EQUAL w_GREATER w_UNORDERED (0 : Int32) h0 n0 O0 U_LESS U_EQUAL U_GREATER U_UNORDERED (by decide) (by decide)) hZ (hw _ (own_m 18 rfl)) (hw _ (own_m 1 rfl)) (by decide) (by decide)) (g := (mkF m 115 #[iv p0, iv p1, iv p2, iv 0, rv w_LESS, rv w_GREATER, rv w_GREATER, iv 1, iv 1, .unset, .unset, .unset, .unset] [(.int 0)])) rfl (by rw [hml]; rfl) (argsL := [(.int 0)]) (rest := []) (lenOf own_pd2 rfl) rfl (by show 2 * 0 + _ ≤ _; exact Nat.le_of_eq rfl) (hb hby at_115) (fun _ _ => ⟨rfl, e5, (by decide : 0 + 0 ≤ _), (by decide : 0 + 0 ≤ _)⟩)
  dsimp only [Pt.U, Pt.locs, Pt.cells, Pt.slots] at X6 l6 y6 z6 st6 hQ6
  subst l6 y6 z6
  obtain ⟨rfl, N6q, e6⟩ := hQ6
  have N6 := Fr.app N5 N6q
  obtain ⟨_, _, ⟨T7, L7, k7, n7⟩, -, X7, ⟨Lc7, hQ7, l7, y7, z7⟩, st7⟩ := Jvm.LawKit.callS X6 hx (y := (⟨"com/example/bindweave/bindweave/expression/OrderReversedPinLaw", "sign", "(II)I"⟩ : MethodName)) hown (mvT hZ (hw _ (own_m 12 rfl))) (mvT hZ (hw _ (own_m 13 rfl))) (mvT hZ (hw _ (own_m 14 rfl))) (mvT hZ (hw _ (own_m 15 rfl))) (by decide) (backOf (W := 0) (own_sg_E l Z a0 hw [] w_LESS w_EQUAL w_GREATER w_UNORDERED p2 p1 h0 n0 O0 U_LESS U_EQUAL U_GREATER U_UNORDERED hk.2.2 hk.2.1) hZ (hw _ (own_m 15 rfl)) (hw _ (own_m 14 rfl)) (by decide) (by decide)) (g := (mkF m 122 #[iv p0, iv p1, iv p2, iv 0, rv w_LESS, rv w_GREATER, rv w_GREATER, iv 1, iv 1, rv w_EQUAL, .unset, .unset, .unset] [(.int p1), (.int p2)])) rfl (by rw [hml]; rfl) (argsL := [(.int p2), (.int p1)]) (rest := []) (lenOf own_pd1 rfl) rfl (by show 2 * 0 + _ ≤ _; exact Nat.le_of_eq rfl) (hb hby at_122) (fun _ _ => ⟨rfl, e6, (by decide : 0 + 0 ≤ _), (by decide : 0 + 0 ≤ _)⟩)
  dsimp only [Pt.U, Pt.locs, Pt.cells, Pt.slots] at X7 l7 y7 z7 st7 hQ7
  subst l7 y7 z7
  obtain ⟨rfl, N7q, e7⟩ := hQ7
  have N7 := Fr.app N6 N7q
  obtain ⟨_, _, ⟨T8, L8, k8, n8⟩, -, X8, ⟨Lc8, hQ8, l8, y8, z8⟩, st8⟩ := Jvm.LawKit.callS X7 hx (y := (⟨"com/example/bindweave/bindweave/expression/Order", "of", "(I)Lcom/example/bindweave/bindweave/expression/Order;"⟩ : MethodName)) hown (mvT hZ (hw _ (own_m 16 rfl))) (mvT hZ (hw _ (own_m 17 rfl))) (mvT hZ (hw _ (own_m 1 rfl))) (mvT hZ (hw _ (own_m 18 rfl))) (by decide) (backOf (W := 0) (own_of_E l Z a0 hw [] w_LESS w_EQUAL w_GREATER w_UNORDERED (0 : Int32) h0 n0 O0 U_LESS U_EQUAL U_GREATER U_UNORDERED (by decide) (by decide)) hZ (hw _ (own_m 18 rfl)) (hw _ (own_m 1 rfl)) (by decide) (by decide)) (g := (mkF m 125 #[iv p0, iv p1, iv p2, iv 0, rv w_LESS, rv w_GREATER, rv w_GREATER, iv 1, iv 1, rv w_EQUAL, .unset, .unset, .unset] [(.int 0)])) rfl (by rw [hml]; rfl) (argsL := [(.int 0)]) (rest := []) (lenOf own_pd2 rfl) rfl (by show 2 * 0 + _ ≤ _; exact Nat.le_of_eq rfl) (hb hby at_125) (fun _ _ => ⟨rfl, e7, (by decide : 0 + 0 ≤ _), (by decide : 0 + 0 ≤ _)⟩)
  dsimp only [Pt.U, Pt.locs, Pt.cells, Pt.slots] at X8 l8 y8 z8 st8 hQ8
  subst l8 y8 z8
  obtain ⟨rfl, N8q, e8⟩ := hQ8
  have N8 := Fr.app N7 N8q
  obtain ⟨cq9, kq9, q9a, q9b, q9c⟩ := isOf hZ e8 (U_EQUAL.2.1.ext O0.2)
  obtain ⟨_, _, ⟨T9, L9, k9, n9⟩, -, X9, ⟨Lc9, hQ9, l9, y9, z9⟩, st9⟩ := X8.virtualBack hx (y := (⟨"com/example/bindweave/bindweave/expression/Order", "reversed", "()Lcom/example/bindweave/bindweave/expression/Order;"⟩ : MethodName)) (z := (⟨"com/example/bindweave/bindweave/expression/Order", "reversed", "()Lcom/example/bindweave/bindweave/expression/Order;"⟩ : MethodName)) hown (mvT hZ (hw _ (own_m 5 rfl))) (mvT hZ (hw _ (own_m 6 rfl))) (notFace_of_selects (args := #[]) (mvT hZ (hw _ (own_m 8 rfl)))) (mvT hZ (hw _ (own_m 8 rfl))) (mvT hZ (hw _ (own_m 7 rfl))) (by decide) (backOf (W := 0) (own_rev_EQUAL l Z a0 hw [] w_LESS w_EQUAL w_GREATER w_UNORDERED  h0 n0 O0 U_LESS U_EQUAL U_GREATER U_UNORDERED ) hZ (hw _ (own_m 9 rfl)) (hw _ (own_m 1 rfl)) (by decide) (by decide)) q9a q9c (g := (mkF m 132 #[iv p0, iv p1, iv p2, iv 0, rv w_LESS, rv w_GREATER, rv w_GREATER, iv 1, iv 1, rv w_EQUAL, rv w_EQUAL, .unset, .unset] [(.ref w_EQUAL)])) rfl (by rw [hml]; rfl) (Steps.refl _) (argsL := []) (rest := []) (lenOf own_pd0 rfl) rfl (by show 2 * 0 + _ ≤ _; exact Nat.le_of_eq rfl) (hb hby at_132) (fun _ _ => ⟨rfl, e8, (by decide : 0 + 0 ≤ _), (by decide : 0 + 0 ≤ _)⟩)
  dsimp only [Pt.U, Pt.locs, Pt.cells, Pt.slots] at X9 l9 y9 z9 st9 hQ9
  subst l9 y9 z9
  obtain ⟨rfl, N9q, e9⟩ := hQ9
  have N9 := Fr.app N8 N9q
  obtain ⟨fs, hr, hrun, hended, hW, hsame⟩ := X9.leave (v := some (.int 1)) (fun h => by rw [Bd.returns] at h; cases h)
  refine ⟨_, _, pre0 _ ?_, hrun, hended, _, _, rfl, ?_, ⟨_, rfl⟩, hW, hsame.mono (by decide) (by decide)⟩
  · show Steps p.tables e below (s₁.setTop (mkF m 0 #[iv p0, iv p1, iv p2, .unset, .unset, .unset, .unset, .unset, .unset, .unset, .unset, .unset, .unset] [])) _
    refine XS.iloadN X0.here hx rfl (hb hby at_0) rfl ?_
    show Steps p.tables e below (s₁.setTop (mkF m 1 #[iv p0, iv p1, iv p2, .unset, .unset, .unset, .unset, .unset, .unset, .unset, .unset, .unset, .unset] [(.int p0)])) _
    refine XS.iconst X0.here hx rfl (hb hby at_1) ?_
    show Steps p.tables e below (s₁.setTop (mkF m 2 #[iv p0, iv p1, iv p2, .unset, .unset, .unset, .unset, .unset, .unset, .unset, .unset, .unset, .unset] [(.int 3), (.int p0)])) _
    refine XS.iand X0.here hx rfl (hb hby at_2) rfl ?_
    show Steps p.tables e below (s₁.setTop (mkF m 3 #[iv p0, iv p1, iv p2, .unset, .unset, .unset, .unset, .unset, .unset, .unset, .unset, .unset, .unset] [(.int (p0 &&& (3 : Int32)))])) _
    refine own_top (v' := (.int 0)) (congrArg Value.int hk.1) ?_
    show Steps p.tables e below (s₁.setTop (mkF m 3 #[iv p0, iv p1, iv p2, .unset, .unset, .unset, .unset, .unset, .unset, .unset, .unset, .unset, .unset] [(.int 0)])) _
    refine XS.istoreN X0.here hx rfl (hb hby at_3) rfl (l' := #[iv p0, iv p1, iv p2, iv 0, .unset, .unset, .unset, .unset, .unset, .unset, .unset, .unset, .unset]) rfl ?_
    show Steps p.tables e below (s₁.setTop (mkF m 4 #[iv p0, iv p1, iv p2, iv 0, .unset, .unset, .unset, .unset, .unset, .unset, .unset, .unset, .unset] [])) _
    refine XS.iloadN X0.here hx rfl (hb hby at_4) rfl ?_
    show Steps p.tables e below (s₁.setTop (mkF m 5 #[iv p0, iv p1, iv p2, iv 0, .unset, .unset, .unset, .unset, .unset, .unset, .unset, .unset, .unset] [(.int 0)])) _
    refine XS.ifNo X0.here hx rfl (hb hby at_5) rfl ((if0 _ _).trans (teq (by decide)).2) ?_
    show Steps p.tables e below (s₁.setTop (mkF m 8 #[iv p0, iv p1, iv p2, iv 0, .unset, .unset, .unset, .unset, .unset, .unset, .unset, .unset, .unset] [])) _
    refine st1 _ ?_
    show Steps p.tables e below (T1.setTop (mkF m 11 #[iv p0, iv p1, iv p2, iv 0, .unset, .unset, .unset, .unset, .unset, .unset, .unset, .unset, .unset] [(.ref w_LESS)])) _
    refine XS.astore X1.here hx rfl (hb hby at_11) rfl rfl (l' := #[iv p0, iv p1, iv p2, iv 0, rv w_LESS, .unset, .unset, .unset, .unset, .unset, .unset, .unset, .unset]) rfl ?_
    show Steps p.tables e below (T1.setTop (mkF m 13 #[iv p0, iv p1, iv p2, iv 0, rv w_LESS, .unset, .unset, .unset, .unset, .unset, .unset, .unset, .unset] [])) _
    refine st2 _ ?_
    show Steps p.tables e below (T2.setTop (mkF m 16 #[iv p0, iv p1, iv p2, iv 0, rv w_LESS, .unset, .unset, .unset, .unset, .unset, .unset, .unset, .unset] [(.ref w_GREATER)])) _
    refine XS.astore X2.here hx rfl (hb hby at_16) rfl rfl (l' := #[iv p0, iv p1, iv p2, iv 0, rv w_LESS, rv w_GREATER, .unset, .unset, .unset, .unset, .unset, .unset, .unset]) rfl ?_
    show Steps p.tables e below (T2.setTop (mkF m 18 #[iv p0, iv p1, iv p2, iv 0, rv w_LESS, rv w_GREATER, .unset, .unset, .unset, .unset, .unset, .unset, .unset] [])) _
    refine XS.goto X2.here hx rfl (pc0 := 18) (pc' := 67) rfl (hb hby at_18) (by decide) (by decide) ?_
    show Steps p.tables e below (T2.setTop (mkF m 67 #[iv p0, iv p1, iv p2, iv 0, rv w_LESS, rv w_GREATER, .unset, .unset, .unset, .unset, .unset, .unset, .unset] [])) _
    refine XS.aload X2.here hx rfl (hb hby at_67) rfl rfl ?_
    show Steps p.tables e below (T2.setTop (mkF m 69 #[iv p0, iv p1, iv p2, iv 0, rv w_LESS, rv w_GREATER, .unset, .unset, .unset, .unset, .unset, .unset, .unset] [(.ref w_LESS)])) _
    refine st3.trans ?_
    show Steps p.tables e below (T3.setTop (mkF m 72 #[iv p0, iv p1, iv p2, iv 0, rv w_LESS, rv w_GREATER, .unset, .unset, .unset, .unset, .unset, .unset, .unset] [(.ref w_GREATER)])) _
    refine XS.astore X3.here hx rfl (hb hby at_72) rfl rfl (l' := #[iv p0, iv p1, iv p2, iv 0, rv w_LESS, rv w_GREATER, rv w_GREATER, .unset, .unset, .unset, .unset, .unset, .unset]) rfl ?_
    show Steps p.tables e below (T3.setTop (mkF m 74 #[iv p0, iv p1, iv p2, iv 0, rv w_LESS, rv w_GREATER, rv w_GREATER, .unset, .unset, .unset, .unset, .unset, .unset] [])) _
    refine XS.aload X3.here hx rfl (hb hby at_74) rfl rfl ?_
    show Steps p.tables e below (T3.setTop (mkF m 76 #[iv p0, iv p1, iv p2, iv 0, rv w_LESS, rv w_GREATER, rv w_GREATER, .unset, .unset, .unset, .unset, .unset, .unset] [(.ref w_GREATER)])) _
    refine XS.aload X3.here hx rfl (hb hby at_76) rfl rfl ?_
    show Steps p.tables e below (T3.setTop (mkF m 78 #[iv p0, iv p1, iv p2, iv 0, rv w_LESS, rv w_GREATER, rv w_GREATER, .unset, .unset, .unset, .unset, .unset, .unset] [(.ref w_GREATER), (.ref w_GREATER)])) _
    refine Jvm.RoadKit.acmp (g := (mkF m 78 #[iv p0, iv p1, iv p2, iv 0, rv w_LESS, rv w_GREATER, rv w_GREATER, .unset, .unset, .unset, .unset, .unset, .unset] [(.ref w_GREATER), (.ref w_GREATER)])) X3 hx rfl rfl rfl (pc0 := 78) (pc' := 81) (same := true) rfl (hb hby at_78) rfl (decide_eq_true rfl) (by decide) (by decide) ?_
    show Steps p.tables e below (T3.setTop (mkF m 81 #[iv p0, iv p1, iv p2, iv 0, rv w_LESS, rv w_GREATER, rv w_GREATER, .unset, .unset, .unset, .unset, .unset, .unset] [])) _
    refine XS.iconst X3.here hx rfl (hb hby at_81) ?_
    show Steps p.tables e below (T3.setTop (mkF m 82 #[iv p0, iv p1, iv p2, iv 0, rv w_LESS, rv w_GREATER, rv w_GREATER, .unset, .unset, .unset, .unset, .unset, .unset] [(.int 1)])) _
    refine XS.goto X3.here hx rfl (pc0 := 82) (pc' := 86) rfl (hb hby at_82) (by decide) (by decide) ?_
    show Steps p.tables e below (T3.setTop (mkF m 86 #[iv p0, iv p1, iv p2, iv 0, rv w_LESS, rv w_GREATER, rv w_GREATER, .unset, .unset, .unset, .unset, .unset, .unset] [(.int 1)])) _
    refine XS.istore X3.here hx rfl (hb hby at_86) rfl (l' := #[iv p0, iv p1, iv p2, iv 0, rv w_LESS, rv w_GREATER, rv w_GREATER, iv 1, .unset, .unset, .unset, .unset, .unset]) rfl ?_
    show Steps p.tables e below (T3.setTop (mkF m 88 #[iv p0, iv p1, iv p2, iv 0, rv w_LESS, rv w_GREATER, rv w_GREATER, iv 1, .unset, .unset, .unset, .unset, .unset] [])) _
    refine XS.aload X3.here hx rfl (hb hby at_88) rfl rfl ?_
    show Steps p.tables e below (T3.setTop (mkF m 90 #[iv p0, iv p1, iv p2, iv 0, rv w_LESS, rv w_GREATER, rv w_GREATER, iv 1, .unset, .unset, .unset, .unset, .unset] [(.ref w_GREATER)])) _
    refine XS.ifnullNo X3.here hx rfl (hb hby at_90) rfl ?_
    show Steps p.tables e below (T3.setTop (mkF m 93 #[iv p0, iv p1, iv p2, iv 0, rv w_LESS, rv w_GREATER, rv w_GREATER, iv 1, .unset, .unset, .unset, .unset, .unset] [])) _
    refine XS.aload X3.here hx rfl (hb hby at_93) rfl rfl ?_
    show Steps p.tables e below (T3.setTop (mkF m 95 #[iv p0, iv p1, iv p2, iv 0, rv w_LESS, rv w_GREATER, rv w_GREATER, iv 1, .unset, .unset, .unset, .unset, .unset] [(.ref w_GREATER)])) _
    refine st4.trans ?_
    show Steps p.tables e below (T4.setTop (mkF m 98 #[iv p0, iv p1, iv p2, iv 0, rv w_LESS, rv w_GREATER, rv w_GREATER, iv 1, .unset, .unset, .unset, .unset, .unset] [(.ref w_LESS)])) _
    refine XS.aload X4.here hx rfl (hb hby at_98) rfl rfl ?_
    show Steps p.tables e below (T4.setTop (mkF m 100 #[iv p0, iv p1, iv p2, iv 0, rv w_LESS, rv w_GREATER, rv w_GREATER, iv 1, .unset, .unset, .unset, .unset, .unset] [(.ref w_LESS), (.ref w_LESS)])) _
    refine Jvm.RoadKit.acmp (g := (mkF m 100 #[iv p0, iv p1, iv p2, iv 0, rv w_LESS, rv w_GREATER, rv w_GREATER, iv 1, .unset, .unset, .unset, .unset, .unset] [(.ref w_LESS), (.ref w_LESS)])) X4 hx rfl rfl rfl (pc0 := 100) (pc' := 103) (same := true) rfl (hb hby at_100) rfl (decide_eq_true rfl) (by decide) (by decide) ?_
    show Steps p.tables e below (T4.setTop (mkF m 103 #[iv p0, iv p1, iv p2, iv 0, rv w_LESS, rv w_GREATER, rv w_GREATER, iv 1, .unset, .unset, .unset, .unset, .unset] [])) _
    refine XS.iconst X4.here hx rfl (hb hby at_103) ?_
    show Steps p.tables e below (T4.setTop (mkF m 104 #[iv p0, iv p1, iv p2, iv 0, rv w_LESS, rv w_GREATER, rv w_GREATER, iv 1, .unset, .unset, .unset, .unset, .unset] [(.int 1)])) _
    refine XS.goto X4.here hx rfl (pc0 := 104) (pc' := 108) rfl (hb hby at_104) (by decide) (by decide) ?_
    show Steps p.tables e below (T4.setTop (mkF m 108 #[iv p0, iv p1, iv p2, iv 0, rv w_LESS, rv w_GREATER, rv w_GREATER, iv 1, .unset, .unset, .unset, .unset, .unset] [(.int 1)])) _
    refine XS.istore X4.here hx rfl (hb hby at_108) rfl (l' := #[iv p0, iv p1, iv p2, iv 0, rv w_LESS, rv w_GREATER, rv w_GREATER, iv 1, iv 1, .unset, .unset, .unset, .unset]) rfl ?_
    show Steps p.tables e below (T4.setTop (mkF m 110 #[iv p0, iv p1, iv p2, iv 0, rv w_LESS, rv w_GREATER, rv w_GREATER, iv 1, iv 1, .unset, .unset, .unset, .unset] [])) _
    refine XS.iloadN X4.here hx rfl (hb hby at_110) rfl ?_
    show Steps p.tables e below (T4.setTop (mkF m 111 #[iv p0, iv p1, iv p2, iv 0, rv w_LESS, rv w_GREATER, rv w_GREATER, iv 1, iv 1, .unset, .unset, .unset, .unset] [(.int p1)])) _
    refine XS.iloadN X4.here hx rfl (hb hby at_111) rfl ?_
    show Steps p.tables e below (T4.setTop (mkF m 112 #[iv p0, iv p1, iv p2, iv 0, rv w_LESS, rv w_GREATER, rv w_GREATER, iv 1, iv 1, .unset, .unset, .unset, .unset] [(.int p2), (.int p1)])) _
    refine st5 _ ?_
    show Steps p.tables e below (T5.setTop (mkF m 115 #[iv p0, iv p1, iv p2, iv 0, rv w_LESS, rv w_GREATER, rv w_GREATER, iv 1, iv 1, .unset, .unset, .unset, .unset] [(.int 0)])) _
    refine st6 _ ?_
    show Steps p.tables e below (T6.setTop (mkF m 118 #[iv p0, iv p1, iv p2, iv 0, rv w_LESS, rv w_GREATER, rv w_GREATER, iv 1, iv 1, .unset, .unset, .unset, .unset] [(.ref w_EQUAL)])) _
    refine XS.astore X6.here hx rfl (hb hby at_118) rfl rfl (l' := #[iv p0, iv p1, iv p2, iv 0, rv w_LESS, rv w_GREATER, rv w_GREATER, iv 1, iv 1, rv w_EQUAL, .unset, .unset, .unset]) rfl ?_
    show Steps p.tables e below (T6.setTop (mkF m 120 #[iv p0, iv p1, iv p2, iv 0, rv w_LESS, rv w_GREATER, rv w_GREATER, iv 1, iv 1, rv w_EQUAL, .unset, .unset, .unset] [])) _
    refine XS.iloadN X6.here hx rfl (hb hby at_120) rfl ?_
    show Steps p.tables e below (T6.setTop (mkF m 121 #[iv p0, iv p1, iv p2, iv 0, rv w_LESS, rv w_GREATER, rv w_GREATER, iv 1, iv 1, rv w_EQUAL, .unset, .unset, .unset] [(.int p2)])) _
    refine XS.iloadN X6.here hx rfl (hb hby at_121) rfl ?_
    show Steps p.tables e below (T6.setTop (mkF m 122 #[iv p0, iv p1, iv p2, iv 0, rv w_LESS, rv w_GREATER, rv w_GREATER, iv 1, iv 1, rv w_EQUAL, .unset, .unset, .unset] [(.int p1), (.int p2)])) _
    refine st7 _ ?_
    show Steps p.tables e below (T7.setTop (mkF m 125 #[iv p0, iv p1, iv p2, iv 0, rv w_LESS, rv w_GREATER, rv w_GREATER, iv 1, iv 1, rv w_EQUAL, .unset, .unset, .unset] [(.int 0)])) _
    refine st8 _ ?_
    show Steps p.tables e below (T8.setTop (mkF m 128 #[iv p0, iv p1, iv p2, iv 0, rv w_LESS, rv w_GREATER, rv w_GREATER, iv 1, iv 1, rv w_EQUAL, .unset, .unset, .unset] [(.ref w_EQUAL)])) _
    refine XS.astore X8.here hx rfl (hb hby at_128) rfl rfl (l' := #[iv p0, iv p1, iv p2, iv 0, rv w_LESS, rv w_GREATER, rv w_GREATER, iv 1, iv 1, rv w_EQUAL, rv w_EQUAL, .unset, .unset]) rfl ?_
    show Steps p.tables e below (T8.setTop (mkF m 130 #[iv p0, iv p1, iv p2, iv 0, rv w_LESS, rv w_GREATER, rv w_GREATER, iv 1, iv 1, rv w_EQUAL, rv w_EQUAL, .unset, .unset] [])) _
    refine XS.aload X8.here hx rfl (hb hby at_130) rfl rfl ?_
    show Steps p.tables e below (T8.setTop (mkF m 132 #[iv p0, iv p1, iv p2, iv 0, rv w_LESS, rv w_GREATER, rv w_GREATER, iv 1, iv 1, rv w_EQUAL, rv w_EQUAL, .unset, .unset] [(.ref w_EQUAL)])) _
    refine st9.trans ?_
    show Steps p.tables e below (T9.setTop (mkF m 135 #[iv p0, iv p1, iv p2, iv 0, rv w_LESS, rv w_GREATER, rv w_GREATER, iv 1, iv 1, rv w_EQUAL, rv w_EQUAL, .unset, .unset] [(.ref w_EQUAL)])) _
    refine XS.astore X9.here hx rfl (hb hby at_135) rfl rfl (l' := #[iv p0, iv p1, iv p2, iv 0, rv w_LESS, rv w_GREATER, rv w_GREATER, iv 1, iv 1, rv w_EQUAL, rv w_EQUAL, rv w_EQUAL, .unset]) rfl ?_
    show Steps p.tables e below (T9.setTop (mkF m 137 #[iv p0, iv p1, iv p2, iv 0, rv w_LESS, rv w_GREATER, rv w_GREATER, iv 1, iv 1, rv w_EQUAL, rv w_EQUAL, rv w_EQUAL, .unset] [])) _
    refine XS.aload X9.here hx rfl (hb hby at_137) rfl rfl ?_
    show Steps p.tables e below (T9.setTop (mkF m 139 #[iv p0, iv p1, iv p2, iv 0, rv w_LESS, rv w_GREATER, rv w_GREATER, iv 1, iv 1, rv w_EQUAL, rv w_EQUAL, rv w_EQUAL, .unset] [(.ref w_EQUAL)])) _
    refine XS.aload X9.here hx rfl (hb hby at_139) rfl rfl ?_
    show Steps p.tables e below (T9.setTop (mkF m 141 #[iv p0, iv p1, iv p2, iv 0, rv w_LESS, rv w_GREATER, rv w_GREATER, iv 1, iv 1, rv w_EQUAL, rv w_EQUAL, rv w_EQUAL, .unset] [(.ref w_EQUAL), (.ref w_EQUAL)])) _
    refine Jvm.RoadKit.acmp (g := (mkF m 141 #[iv p0, iv p1, iv p2, iv 0, rv w_LESS, rv w_GREATER, rv w_GREATER, iv 1, iv 1, rv w_EQUAL, rv w_EQUAL, rv w_EQUAL, .unset] [(.ref w_EQUAL), (.ref w_EQUAL)])) X9 hx rfl rfl rfl (pc0 := 141) (pc' := 144) (same := true) rfl (hb hby at_141) rfl (decide_eq_true rfl) (by decide) (by decide) ?_
    show Steps p.tables e below (T9.setTop (mkF m 144 #[iv p0, iv p1, iv p2, iv 0, rv w_LESS, rv w_GREATER, rv w_GREATER, iv 1, iv 1, rv w_EQUAL, rv w_EQUAL, rv w_EQUAL, .unset] [])) _
    refine XS.iconst X9.here hx rfl (hb hby at_144) ?_
    show Steps p.tables e below (T9.setTop (mkF m 145 #[iv p0, iv p1, iv p2, iv 0, rv w_LESS, rv w_GREATER, rv w_GREATER, iv 1, iv 1, rv w_EQUAL, rv w_EQUAL, rv w_EQUAL, .unset] [(.int 1)])) _
    refine XS.goto X9.here hx rfl (pc0 := 145) (pc' := 149) rfl (hb hby at_145) (by decide) (by decide) ?_
    show Steps p.tables e below (T9.setTop (mkF m 149 #[iv p0, iv p1, iv p2, iv 0, rv w_LESS, rv w_GREATER, rv w_GREATER, iv 1, iv 1, rv w_EQUAL, rv w_EQUAL, rv w_EQUAL, .unset] [(.int 1)])) _
    refine XS.istore X9.here hx rfl (hb hby at_149) rfl (l' := #[iv p0, iv p1, iv p2, iv 0, rv w_LESS, rv w_GREATER, rv w_GREATER, iv 1, iv 1, rv w_EQUAL, rv w_EQUAL, rv w_EQUAL, iv 1]) rfl ?_
    show Steps p.tables e below (T9.setTop (mkF m 151 #[iv p0, iv p1, iv p2, iv 0, rv w_LESS, rv w_GREATER, rv w_GREATER, iv 1, iv 1, rv w_EQUAL, rv w_EQUAL, rv w_EQUAL, iv 1] [])) _
    refine XS.iload X9.here hx rfl (hb hby at_151) rfl ?_
    show Steps p.tables e below (T9.setTop (mkF m 153 #[iv p0, iv p1, iv p2, iv 0, rv w_LESS, rv w_GREATER, rv w_GREATER, iv 1, iv 1, rv w_EQUAL, rv w_EQUAL, rv w_EQUAL, iv 1] [(.int 1)])) _
    refine XS.ifNo X9.here hx rfl (hb hby at_153) rfl ((if0 _ _).trans (feq (by decide)).1) ?_
    show Steps p.tables e below (T9.setTop (mkF m 156 #[iv p0, iv p1, iv p2, iv 0, rv w_LESS, rv w_GREATER, rv w_GREATER, iv 1, iv 1, rv w_EQUAL, rv w_EQUAL, rv w_EQUAL, iv 1] [])) _
    refine XS.iload X9.here hx rfl (hb hby at_156) rfl ?_
    show Steps p.tables e below (T9.setTop (mkF m 158 #[iv p0, iv p1, iv p2, iv 0, rv w_LESS, rv w_GREATER, rv w_GREATER, iv 1, iv 1, rv w_EQUAL, rv w_EQUAL, rv w_EQUAL, iv 1] [(.int 1)])) _
    refine XS.ifNo X9.here hx rfl (hb hby at_158) rfl ((if0 _ _).trans (feq (by decide)).1) ?_
    show Steps p.tables e below (T9.setTop (mkF m 161 #[iv p0, iv p1, iv p2, iv 0, rv w_LESS, rv w_GREATER, rv w_GREATER, iv 1, iv 1, rv w_EQUAL, rv w_EQUAL, rv w_EQUAL, iv 1] [])) _
    refine XS.iload X9.here hx rfl (hb hby at_161) rfl ?_
    show Steps p.tables e below (T9.setTop (mkF m 163 #[iv p0, iv p1, iv p2, iv 0, rv w_LESS, rv w_GREATER, rv w_GREATER, iv 1, iv 1, rv w_EQUAL, rv w_EQUAL, rv w_EQUAL, iv 1] [(.int 1)])) _
    refine XS.ifNo X9.here hx rfl (hb hby at_163) rfl ((if0 _ _).trans (feq (by decide)).1) ?_
    show Steps p.tables e below (T9.setTop (mkF m 166 #[iv p0, iv p1, iv p2, iv 0, rv w_LESS, rv w_GREATER, rv w_GREATER, iv 1, iv 1, rv w_EQUAL, rv w_EQUAL, rv w_EQUAL, iv 1] [])) _
    refine XS.iconst X9.here hx rfl (hb hby at_166) ?_
    show Steps p.tables e below (T9.setTop (mkF m 167 #[iv p0, iv p1, iv p2, iv 0, rv w_LESS, rv w_GREATER, rv w_GREATER, iv 1, iv 1, rv w_EQUAL, rv w_EQUAL, rv w_EQUAL, iv 1] [(.int 1)])) _
    refine XS.goto X9.here hx rfl (pc0 := 167) (pc' := 171) rfl (hb hby at_167) (by decide) (by decide) ?_
    show Steps p.tables e below (T9.setTop (mkF m 171 #[iv p0, iv p1, iv p2, iv 0, rv w_LESS, rv w_GREATER, rv w_GREATER, iv 1, iv 1, rv w_EQUAL, rv w_EQUAL, rv w_EQUAL, iv 1] [(.int 1)])) _
    exact retN X9 hx (t := .boolean) Bd.returns (by simp) (hb hby at_171) hr
  · show own_law1_Q Z w_LESS w_EQUAL w_GREATER w_UNORDERED p0 p1 p2 h0 n0 _ T9.heap _
    rw [e9]
    exact ⟨rfl, N9, trivial⟩
theorem own_law2_ef (m : MethodId) (p0 : Int32) (p1 : Int32) (p2 : Int32) : entryFrame m #[(.int p0), (.int p1), (.int p2)] maxLocals = mkF m 0 #[iv p0, iv p1, iv p2, .unset, .unset, .unset, .unset, .unset, .unset, .unset, .unset, .unset, .unset] [] := by first | (simp [entryFrame, mkF, argsToLocals, Value.category, maxLocals]; done) | rfl
def own_law2_Q (Z : State) (w_LESS : Addr) (w_EQUAL : Addr) (w_GREATER : Addr) (w_UNORDERED : Addr) (p0 : Int32) (p1 : Int32) (p2 : Int32) (h0 : Heap) (n0 : Nat) (v : Option Value) (h : Heap) (L : List Loc) : Prop := v = some (.int 1) ∧ Fr n0 L ∧ True
set_option maxRecDepth 65536 in
set_option maxHeartbeats 40000000 in
theorem own_law2 (l : Launch) (Z : State) (a0 : Array Value) (hw : ∀ d ∈ tables_1, d.before a0 Z = true) (ws : List Jvm.Cond) (w_LESS : Addr) (w_EQUAL : Addr) (w_GREATER : Addr) (w_UNORDERED : Addr) (p0 : Int32) (p1 : Int32) (p2 : Int32) (h0 : Heap) (n0 : Nat) (O0 : Old Z n0 h0) (U_LESS : own_En Z Z.heap "com/example/bindweave/bindweave/expression/Order" "LESS" "Lcom/example/bindweave/bindweave/expression/Order;" w_LESS (0 : Int32)) (U_EQUAL : own_En Z Z.heap "com/example/bindweave/bindweave/expression/Order" "EQUAL" "Lcom/example/bindweave/bindweave/expression/Order;" w_EQUAL (1 : Int32)) (U_GREATER : own_En Z Z.heap "com/example/bindweave/bindweave/expression/Order" "GREATER" "Lcom/example/bindweave/bindweave/expression/Order;" w_GREATER (2 : Int32)) (U_UNORDERED : own_En Z Z.heap "com/example/bindweave/bindweave/expression/Order" "UNORDERED" "Lcom/example/bindweave/bindweave/expression/Order;" w_UNORDERED (3 : Int32)) (hk : (p0 &&& (3 : Int32)) = (0 : Int32) ∧ (¬ p1 < p2 ∧ p2 < p1)) :
    MetFree l x (head1 (Jvm.Cond.code x code maxLocals ret :: ws) room_1) (fun ar U => ar = #[(.int p0), (.int p1), (.int p2)] ∧ Z.Warmed39 U.vm ∧ U.heap = h0) (fun _ _ _ _ _ => True) (fun _ U oc U' => ∃ v L, oc = .returned v ∧ own_law2_Q Z w_LESS w_EQUAL w_GREATER w_UNORDERED p0 p1 p2 h0 n0 v U'.heap L ∧ FrameEnd U oc U' L 0 0) := by
  refine MetFree.of_bodySF (plainFor_of_name own_pn1) hisR ?_
  intro p e s m args below meth c s₁ Bd hml0 hP hK
  obtain ⟨rfl, hZ, hh⟩ := hP
  have hx := Bd.exec
  have hby := Bd.bytes
  have hml : c.maxLocals = 13 := hml0
  have hown : s.vm.findClass "com/example/bindweave/bindweave/expression/OrderReversedPinLaw" = some m.cls := findClass_of_methodNamed Bd.named
  have hnm := (name_of_methodNamed Bd.named Bd.method).1
  have X0 : Stand p l e room_1 s m #[(.int p0), (.int p1), (.int p2)] below meth c s₁ [] 0 0 := Stand.of_body Bd
  have e0 : s₁.heap = h0 := by rw [← hh, Bd.state]; rfl
  have N0 := Fr.nil n0
  have pre0 : ∀ t, Steps p.tables e below (s₁.setTop (mkF m 0 #[iv p0, iv p1, iv p2, .unset, .unset, .unset, .unset, .unset, .unset, .unset, .unset, .unset, .unset] [])) t → Steps p.tables e below (s₁.setTop (entryFrame m #[(.int p0), (.int p1), (.int p2)] maxLocals)) t := fun t k => castTop (own_law2_ef m p0 p1 p2) k
  obtain ⟨T1, X1, e1, st1⟩ := getS2 X0 hx hZ hown (host := "") (Or.inl (hw _ (own_m 0 rfl))) Via.refl e0 (U_LESS.1.ext O0.2) (g := (mkF m 8 #[iv p0, iv p1, iv p2, iv 0, .unset, .unset, .unset, .unset, .unset, .unset, .unset, .unset, .unset] [])) rfl (hb hby at_8)
  obtain ⟨T2, X2, e2, st2⟩ := getS2 X1 hx hZ hown (host := "") (Or.inl (hw _ (own_m 3 rfl))) Via.refl e1 (U_GREATER.1.ext O0.2) (g := (mkF m 13 #[iv p0, iv p1, iv p2, iv 0, rv w_LESS, .unset, .unset, .unset, .unset, .unset, .unset, .unset, .unset] [])) rfl (hb hby at_13)
  obtain ⟨cq3, kq3, q3a, q3b, q3c⟩ := isOf hZ e2 (U_LESS.2.1.ext O0.2)
  obtain ⟨_, _, ⟨T3, L3, k3, n3⟩, -, X3, ⟨Lc3, hQ3, l3, y3, z3⟩, st3⟩ := X2.virtualBack hx (y := (⟨"com/example/bindweave/bindweave/expression/Order", "reversed", "()Lcom/example/bindweave/bindweave/expression/Order;"⟩ : MethodName)) (z := (⟨"com/example/bindweave/bindweave/expression/Order", "reversed", "()Lcom/example/bindweave/bindweave/expression/Order;"⟩ : MethodName)) hown (mvT hZ (hw _ (own_m 5 rfl))) (mvT hZ (hw _ (own_m 6 rfl))) (notFace_of_selects (args := #[]) (mvT hZ (hw _ (own_m 8 rfl)))) (mvT hZ (hw _ (own_m 8 rfl))) (mvT hZ (hw _ (own_m 7 rfl))) (by decide) (backOf (W := 0) (own_rev_LESS l Z a0 hw [] w_LESS w_EQUAL w_GREATER w_UNORDERED  h0 n0 O0 U_LESS U_EQUAL U_GREATER U_UNORDERED ) hZ (hw _ (own_m 9 rfl)) (hw _ (own_m 1 rfl)) (by decide) (by decide)) q3a q3c (g := (mkF m 69 #[iv p0, iv p1, iv p2, iv 0, rv w_LESS, rv w_GREATER, .unset, .unset, .unset, .unset, .unset, .unset, .unset] [(.ref w_LESS)])) rfl (by rw [hml]; rfl) (Steps.refl _) (argsL := []) (rest := []) (lenOf own_pd0 rfl) rfl (by show 2 * 0 + _ ≤ _; exact Nat.le_of_eq rfl) (hb hby at_69) (fun _ _ => ⟨rfl, e2, (by decide : 0 + 0 ≤ _), (by decide : 0 + 0 ≤ _)⟩)
  dsimp only [Pt.U, Pt.locs, Pt.cells, Pt.slots] at X3 l3 y3 z3 st3 hQ3
  subst l3 y3 z3
  obtain ⟨rfl, N3q, e3⟩ := hQ3
  have N3 := Fr.app N0 N3q
  obtain ⟨cq4, kq4, q4a, q4b, q4c⟩ := isOf hZ e3 (U_GREATER.2.1.ext O0.2)
  obtain ⟨_, _, ⟨T4, L4, k4, n4⟩, -, X4, ⟨Lc4, hQ4, l4, y4, z4⟩, st4⟩ := X3.virtualBack hx (y := (⟨"com/example/bindweave/bindweave/expression/Order", "reversed", "()Lcom/example/bindweave/bindweave/expression/Order;"⟩ : MethodName)) (z := (⟨"com/example/bindweave/bindweave/expression/Order", "reversed", "()Lcom/example/bindweave/bindweave/expression/Order;"⟩ : MethodName)) hown (mvT hZ (hw _ (own_m 5 rfl))) (mvT hZ (hw _ (own_m 6 rfl))) (notFace_of_selects (args := #[]) (mvT hZ (hw _ (own_m 8 rfl)))) (mvT hZ (hw _ (own_m 8 rfl))) (mvT hZ (hw _ (own_m 7 rfl))) (by decide) (backOf (W := 0) (own_rev_GREATER l Z a0 hw [] w_LESS w_EQUAL w_GREATER w_UNORDERED  h0 n0 O0 U_LESS U_EQUAL U_GREATER U_UNORDERED ) hZ (hw _ (own_m 9 rfl)) (hw _ (own_m 1 rfl)) (by decide) (by decide)) q4a q4c (g := (mkF m 95 #[iv p0, iv p1, iv p2, iv 0, rv w_LESS, rv w_GREATER, rv w_GREATER, iv 1, .unset, .unset, .unset, .unset, .unset] [(.ref w_GREATER)])) rfl (by rw [hml]; rfl) (Steps.refl _) (argsL := []) (rest := []) (lenOf own_pd0 rfl) rfl (by show 2 * 0 + _ ≤ _; exact Nat.le_of_eq rfl) (hb hby at_95) (fun _ _ => ⟨rfl, e3, (by decide : 0 + 0 ≤ _), (by decide : 0 + 0 ≤ _)⟩)
  dsimp only [Pt.U, Pt.locs, Pt.cells, Pt.slots] at X4 l4 y4 z4 st4 hQ4
  subst l4 y4 z4
  obtain ⟨rfl, N4q, e4⟩ := hQ4
  have N4 := Fr.app N3 N4q
  obtain ⟨_, _, ⟨T5, L5, k5, n5⟩, -, X5, ⟨Lc5, hQ5, l5, y5, z5⟩, st5⟩ := Jvm.LawKit.callS X4 hx (y := (⟨"com/example/bindweave/bindweave/expression/OrderReversedPinLaw", "sign", "(II)I"⟩ : MethodName)) hown (mvT hZ (hw _ (own_m 12 rfl))) (mvT hZ (hw _ (own_m 13 rfl))) (mvT hZ (hw _ (own_m 14 rfl))) (mvT hZ (hw _ (own_m 15 rfl))) (by decide) (backOf (W := 0) (own_sg_G l Z a0 hw [] w_LESS w_EQUAL w_GREATER w_UNORDERED p1 p2 h0 n0 O0 U_LESS U_EQUAL U_GREATER U_UNORDERED hk.2.1 hk.2.2) hZ (hw _ (own_m 15 rfl)) (hw _ (own_m 14 rfl)) (by decide) (by decide)) (g := (mkF m 112 #[iv p0, iv p1, iv p2, iv 0, rv w_LESS, rv w_GREATER, rv w_GREATER, iv 1, iv 1, .unset, .unset, .unset, .unset] [(.int p2), (.int p1)])) rfl (by rw [hml]; rfl) (argsL := [(.int p1), (.int p2)]) (rest := []) (lenOf own_pd1 rfl) rfl (by show 2 * 0 + _ ≤ _; exact Nat.le_of_eq rfl) (hb hby at_112) (fun _ _ => ⟨rfl, e4, (by decide : 0 + 0 ≤ _), (by decide : 0 + 0 ≤ _)⟩)
  dsimp only [Pt.U, Pt.locs, Pt.cells, Pt.slots] at X5 l5 y5 z5 st5 hQ5
  subst l5 y5 z5
  obtain ⟨rfl, N5q, e5⟩ := hQ5
  have N5 := Fr.app N4 N5q
  obtain ⟨_, _, ⟨T6, L6, k6, n6⟩, -, X6, ⟨Lc6, hQ6, l6, y6, z6⟩, st6⟩ := Jvm.LawKit.callS X5 hx (y := (⟨"com/example/bindweave/bindweave/expression/Order", "of", "(I)Lcom/example/bindweave/bindweave/expression/Order;"⟩ : MethodName)) hown (mvT hZ (hw _ (own_m 16 rfl))) (mvT hZ (hw _ (own_m 17 rfl))) (mvT hZ (hw _ (own_m 1 rfl))) (mvT hZ (hw _ (own_m 18 rfl))) (by decide) (backOf (W := 0) (own_of_G l Z a0 hw [] w_LESS w_EQUAL w_GREATER w_UNORDERED (1 : Int32) h0 n0 O0 U_LESS U_EQUAL U_GREATER U_UNORDERED (by decide) (by decide)) hZ (hw _ (own_m 18 rfl)) (hw _ (own_m 1 rfl)) (by decide) (by decide)) (g := (mkF m 115 #[iv p0, iv p1, iv p2, iv 0, rv w_LESS, rv w_GREATER, rv w_GREATER, iv 1, iv 1, .unset, .unset, .unset, .unset] [(.int 1)])) rfl (by rw [hml]; rfl) (argsL := [(.int 1)]) (rest := []) (lenOf own_pd2 rfl) rfl (by show 2 * 0 + _ ≤ _; exact Nat.le_of_eq rfl) (hb hby at_115) (fun _ _ => ⟨rfl, e5, (by decide : 0 + 0 ≤ _), (by decide : 0 + 0 ≤ _)⟩)
  dsimp only [Pt.U, Pt.locs, Pt.cells, Pt.slots] at X6 l6 y6 z6 st6 hQ6
  subst l6 y6 z6
  obtain ⟨rfl, N6q, e6⟩ := hQ6
  have N6 := Fr.app N5 N6q
  obtain ⟨_, _, ⟨T7, L7, k7, n7⟩, -, X7, ⟨Lc7, hQ7, l7, y7, z7⟩, st7⟩ := Jvm.LawKit.callS X6 hx (y := (⟨"com/example/bindweave/bindweave/expression/OrderReversedPinLaw", "sign", "(II)I"⟩ : MethodName)) hown (mvT hZ (hw _ (own_m 12 rfl))) (mvT hZ (hw _ (own_m 13 rfl))) (mvT hZ (hw _ (own_m 14 rfl))) (mvT hZ (hw _ (own_m 15 rfl))) (by decide) (backOf (W := 0) (own_sg_L l Z a0 hw [] w_LESS w_EQUAL w_GREATER w_UNORDERED p2 p1 h0 n0 O0 U_LESS U_EQUAL U_GREATER U_UNORDERED hk.2.2) hZ (hw _ (own_m 15 rfl)) (hw _ (own_m 14 rfl)) (by decide) (by decide)) (g := (mkF m 122 #[iv p0, iv p1, iv p2, iv 0, rv w_LESS, rv w_GREATER, rv w_GREATER, iv 1, iv 1, rv w_GREATER, .unset, .unset, .unset] [(.int p1), (.int p2)])) rfl (by rw [hml]; rfl) (argsL := [(.int p2), (.int p1)]) (rest := []) (lenOf own_pd1 rfl) rfl (by show 2 * 0 + _ ≤ _; exact Nat.le_of_eq rfl) (hb hby at_122) (fun _ _ => ⟨rfl, e6, (by decide : 0 + 0 ≤ _), (by decide : 0 + 0 ≤ _)⟩)
  dsimp only [Pt.U, Pt.locs, Pt.cells, Pt.slots] at X7 l7 y7 z7 st7 hQ7
  subst l7 y7 z7
  obtain ⟨rfl, N7q, e7⟩ := hQ7
  have N7 := Fr.app N6 N7q
  obtain ⟨_, _, ⟨T8, L8, k8, n8⟩, -, X8, ⟨Lc8, hQ8, l8, y8, z8⟩, st8⟩ := Jvm.LawKit.callS X7 hx (y := (⟨"com/example/bindweave/bindweave/expression/Order", "of", "(I)Lcom/example/bindweave/bindweave/expression/Order;"⟩ : MethodName)) hown (mvT hZ (hw _ (own_m 16 rfl))) (mvT hZ (hw _ (own_m 17 rfl))) (mvT hZ (hw _ (own_m 1 rfl))) (mvT hZ (hw _ (own_m 18 rfl))) (by decide) (backOf (W := 0) (own_of_L l Z a0 hw [] w_LESS w_EQUAL w_GREATER w_UNORDERED (-1 : Int32) h0 n0 O0 U_LESS U_EQUAL U_GREATER U_UNORDERED (by decide)) hZ (hw _ (own_m 18 rfl)) (hw _ (own_m 1 rfl)) (by decide) (by decide)) (g := (mkF m 125 #[iv p0, iv p1, iv p2, iv 0, rv w_LESS, rv w_GREATER, rv w_GREATER, iv 1, iv 1, rv w_GREATER, .unset, .unset, .unset] [(.int (-1))])) rfl (by rw [hml]; rfl) (argsL := [(.int (-1))]) (rest := []) (lenOf own_pd2 rfl) rfl (by show 2 * 0 + _ ≤ _; exact Nat.le_of_eq rfl) (hb hby at_125) (fun _ _ => ⟨rfl, e7, (by decide : 0 + 0 ≤ _), (by decide : 0 + 0 ≤ _)⟩)
  dsimp only [Pt.U, Pt.locs, Pt.cells, Pt.slots] at X8 l8 y8 z8 st8 hQ8
  subst l8 y8 z8
  obtain ⟨rfl, N8q, e8⟩ := hQ8
  have N8 := Fr.app N7 N8q
  obtain ⟨cq9, kq9, q9a, q9b, q9c⟩ := isOf hZ e8 (U_GREATER.2.1.ext O0.2)
  obtain ⟨_, _, ⟨T9, L9, k9, n9⟩, -, X9, ⟨Lc9, hQ9, l9, y9, z9⟩, st9⟩ := X8.virtualBack hx (y := (⟨"com/example/bindweave/bindweave/expression/Order", "reversed", "()Lcom/example/bindweave/bindweave/expression/Order;"⟩ : MethodName)) (z := (⟨"com/example/bindweave/bindweave/expression/Order", "reversed", "()Lcom/example/bindweave/bindweave/expression/Order;"⟩ : MethodName)) hown (mvT hZ (hw _ (own_m 5 rfl))) (mvT hZ (hw _ (own_m 6 rfl))) (notFace_of_selects (args := #[]) (mvT hZ (hw _ (own_m 8 rfl)))) (mvT hZ (hw _ (own_m 8 rfl))) (mvT hZ (hw _ (own_m 7 rfl))) (by decide) (backOf (W := 0) (own_rev_GREATER l Z a0 hw [] w_LESS w_EQUAL w_GREATER w_UNORDERED  h0 n0 O0 U_LESS U_EQUAL U_GREATER U_UNORDERED ) hZ (hw _ (own_m 9 rfl)) (hw _ (own_m 1 rfl)) (by decide) (by decide)) q9a q9c (g := (mkF m 132 #[iv p0, iv p1, iv p2, iv 0, rv w_LESS, rv w_GREATER, rv w_GREATER, iv 1, iv 1, rv w_GREATER, rv w_LESS, .unset, .unset] [(.ref w_GREATER)])) rfl (by rw [hml]; rfl) (Steps.refl _) (argsL := []) (rest := []) (lenOf own_pd0 rfl) rfl (by show 2 * 0 + _ ≤ _; exact Nat.le_of_eq rfl) (hb hby at_132) (fun _ _ => ⟨rfl, e8, (by decide : 0 + 0 ≤ _), (by decide : 0 + 0 ≤ _)⟩)
  dsimp only [Pt.U, Pt.locs, Pt.cells, Pt.slots] at X9 l9 y9 z9 st9 hQ9
  subst l9 y9 z9
  obtain ⟨rfl, N9q, e9⟩ := hQ9
  have N9 := Fr.app N8 N9q
  obtain ⟨fs, hr, hrun, hended, hW, hsame⟩ := X9.leave (v := some (.int 1)) (fun h => by rw [Bd.returns] at h; cases h)
  refine ⟨_, _, pre0 _ ?_, hrun, hended, _, _, rfl, ?_, ⟨_, rfl⟩, hW, hsame.mono (by decide) (by decide)⟩
  · show Steps p.tables e below (s₁.setTop (mkF m 0 #[iv p0, iv p1, iv p2, .unset, .unset, .unset, .unset, .unset, .unset, .unset, .unset, .unset, .unset] [])) _
    refine XS.iloadN X0.here hx rfl (hb hby at_0) rfl ?_
    show Steps p.tables e below (s₁.setTop (mkF m 1 #[iv p0, iv p1, iv p2, .unset, .unset, .unset, .unset, .unset, .unset, .unset, .unset, .unset, .unset] [(.int p0)])) _
    refine XS.iconst X0.here hx rfl (hb hby at_1) ?_
    show Steps p.tables e below (s₁.setTop (mkF m 2 #[iv p0, iv p1, iv p2, .unset, .unset, .unset, .unset, .unset, .unset, .unset, .unset, .unset, .unset] [(.int 3), (.int p0)])) _
    refine XS.iand X0.here hx rfl (hb hby at_2) rfl ?_
    show Steps p.tables e below (s₁.setTop (mkF m 3 #[iv p0, iv p1, iv p2, .unset, .unset, .unset, .unset, .unset, .unset, .unset, .unset, .unset, .unset] [(.int (p0 &&& (3 : Int32)))])) _
    refine own_top (v' := (.int 0)) (congrArg Value.int hk.1) ?_
    show Steps p.tables e below (s₁.setTop (mkF m 3 #[iv p0, iv p1, iv p2, .unset, .unset, .unset, .unset, .unset, .unset, .unset, .unset, .unset, .unset] [(.int 0)])) _
    refine XS.istoreN X0.here hx rfl (hb hby at_3) rfl (l' := #[iv p0, iv p1, iv p2, iv 0, .unset, .unset, .unset, .unset, .unset, .unset, .unset, .unset, .unset]) rfl ?_
    show Steps p.tables e below (s₁.setTop (mkF m 4 #[iv p0, iv p1, iv p2, iv 0, .unset, .unset, .unset, .unset, .unset, .unset, .unset, .unset, .unset] [])) _
    refine XS.iloadN X0.here hx rfl (hb hby at_4) rfl ?_
    show Steps p.tables e below (s₁.setTop (mkF m 5 #[iv p0, iv p1, iv p2, iv 0, .unset, .unset, .unset, .unset, .unset, .unset, .unset, .unset, .unset] [(.int 0)])) _
    refine XS.ifNo X0.here hx rfl (hb hby at_5) rfl ((if0 _ _).trans (teq (by decide)).2) ?_
    show Steps p.tables e below (s₁.setTop (mkF m 8 #[iv p0, iv p1, iv p2, iv 0, .unset, .unset, .unset, .unset, .unset, .unset, .unset, .unset, .unset] [])) _
    refine st1 _ ?_
    show Steps p.tables e below (T1.setTop (mkF m 11 #[iv p0, iv p1, iv p2, iv 0, .unset, .unset, .unset, .unset, .unset, .unset, .unset, .unset, .unset] [(.ref w_LESS)])) _
    refine XS.astore X1.here hx rfl (hb hby at_11) rfl rfl (l' := #[iv p0, iv p1, iv p2, iv 0, rv w_LESS, .unset, .unset, .unset, .unset, .unset, .unset, .unset, .unset]) rfl ?_
    show Steps p.tables e below (T1.setTop (mkF m 13 #[iv p0, iv p1, iv p2, iv 0, rv w_LESS, .unset, .unset, .unset, .unset, .unset, .unset, .unset, .unset] [])) _
    refine st2 _ ?_
    show Steps p.tables e below (T2.setTop (mkF m 16 #[iv p0, iv p1, iv p2, iv 0, rv w_LESS, .unset, .unset, .unset, .unset, .unset, .unset, .unset, .unset] [(.ref w_GREATER)])) _
    refine XS.astore X2.here hx rfl (hb hby at_16) rfl rfl (l' := #[iv p0, iv p1, iv p2, iv 0, rv w_LESS, rv w_GREATER, .unset, .unset, .unset, .unset, .unset, .unset, .unset]) rfl ?_
    show Steps p.tables e below (T2.setTop (mkF m 18 #[iv p0, iv p1, iv p2, iv 0, rv w_LESS, rv w_GREATER, .unset, .unset, .unset, .unset, .unset, .unset, .unset] [])) _
    refine XS.goto X2.here hx rfl (pc0 := 18) (pc' := 67) rfl (hb hby at_18) (by decide) (by decide) ?_
    show Steps p.tables e below (T2.setTop (mkF m 67 #[iv p0, iv p1, iv p2, iv 0, rv w_LESS, rv w_GREATER, .unset, .unset, .unset, .unset, .unset, .unset, .unset] [])) _
    refine XS.aload X2.here hx rfl (hb hby at_67) rfl rfl ?_
    show Steps p.tables e below (T2.setTop (mkF m 69 #[iv p0, iv p1, iv p2, iv 0, rv w_LESS, rv w_GREATER, .unset, .unset, .unset, .unset, .unset, .unset, .unset] [(.ref w_LESS)])) _
    refine st3.trans ?_
    show Steps p.tables e below (T3.setTop (mkF m 72 #[iv p0, iv p1, iv p2, iv 0, rv w_LESS, rv w_GREATER, .unset, .unset, .unset, .unset, .unset, .unset, .unset] [(.ref w_GREATER)])) _
    refine XS.astore X3.here hx rfl (hb hby at_72) rfl rfl (l' := #[iv p0, iv p1, iv p2, iv 0, rv w_LESS, rv w_GREATER, rv w_GREATER, .unset, .unset, .unset, .unset, .unset, .unset]) rfl ?_
    show Steps p.tables e below (T3.setTop (mkF m 74 #[iv p0, iv p1, iv p2, iv 0, rv w_LESS, rv w_GREATER, rv w_GREATER, .unset, .unset, .unset, .unset, .unset, .unset] [])) _
    refine XS.aload X3.here hx rfl (hb hby at_74) rfl rfl ?_
    show Steps p.tables e below (T3.setTop (mkF m 76 #[iv p0, iv p1, iv p2, iv 0, rv w_LESS, rv w_GREATER, rv w_GREATER, .unset, .unset, .unset, .unset, .unset, .unset] [(.ref w_GREATER)])) _
    refine XS.aload X3.here hx rfl (hb hby at_76) rfl rfl ?_
    show Steps p.tables e below (T3.setTop (mkF m 78 #[iv p0, iv p1, iv p2, iv 0, rv w_LESS, rv w_GREATER, rv w_GREATER, .unset, .unset, .unset, .unset, .unset, .unset] [(.ref w_GREATER), (.ref w_GREATER)])) _
    refine Jvm.RoadKit.acmp (g := (mkF m 78 #[iv p0, iv p1, iv p2, iv 0, rv w_LESS, rv w_GREATER, rv w_GREATER, .unset, .unset, .unset, .unset, .unset, .unset] [(.ref w_GREATER), (.ref w_GREATER)])) X3 hx rfl rfl rfl (pc0 := 78) (pc' := 81) (same := true) rfl (hb hby at_78) rfl (decide_eq_true rfl) (by decide) (by decide) ?_
    show Steps p.tables e below (T3.setTop (mkF m 81 #[iv p0, iv p1, iv p2, iv 0, rv w_LESS, rv w_GREATER, rv w_GREATER, .unset, .unset, .unset, .unset, .unset, .unset] [])) _
    refine XS.iconst X3.here hx rfl (hb hby at_81) ?_
    show Steps p.tables e below (T3.setTop (mkF m 82 #[iv p0, iv p1, iv p2, iv 0, rv w_LESS, rv w_GREATER, rv w_GREATER, .unset, .unset, .unset, .unset, .unset, .unset] [(.int 1)])) _
    refine XS.goto X3.here hx rfl (pc0 := 82) (pc' := 86) rfl (hb hby at_82) (by decide) (by decide) ?_
    show Steps p.tables e below (T3.setTop (mkF m 86 #[iv p0, iv p1, iv p2, iv 0, rv w_LESS, rv w_GREATER, rv w_GREATER, .unset, .unset, .unset, .unset, .unset, .unset] [(.int 1)])) _
    refine XS.istore X3.here hx rfl (hb hby at_86) rfl (l' := #[iv p0, iv p1, iv p2, iv 0, rv w_LESS, rv w_GREATER, rv w_GREATER, iv 1, .unset, .unset, .unset, .unset, .unset]) rfl ?_
    show Steps p.tables e below (T3.setTop (mkF m 88 #[iv p0, iv p1, iv p2, iv 0, rv w_LESS, rv w_GREATER, rv w_GREATER, iv 1, .unset, .unset, .unset, .unset, .unset] [])) _
    refine XS.aload X3.here hx rfl (hb hby at_88) rfl rfl ?_
    show Steps p.tables e below (T3.setTop (mkF m 90 #[iv p0, iv p1, iv p2, iv 0, rv w_LESS, rv w_GREATER, rv w_GREATER, iv 1, .unset, .unset, .unset, .unset, .unset] [(.ref w_GREATER)])) _
    refine XS.ifnullNo X3.here hx rfl (hb hby at_90) rfl ?_
    show Steps p.tables e below (T3.setTop (mkF m 93 #[iv p0, iv p1, iv p2, iv 0, rv w_LESS, rv w_GREATER, rv w_GREATER, iv 1, .unset, .unset, .unset, .unset, .unset] [])) _
    refine XS.aload X3.here hx rfl (hb hby at_93) rfl rfl ?_
    show Steps p.tables e below (T3.setTop (mkF m 95 #[iv p0, iv p1, iv p2, iv 0, rv w_LESS, rv w_GREATER, rv w_GREATER, iv 1, .unset, .unset, .unset, .unset, .unset] [(.ref w_GREATER)])) _
    refine st4.trans ?_
    show Steps p.tables e below (T4.setTop (mkF m 98 #[iv p0, iv p1, iv p2, iv 0, rv w_LESS, rv w_GREATER, rv w_GREATER, iv 1, .unset, .unset, .unset, .unset, .unset] [(.ref w_LESS)])) _
    refine XS.aload X4.here hx rfl (hb hby at_98) rfl rfl ?_
    show Steps p.tables e below (T4.setTop (mkF m 100 #[iv p0, iv p1, iv p2, iv 0, rv w_LESS, rv w_GREATER, rv w_GREATER, iv 1, .unset, .unset, .unset, .unset, .unset] [(.ref w_LESS), (.ref w_LESS)])) _
    refine Jvm.RoadKit.acmp (g := (mkF m 100 #[iv p0, iv p1, iv p2, iv 0, rv w_LESS, rv w_GREATER, rv w_GREATER, iv 1, .unset, .unset, .unset, .unset, .unset] [(.ref w_LESS), (.ref w_LESS)])) X4 hx rfl rfl rfl (pc0 := 100) (pc' := 103) (same := true) rfl (hb hby at_100) rfl (decide_eq_true rfl) (by decide) (by decide) ?_
    show Steps p.tables e below (T4.setTop (mkF m 103 #[iv p0, iv p1, iv p2, iv 0, rv w_LESS, rv w_GREATER, rv w_GREATER, iv 1, .unset, .unset, .unset, .unset, .unset] [])) _
    refine XS.iconst X4.here hx rfl (hb hby at_103) ?_
    show Steps p.tables e below (T4.setTop (mkF m 104 #[iv p0, iv p1, iv p2, iv 0, rv w_LESS, rv w_GREATER, rv w_GREATER, iv 1, .unset, .unset, .unset, .unset, .unset] [(.int 1)])) _
    refine XS.goto X4.here hx rfl (pc0 := 104) (pc' := 108) rfl (hb hby at_104) (by decide) (by decide) ?_
    show Steps p.tables e below (T4.setTop (mkF m 108 #[iv p0, iv p1, iv p2, iv 0, rv w_LESS, rv w_GREATER, rv w_GREATER, iv 1, .unset, .unset, .unset, .unset, .unset] [(.int 1)])) _
    refine XS.istore X4.here hx rfl (hb hby at_108) rfl (l' := #[iv p0, iv p1, iv p2, iv 0, rv w_LESS, rv w_GREATER, rv w_GREATER, iv 1, iv 1, .unset, .unset, .unset, .unset]) rfl ?_
    show Steps p.tables e below (T4.setTop (mkF m 110 #[iv p0, iv p1, iv p2, iv 0, rv w_LESS, rv w_GREATER, rv w_GREATER, iv 1, iv 1, .unset, .unset, .unset, .unset] [])) _
    refine XS.iloadN X4.here hx rfl (hb hby at_110) rfl ?_
    show Steps p.tables e below (T4.setTop (mkF m 111 #[iv p0, iv p1, iv p2, iv 0, rv w_LESS, rv w_GREATER, rv w_GREATER, iv 1, iv 1, .unset, .unset, .unset, .unset] [(.int p1)])) _
    refine XS.iloadN X4.here hx rfl (hb hby at_111) rfl ?_
    show Steps p.tables e below (T4.setTop (mkF m 112 #[iv p0, iv p1, iv p2, iv 0, rv w_LESS, rv w_GREATER, rv w_GREATER, iv 1, iv 1, .unset, .unset, .unset, .unset] [(.int p2), (.int p1)])) _
    refine st5 _ ?_
    show Steps p.tables e below (T5.setTop (mkF m 115 #[iv p0, iv p1, iv p2, iv 0, rv w_LESS, rv w_GREATER, rv w_GREATER, iv 1, iv 1, .unset, .unset, .unset, .unset] [(.int 1)])) _
    refine st6 _ ?_
    show Steps p.tables e below (T6.setTop (mkF m 118 #[iv p0, iv p1, iv p2, iv 0, rv w_LESS, rv w_GREATER, rv w_GREATER, iv 1, iv 1, .unset, .unset, .unset, .unset] [(.ref w_GREATER)])) _
    refine XS.astore X6.here hx rfl (hb hby at_118) rfl rfl (l' := #[iv p0, iv p1, iv p2, iv 0, rv w_LESS, rv w_GREATER, rv w_GREATER, iv 1, iv 1, rv w_GREATER, .unset, .unset, .unset]) rfl ?_
    show Steps p.tables e below (T6.setTop (mkF m 120 #[iv p0, iv p1, iv p2, iv 0, rv w_LESS, rv w_GREATER, rv w_GREATER, iv 1, iv 1, rv w_GREATER, .unset, .unset, .unset] [])) _
    refine XS.iloadN X6.here hx rfl (hb hby at_120) rfl ?_
    show Steps p.tables e below (T6.setTop (mkF m 121 #[iv p0, iv p1, iv p2, iv 0, rv w_LESS, rv w_GREATER, rv w_GREATER, iv 1, iv 1, rv w_GREATER, .unset, .unset, .unset] [(.int p2)])) _
    refine XS.iloadN X6.here hx rfl (hb hby at_121) rfl ?_
    show Steps p.tables e below (T6.setTop (mkF m 122 #[iv p0, iv p1, iv p2, iv 0, rv w_LESS, rv w_GREATER, rv w_GREATER, iv 1, iv 1, rv w_GREATER, .unset, .unset, .unset] [(.int p1), (.int p2)])) _
    refine st7 _ ?_
    show Steps p.tables e below (T7.setTop (mkF m 125 #[iv p0, iv p1, iv p2, iv 0, rv w_LESS, rv w_GREATER, rv w_GREATER, iv 1, iv 1, rv w_GREATER, .unset, .unset, .unset] [(.int (-1))])) _
    refine st8 _ ?_
    show Steps p.tables e below (T8.setTop (mkF m 128 #[iv p0, iv p1, iv p2, iv 0, rv w_LESS, rv w_GREATER, rv w_GREATER, iv 1, iv 1, rv w_GREATER, .unset, .unset, .unset] [(.ref w_LESS)])) _
    refine XS.astore X8.here hx rfl (hb hby at_128) rfl rfl (l' := #[iv p0, iv p1, iv p2, iv 0, rv w_LESS, rv w_GREATER, rv w_GREATER, iv 1, iv 1, rv w_GREATER, rv w_LESS, .unset, .unset]) rfl ?_
    show Steps p.tables e below (T8.setTop (mkF m 130 #[iv p0, iv p1, iv p2, iv 0, rv w_LESS, rv w_GREATER, rv w_GREATER, iv 1, iv 1, rv w_GREATER, rv w_LESS, .unset, .unset] [])) _
    refine XS.aload X8.here hx rfl (hb hby at_130) rfl rfl ?_
    show Steps p.tables e below (T8.setTop (mkF m 132 #[iv p0, iv p1, iv p2, iv 0, rv w_LESS, rv w_GREATER, rv w_GREATER, iv 1, iv 1, rv w_GREATER, rv w_LESS, .unset, .unset] [(.ref w_GREATER)])) _
    refine st9.trans ?_
    show Steps p.tables e below (T9.setTop (mkF m 135 #[iv p0, iv p1, iv p2, iv 0, rv w_LESS, rv w_GREATER, rv w_GREATER, iv 1, iv 1, rv w_GREATER, rv w_LESS, .unset, .unset] [(.ref w_LESS)])) _
    refine XS.astore X9.here hx rfl (hb hby at_135) rfl rfl (l' := #[iv p0, iv p1, iv p2, iv 0, rv w_LESS, rv w_GREATER, rv w_GREATER, iv 1, iv 1, rv w_GREATER, rv w_LESS, rv w_LESS, .unset]) rfl ?_
    show Steps p.tables e below (T9.setTop (mkF m 137 #[iv p0, iv p1, iv p2, iv 0, rv w_LESS, rv w_GREATER, rv w_GREATER, iv 1, iv 1, rv w_GREATER, rv w_LESS, rv w_LESS, .unset] [])) _
    refine XS.aload X9.here hx rfl (hb hby at_137) rfl rfl ?_
    show Steps p.tables e below (T9.setTop (mkF m 139 #[iv p0, iv p1, iv p2, iv 0, rv w_LESS, rv w_GREATER, rv w_GREATER, iv 1, iv 1, rv w_GREATER, rv w_LESS, rv w_LESS, .unset] [(.ref w_LESS)])) _
    refine XS.aload X9.here hx rfl (hb hby at_139) rfl rfl ?_
    show Steps p.tables e below (T9.setTop (mkF m 141 #[iv p0, iv p1, iv p2, iv 0, rv w_LESS, rv w_GREATER, rv w_GREATER, iv 1, iv 1, rv w_GREATER, rv w_LESS, rv w_LESS, .unset] [(.ref w_LESS), (.ref w_LESS)])) _
    refine Jvm.RoadKit.acmp (g := (mkF m 141 #[iv p0, iv p1, iv p2, iv 0, rv w_LESS, rv w_GREATER, rv w_GREATER, iv 1, iv 1, rv w_GREATER, rv w_LESS, rv w_LESS, .unset] [(.ref w_LESS), (.ref w_LESS)])) X9 hx rfl rfl rfl (pc0 := 141) (pc' := 144) (same := true) rfl (hb hby at_141) rfl (decide_eq_true rfl) (by decide) (by decide) ?_
    show Steps p.tables e below (T9.setTop (mkF m 144 #[iv p0, iv p1, iv p2, iv 0, rv w_LESS, rv w_GREATER, rv w_GREATER, iv 1, iv 1, rv w_GREATER, rv w_LESS, rv w_LESS, .unset] [])) _
    refine XS.iconst X9.here hx rfl (hb hby at_144) ?_
    show Steps p.tables e below (T9.setTop (mkF m 145 #[iv p0, iv p1, iv p2, iv 0, rv w_LESS, rv w_GREATER, rv w_GREATER, iv 1, iv 1, rv w_GREATER, rv w_LESS, rv w_LESS, .unset] [(.int 1)])) _
    refine XS.goto X9.here hx rfl (pc0 := 145) (pc' := 149) rfl (hb hby at_145) (by decide) (by decide) ?_
    show Steps p.tables e below (T9.setTop (mkF m 149 #[iv p0, iv p1, iv p2, iv 0, rv w_LESS, rv w_GREATER, rv w_GREATER, iv 1, iv 1, rv w_GREATER, rv w_LESS, rv w_LESS, .unset] [(.int 1)])) _
    refine XS.istore X9.here hx rfl (hb hby at_149) rfl (l' := #[iv p0, iv p1, iv p2, iv 0, rv w_LESS, rv w_GREATER, rv w_GREATER, iv 1, iv 1, rv w_GREATER, rv w_LESS, rv w_LESS, iv 1]) rfl ?_
    show Steps p.tables e below (T9.setTop (mkF m 151 #[iv p0, iv p1, iv p2, iv 0, rv w_LESS, rv w_GREATER, rv w_GREATER, iv 1, iv 1, rv w_GREATER, rv w_LESS, rv w_LESS, iv 1] [])) _
    refine XS.iload X9.here hx rfl (hb hby at_151) rfl ?_
    show Steps p.tables e below (T9.setTop (mkF m 153 #[iv p0, iv p1, iv p2, iv 0, rv w_LESS, rv w_GREATER, rv w_GREATER, iv 1, iv 1, rv w_GREATER, rv w_LESS, rv w_LESS, iv 1] [(.int 1)])) _
    refine XS.ifNo X9.here hx rfl (hb hby at_153) rfl ((if0 _ _).trans (feq (by decide)).1) ?_
    show Steps p.tables e below (T9.setTop (mkF m 156 #[iv p0, iv p1, iv p2, iv 0, rv w_LESS, rv w_GREATER, rv w_GREATER, iv 1, iv 1, rv w_GREATER, rv w_LESS, rv w_LESS, iv 1] [])) _
    refine XS.iload X9.here hx rfl (hb hby at_156) rfl ?_
    show Steps p.tables e below (T9.setTop (mkF m 158 #[iv p0, iv p1, iv p2, iv 0, rv w_LESS, rv w_GREATER, rv w_GREATER, iv 1, iv 1, rv w_GREATER, rv w_LESS, rv w_LESS, iv 1] [(.int 1)])) _
    refine XS.ifNo X9.here hx rfl (hb hby at_158) rfl ((if0 _ _).trans (feq (by decide)).1) ?_
    show Steps p.tables e below (T9.setTop (mkF m 161 #[iv p0, iv p1, iv p2, iv 0, rv w_LESS, rv w_GREATER, rv w_GREATER, iv 1, iv 1, rv w_GREATER, rv w_LESS, rv w_LESS, iv 1] [])) _
    refine XS.iload X9.here hx rfl (hb hby at_161) rfl ?_
    show Steps p.tables e below (T9.setTop (mkF m 163 #[iv p0, iv p1, iv p2, iv 0, rv w_LESS, rv w_GREATER, rv w_GREATER, iv 1, iv 1, rv w_GREATER, rv w_LESS, rv w_LESS, iv 1] [(.int 1)])) _
    refine XS.ifNo X9.here hx rfl (hb hby at_163) rfl ((if0 _ _).trans (feq (by decide)).1) ?_
    show Steps p.tables e below (T9.setTop (mkF m 166 #[iv p0, iv p1, iv p2, iv 0, rv w_LESS, rv w_GREATER, rv w_GREATER, iv 1, iv 1, rv w_GREATER, rv w_LESS, rv w_LESS, iv 1] [])) _
    refine XS.iconst X9.here hx rfl (hb hby at_166) ?_
    show Steps p.tables e below (T9.setTop (mkF m 167 #[iv p0, iv p1, iv p2, iv 0, rv w_LESS, rv w_GREATER, rv w_GREATER, iv 1, iv 1, rv w_GREATER, rv w_LESS, rv w_LESS, iv 1] [(.int 1)])) _
    refine XS.goto X9.here hx rfl (pc0 := 167) (pc' := 171) rfl (hb hby at_167) (by decide) (by decide) ?_
    show Steps p.tables e below (T9.setTop (mkF m 171 #[iv p0, iv p1, iv p2, iv 0, rv w_LESS, rv w_GREATER, rv w_GREATER, iv 1, iv 1, rv w_GREATER, rv w_LESS, rv w_LESS, iv 1] [(.int 1)])) _
    exact retN X9 hx (t := .boolean) Bd.returns (by simp) (hb hby at_171) hr
  · show own_law2_Q Z w_LESS w_EQUAL w_GREATER w_UNORDERED p0 p1 p2 h0 n0 _ T9.heap _
    rw [e9]
    exact ⟨rfl, N9, trivial⟩
theorem own_law3_ef (m : MethodId) (p0 : Int32) (p1 : Int32) (p2 : Int32) : entryFrame m #[(.int p0), (.int p1), (.int p2)] maxLocals = mkF m 0 #[iv p0, iv p1, iv p2, .unset, .unset, .unset, .unset, .unset, .unset, .unset, .unset, .unset, .unset] [] := by first | (simp [entryFrame, mkF, argsToLocals, Value.category, maxLocals]; done) | rfl
def own_law3_Q (Z : State) (w_LESS : Addr) (w_EQUAL : Addr) (w_GREATER : Addr) (w_UNORDERED : Addr) (p0 : Int32) (p1 : Int32) (p2 : Int32) (h0 : Heap) (n0 : Nat) (v : Option Value) (h : Heap) (L : List Loc) : Prop := v = some (.int 1) ∧ Fr n0 L ∧ True
set_option maxRecDepth 65536 in
set_option maxHeartbeats 40000000 in
theorem own_law3 (l : Launch) (Z : State) (a0 : Array Value) (hw : ∀ d ∈ tables_1, d.before a0 Z = true) (ws : List Jvm.Cond) (w_LESS : Addr) (w_EQUAL : Addr) (w_GREATER : Addr) (w_UNORDERED : Addr) (p0 : Int32) (p1 : Int32) (p2 : Int32) (h0 : Heap) (n0 : Nat) (O0 : Old Z n0 h0) (U_LESS : own_En Z Z.heap "com/example/bindweave/bindweave/expression/Order" "LESS" "Lcom/example/bindweave/bindweave/expression/Order;" w_LESS (0 : Int32)) (U_EQUAL : own_En Z Z.heap "com/example/bindweave/bindweave/expression/Order" "EQUAL" "Lcom/example/bindweave/bindweave/expression/Order;" w_EQUAL (1 : Int32)) (U_GREATER : own_En Z Z.heap "com/example/bindweave/bindweave/expression/Order" "GREATER" "Lcom/example/bindweave/bindweave/expression/Order;" w_GREATER (2 : Int32)) (U_UNORDERED : own_En Z Z.heap "com/example/bindweave/bindweave/expression/Order" "UNORDERED" "Lcom/example/bindweave/bindweave/expression/Order;" w_UNORDERED (3 : Int32)) (hk : (p0 &&& (3 : Int32)) = (1 : Int32) ∧ p1 < p2) :
    MetFree l x (head1 (Jvm.Cond.code x code maxLocals ret :: ws) room_1) (fun ar U => ar = #[(.int p0), (.int p1), (.int p2)] ∧ Z.Warmed39 U.vm ∧ U.heap = h0) (fun _ _ _ _ _ => True) (fun _ U oc U' => ∃ v L, oc = .returned v ∧ own_law3_Q Z w_LESS w_EQUAL w_GREATER w_UNORDERED p0 p1 p2 h0 n0 v U'.heap L ∧ FrameEnd U oc U' L 0 0) := by
  refine MetFree.of_bodySF (plainFor_of_name own_pn1) hisR ?_
  intro p e s m args below meth c s₁ Bd hml0 hP hK
  obtain ⟨rfl, hZ, hh⟩ := hP
  have hx := Bd.exec
  have hby := Bd.bytes
  have hml : c.maxLocals = 13 := hml0
  have hown : s.vm.findClass "com/example/bindweave/bindweave/expression/OrderReversedPinLaw" = some m.cls := findClass_of_methodNamed Bd.named
  have hnm := (name_of_methodNamed Bd.named Bd.method).1
  have X0 : Stand p l e room_1 s m #[(.int p0), (.int p1), (.int p2)] below meth c s₁ [] 0 0 := Stand.of_body Bd
  have e0 : s₁.heap = h0 := by rw [← hh, Bd.state]; rfl
  have N0 := Fr.nil n0
  have pre0 : ∀ t, Steps p.tables e below (s₁.setTop (mkF m 0 #[iv p0, iv p1, iv p2, .unset, .unset, .unset, .unset, .unset, .unset, .unset, .unset, .unset, .unset] [])) t → Steps p.tables e below (s₁.setTop (entryFrame m #[(.int p0), (.int p1), (.int p2)] maxLocals)) t := fun t k => castTop (own_law3_ef m p0 p1 p2) k
  obtain ⟨T1, X1, e1, st1⟩ := getS2 X0 hx hZ hown (host := "") (Or.inl (hw _ (own_m 19 rfl))) Via.refl e0 (U_EQUAL.1.ext O0.2) (g := (mkF m 26 #[iv p0, iv p1, iv p2, iv 1, .unset, .unset, .unset, .unset, .unset, .unset, .unset, .unset, .unset] [])) rfl (hb hby at_26)
  obtain ⟨T2, X2, e2, st2⟩ := getS2 X1 hx hZ hown (host := "") (Or.inl (hw _ (own_m 19 rfl))) Via.refl e1 (U_EQUAL.1.ext O0.2) (g := (mkF m 31 #[iv p0, iv p1, iv p2, iv 1, rv w_EQUAL, .unset, .unset, .unset, .unset, .unset, .unset, .unset, .unset] [])) rfl (hb hby at_31)
  obtain ⟨cq3, kq3, q3a, q3b, q3c⟩ := isOf hZ e2 (U_EQUAL.2.1.ext O0.2)
  obtain ⟨_, _, ⟨T3, L3, k3, n3⟩, -, X3, ⟨Lc3, hQ3, l3, y3, z3⟩, st3⟩ := X2.virtualBack hx (y := (⟨"com/example/bindweave/bindweave/expression/Order", "reversed", "()Lcom/example/bindweave/bindweave/expression/Order;"⟩ : MethodName)) (z := (⟨"com/example/bindweave/bindweave/expression/Order", "reversed", "()Lcom/example/bindweave/bindweave/expression/Order;"⟩ : MethodName)) hown (mvT hZ (hw _ (own_m 5 rfl))) (mvT hZ (hw _ (own_m 6 rfl))) (notFace_of_selects (args := #[]) (mvT hZ (hw _ (own_m 8 rfl)))) (mvT hZ (hw _ (own_m 8 rfl))) (mvT hZ (hw _ (own_m 7 rfl))) (by decide) (backOf (W := 0) (own_rev_EQUAL l Z a0 hw [] w_LESS w_EQUAL w_GREATER w_UNORDERED  h0 n0 O0 U_LESS U_EQUAL U_GREATER U_UNORDERED ) hZ (hw _ (own_m 9 rfl)) (hw _ (own_m 1 rfl)) (by decide) (by decide)) q3a q3c (g := (mkF m 69 #[iv p0, iv p1, iv p2, iv 1, rv w_EQUAL, rv w_EQUAL, .unset, .unset, .unset, .unset, .unset, .unset, .unset] [(.ref w_EQUAL)])) rfl (by rw [hml]; rfl) (Steps.refl _) (argsL := []) (rest := []) (lenOf own_pd0 rfl) rfl (by show 2 * 0 + _ ≤ _; exact Nat.le_of_eq rfl) (hb hby at_69) (fun _ _ => ⟨rfl, e2, (by decide : 0 + 0 ≤ _), (by decide : 0 + 0 ≤ _)⟩)
  dsimp only [Pt.U, Pt.locs, Pt.cells, Pt.slots] at X3 l3 y3 z3 st3 hQ3
  subst l3 y3 z3
  obtain ⟨rfl, N3q, e3⟩ := hQ3
  have N3 := Fr.app N0 N3q
  obtain ⟨cq4, kq4, q4a, q4b, q4c⟩ := isOf hZ e3 (U_EQUAL.2.1.ext O0.2)
  obtain ⟨_, _, ⟨T4, L4, k4, n4⟩, -, X4, ⟨Lc4, hQ4, l4, y4, z4⟩, st4⟩ := X3.virtualBack hx (y := (⟨"com/example/bindweave/bindweave/expression/Order", "reversed", "()Lcom/example/bindweave/bindweave/expression/Order;"⟩ : MethodName)) (z := (⟨"com/example/bindweave/bindweave/expression/Order", "reversed", "()Lcom/example/bindweave/bindweave/expression/Order;"⟩ : MethodName)) hown (mvT hZ (hw _ (own_m 5 rfl))) (mvT hZ (hw _ (own_m 6 rfl))) (notFace_of_selects (args := #[]) (mvT hZ (hw _ (own_m 8 rfl)))) (mvT hZ (hw _ (own_m 8 rfl))) (mvT hZ (hw _ (own_m 7 rfl))) (by decide) (backOf (W := 0) (own_rev_EQUAL l Z a0 hw [] w_LESS w_EQUAL w_GREATER w_UNORDERED  h0 n0 O0 U_LESS U_EQUAL U_GREATER U_UNORDERED ) hZ (hw _ (own_m 9 rfl)) (hw _ (own_m 1 rfl)) (by decide) (by decide)) q4a q4c (g := (mkF m 95 #[iv p0, iv p1, iv p2, iv 1, rv w_EQUAL, rv w_EQUAL, rv w_EQUAL, iv 1, .unset, .unset, .unset, .unset, .unset] [(.ref w_EQUAL)])) rfl (by rw [hml]; rfl) (Steps.refl _) (argsL := []) (rest := []) (lenOf own_pd0 rfl) rfl (by show 2 * 0 + _ ≤ _; exact Nat.le_of_eq rfl) (hb hby at_95) (fun _ _ => ⟨rfl, e3, (by decide : 0 + 0 ≤ _), (by decide : 0 + 0 ≤ _)⟩)
  dsimp only [Pt.U, Pt.locs, Pt.cells, Pt.slots] at X4 l4 y4 z4 st4 hQ4
  subst l4 y4 z4
  obtain ⟨rfl, N4q, e4⟩ := hQ4
  have N4 := Fr.app N3 N4q
  obtain ⟨_, _, ⟨T5, L5, k5, n5⟩, -, X5, ⟨Lc5, hQ5, l5, y5, z5⟩, st5⟩ := Jvm.LawKit.callS X4 hx (y := (⟨"com/example/bindweave/bindweave/expression/OrderReversedPinLaw", "sign", "(II)I"⟩ : MethodName)) hown (mvT hZ (hw _ (own_m 12 rfl))) (mvT hZ (hw _ (own_m 13 rfl))) (mvT hZ (hw _ (own_m 14 rfl))) (mvT hZ (hw _ (own_m 15 rfl))) (by decide) (backOf (W := 0) (own_sg_L l Z a0 hw [] w_LESS w_EQUAL w_GREATER w_UNORDERED p1 p2 h0 n0 O0 U_LESS U_EQUAL U_GREATER U_UNORDERED hk.2) hZ (hw _ (own_m 15 rfl)) (hw _ (own_m 14 rfl)) (by decide) (by decide)) (g := (mkF m 112 #[iv p0, iv p1, iv p2, iv 1, rv w_EQUAL, rv w_EQUAL, rv w_EQUAL, iv 1, iv 1, .unset, .unset, .unset, .unset] [(.int p2), (.int p1)])) rfl (by rw [hml]; rfl) (argsL := [(.int p1), (.int p2)]) (rest := []) (lenOf own_pd1 rfl) rfl (by show 2 * 0 + _ ≤ _; exact Nat.le_of_eq rfl) (hb hby at_112) (fun _ _ => ⟨rfl, e4, (by decide : 0 + 0 ≤ _), (by decide : 0 + 0 ≤ _)⟩)
  dsimp only [Pt.U, Pt.locs, Pt.cells, Pt.slots] at X5 l5 y5 z5 st5 hQ5
  subst l5 y5 z5
  obtain ⟨rfl, N5q, e5⟩ := hQ5
  have N5 := Fr.app N4 N5q
  obtain ⟨_, _, ⟨T6, L6, k6, n6⟩, -, X6, ⟨Lc6, hQ6, l6, y6, z6⟩, st6⟩ := Jvm.LawKit.callS X5 hx (y := (⟨"com/example/bindweave/bindweave/expression/Order", "of", "(I)Lcom/example/bindweave/bindweave/expression/Order;"⟩ : MethodName)) hown (mvT hZ (hw _ (own_m 16 rfl))) (mvT hZ (hw _ (own_m 17 rfl))) (mvT hZ (hw _ (own_m 1 rfl))) (mvT hZ (hw _ (own_m 18 rfl))) (by decide) (backOf (W := 0) (own_of_L l Z a0 hw [] w_LESS w_EQUAL w_GREATER w_UNORDERED (-1 : Int32) h0 n0 O0 U_LESS U_EQUAL U_GREATER U_UNORDERED (by decide)) hZ (hw _ (own_m 18 rfl)) (hw _ (own_m 1 rfl)) (by decide) (by decide)) (g := (mkF m 115 #[iv p0, iv p1, iv p2, iv 1, rv w_EQUAL, rv w_EQUAL, rv w_EQUAL, iv 1, iv 1, .unset, .unset, .unset, .unset] [(.int (-1))])) rfl (by rw [hml]; rfl) (argsL := [(.int (-1))]) (rest := []) (lenOf own_pd2 rfl) rfl (by show 2 * 0 + _ ≤ _; exact Nat.le_of_eq rfl) (hb hby at_115) (fun _ _ => ⟨rfl, e5, (by decide : 0 + 0 ≤ _), (by decide : 0 + 0 ≤ _)⟩)
  dsimp only [Pt.U, Pt.locs, Pt.cells, Pt.slots] at X6 l6 y6 z6 st6 hQ6
  subst l6 y6 z6
  obtain ⟨rfl, N6q, e6⟩ := hQ6
  have N6 := Fr.app N5 N6q
  obtain ⟨_, _, ⟨T7, L7, k7, n7⟩, -, X7, ⟨Lc7, hQ7, l7, y7, z7⟩, st7⟩ := Jvm.LawKit.callS X6 hx (y := (⟨"com/example/bindweave/bindweave/expression/OrderReversedPinLaw", "sign", "(II)I"⟩ : MethodName)) hown (mvT hZ (hw _ (own_m 12 rfl))) (mvT hZ (hw _ (own_m 13 rfl))) (mvT hZ (hw _ (own_m 14 rfl))) (mvT hZ (hw _ (own_m 15 rfl))) (by decide) (backOf (W := 0) (own_sg_G l Z a0 hw [] w_LESS w_EQUAL w_GREATER w_UNORDERED p2 p1 h0 n0 O0 U_LESS U_EQUAL U_GREATER U_UNORDERED (own_asym hk.2) hk.2) hZ (hw _ (own_m 15 rfl)) (hw _ (own_m 14 rfl)) (by decide) (by decide)) (g := (mkF m 122 #[iv p0, iv p1, iv p2, iv 1, rv w_EQUAL, rv w_EQUAL, rv w_EQUAL, iv 1, iv 1, rv w_LESS, .unset, .unset, .unset] [(.int p1), (.int p2)])) rfl (by rw [hml]; rfl) (argsL := [(.int p2), (.int p1)]) (rest := []) (lenOf own_pd1 rfl) rfl (by show 2 * 0 + _ ≤ _; exact Nat.le_of_eq rfl) (hb hby at_122) (fun _ _ => ⟨rfl, e6, (by decide : 0 + 0 ≤ _), (by decide : 0 + 0 ≤ _)⟩)
  dsimp only [Pt.U, Pt.locs, Pt.cells, Pt.slots] at X7 l7 y7 z7 st7 hQ7
  subst l7 y7 z7
  obtain ⟨rfl, N7q, e7⟩ := hQ7
  have N7 := Fr.app N6 N7q
  obtain ⟨_, _, ⟨T8, L8, k8, n8⟩, -, X8, ⟨Lc8, hQ8, l8, y8, z8⟩, st8⟩ := Jvm.LawKit.callS X7 hx (y := (⟨"com/example/bindweave/bindweave/expression/Order", "of", "(I)Lcom/example/bindweave/bindweave/expression/Order;"⟩ : MethodName)) hown (mvT hZ (hw _ (own_m 16 rfl))) (mvT hZ (hw _ (own_m 17 rfl))) (mvT hZ (hw _ (own_m 1 rfl))) (mvT hZ (hw _ (own_m 18 rfl))) (by decide) (backOf (W := 0) (own_of_G l Z a0 hw [] w_LESS w_EQUAL w_GREATER w_UNORDERED (1 : Int32) h0 n0 O0 U_LESS U_EQUAL U_GREATER U_UNORDERED (by decide) (by decide)) hZ (hw _ (own_m 18 rfl)) (hw _ (own_m 1 rfl)) (by decide) (by decide)) (g := (mkF m 125 #[iv p0, iv p1, iv p2, iv 1, rv w_EQUAL, rv w_EQUAL, rv w_EQUAL, iv 1, iv 1, rv w_LESS, .unset, .unset, .unset] [(.int 1)])) rfl (by rw [hml]; rfl) (argsL := [(.int 1)]) (rest := []) (lenOf own_pd2 rfl) rfl (by show 2 * 0 + _ ≤ _; exact Nat.le_of_eq rfl) (hb hby at_125) (fun _ _ => ⟨rfl, e7, (by decide : 0 + 0 ≤ _), (by decide : 0 + 0 ≤ _)⟩)
  dsimp only [Pt.U, Pt.locs, Pt.cells, Pt.slots] at X8 l8 y8 z8 st8 hQ8
  subst l8 y8 z8
  obtain ⟨rfl, N8q, e8⟩ := hQ8
  have N8 := Fr.app N7 N8q
  obtain ⟨cq9, kq9, q9a, q9b, q9c⟩ := isOf hZ e8 (U_LESS.2.1.ext O0.2)
  obtain ⟨_, _, ⟨T9, L9, k9, n9⟩, -, X9, ⟨Lc9, hQ9, l9, y9, z9⟩, st9⟩ := X8.virtualBack hx (y := (⟨"com/example/bindweave/bindweave/expression/Order", "reversed", "()Lcom/example/bindweave/bindweave/expression/Order;"⟩ : MethodName)) (z := (⟨"com/example/bindweave/bindweave/expression/Order", "reversed", "()Lcom/example/bindweave/bindweave/expression/Order;"⟩ : MethodName)) hown (mvT hZ (hw _ (own_m 5 rfl))) (mvT hZ (hw _ (own_m 6 rfl))) (notFace_of_selects (args := #[]) (mvT hZ (hw _ (own_m 8 rfl)))) (mvT hZ (hw _ (own_m 8 rfl))) (mvT hZ (hw _ (own_m 7 rfl))) (by decide) (backOf (W := 0) (own_rev_LESS l Z a0 hw [] w_LESS w_EQUAL w_GREATER w_UNORDERED  h0 n0 O0 U_LESS U_EQUAL U_GREATER U_UNORDERED ) hZ (hw _ (own_m 9 rfl)) (hw _ (own_m 1 rfl)) (by decide) (by decide)) q9a q9c (g := (mkF m 132 #[iv p0, iv p1, iv p2, iv 1, rv w_EQUAL, rv w_EQUAL, rv w_EQUAL, iv 1, iv 1, rv w_LESS, rv w_GREATER, .unset, .unset] [(.ref w_LESS)])) rfl (by rw [hml]; rfl) (Steps.refl _) (argsL := []) (rest := []) (lenOf own_pd0 rfl) rfl (by show 2 * 0 + _ ≤ _; exact Nat.le_of_eq rfl) (hb hby at_132) (fun _ _ => ⟨rfl, e8, (by decide : 0 + 0 ≤ _), (by decide : 0 + 0 ≤ _)⟩)
  dsimp only [Pt.U, Pt.locs, Pt.cells, Pt.slots] at X9 l9 y9 z9 st9 hQ9
  subst l9 y9 z9
  obtain ⟨rfl, N9q, e9⟩ := hQ9
  have N9 := Fr.app N8 N9q
  obtain ⟨fs, hr, hrun, hended, hW, hsame⟩ := X9.leave (v := some (.int 1)) (fun h => by rw [Bd.returns] at h; cases h)
  refine ⟨_, _, pre0 _ ?_, hrun, hended, _, _, rfl, ?_, ⟨_, rfl⟩, hW, hsame.mono (by decide) (by decide)⟩
  · show Steps p.tables e below (s₁.setTop (mkF m 0 #[iv p0, iv p1, iv p2, .unset, .unset, .unset, .unset, .unset, .unset, .unset, .unset, .unset, .unset] [])) _
    refine XS.iloadN X0.here hx rfl (hb hby at_0) rfl ?_
    show Steps p.tables e below (s₁.setTop (mkF m 1 #[iv p0, iv p1, iv p2, .unset, .unset, .unset, .unset, .unset, .unset, .unset, .unset, .unset, .unset] [(.int p0)])) _
    refine XS.iconst X0.here hx rfl (hb hby at_1) ?_
    show Steps p.tables e below (s₁.setTop (mkF m 2 #[iv p0, iv p1, iv p2, .unset, .unset, .unset, .unset, .unset, .unset, .unset, .unset, .unset, .unset] [(.int 3), (.int p0)])) _
    refine XS.iand X0.here hx rfl (hb hby at_2) rfl ?_
    show Steps p.tables e below (s₁.setTop (mkF m 3 #[iv p0, iv p1, iv p2, .unset, .unset, .unset, .unset, .unset, .unset, .unset, .unset, .unset, .unset] [(.int (p0 &&& (3 : Int32)))])) _
    refine own_top (v' := (.int 1)) (congrArg Value.int hk.1) ?_
    show Steps p.tables e below (s₁.setTop (mkF m 3 #[iv p0, iv p1, iv p2, .unset, .unset, .unset, .unset, .unset, .unset, .unset, .unset, .unset, .unset] [(.int 1)])) _
    refine XS.istoreN X0.here hx rfl (hb hby at_3) rfl (l' := #[iv p0, iv p1, iv p2, iv 1, .unset, .unset, .unset, .unset, .unset, .unset, .unset, .unset, .unset]) rfl ?_
    show Steps p.tables e below (s₁.setTop (mkF m 4 #[iv p0, iv p1, iv p2, iv 1, .unset, .unset, .unset, .unset, .unset, .unset, .unset, .unset, .unset] [])) _
    refine XS.iloadN X0.here hx rfl (hb hby at_4) rfl ?_
    show Steps p.tables e below (s₁.setTop (mkF m 5 #[iv p0, iv p1, iv p2, iv 1, .unset, .unset, .unset, .unset, .unset, .unset, .unset, .unset, .unset] [(.int 1)])) _
    refine XS.ifYes X0.here hx rfl (pc0 := 5) (pc' := 21) rfl (hb hby at_5) rfl ((if0 _ _).trans (feq (by decide)).2) (by decide) (by decide) ?_
    show Steps p.tables e below (s₁.setTop (mkF m 21 #[iv p0, iv p1, iv p2, iv 1, .unset, .unset, .unset, .unset, .unset, .unset, .unset, .unset, .unset] [])) _
    refine XS.iloadN X0.here hx rfl (hb hby at_21) rfl ?_
    show Steps p.tables e below (s₁.setTop (mkF m 22 #[iv p0, iv p1, iv p2, iv 1, .unset, .unset, .unset, .unset, .unset, .unset, .unset, .unset, .unset] [(.int 1)])) _
    refine XS.iconst X0.here hx rfl (hb hby at_22) ?_
    show Steps p.tables e below (s₁.setTop (mkF m 23 #[iv p0, iv p1, iv p2, iv 1, .unset, .unset, .unset, .unset, .unset, .unset, .unset, .unset, .unset] [(.int 1), (.int 1)])) _
    refine XS.icmpNo X0.here hx rfl (hb hby at_23) rfl (teq (by decide)).2 ?_
    show Steps p.tables e below (s₁.setTop (mkF m 26 #[iv p0, iv p1, iv p2, iv 1, .unset, .unset, .unset, .unset, .unset, .unset, .unset, .unset, .unset] [])) _
    refine st1 _ ?_
    show Steps p.tables e below (T1.setTop (mkF m 29 #[iv p0, iv p1, iv p2, iv 1, .unset, .unset, .unset, .unset, .unset, .unset, .unset, .unset, .unset] [(.ref w_EQUAL)])) _
    refine XS.astore X1.here hx rfl (hb hby at_29) rfl rfl (l' := #[iv p0, iv p1, iv p2, iv 1, rv w_EQUAL, .unset, .unset, .unset, .unset, .unset, .unset, .unset, .unset]) rfl ?_
    show Steps p.tables e below (T1.setTop (mkF m 31 #[iv p0, iv p1, iv p2, iv 1, rv w_EQUAL, .unset, .unset, .unset, .unset, .unset, .unset, .unset, .unset] [])) _
    refine st2 _ ?_
    show Steps p.tables e below (T2.setTop (mkF m 34 #[iv p0, iv p1, iv p2, iv 1, rv w_EQUAL, .unset, .unset, .unset, .unset, .unset, .unset, .unset, .unset] [(.ref w_EQUAL)])) _
    refine XS.astore X2.here hx rfl (hb hby at_34) rfl rfl (l' := #[iv p0, iv p1, iv p2, iv 1, rv w_EQUAL, rv w_EQUAL, .unset, .unset, .unset, .unset, .unset, .unset, .unset]) rfl ?_
    show Steps p.tables e below (T2.setTop (mkF m 36 #[iv p0, iv p1, iv p2, iv 1, rv w_EQUAL, rv w_EQUAL, .unset, .unset, .unset, .unset, .unset, .unset, .unset] [])) _
    refine XS.goto X2.here hx rfl (pc0 := 36) (pc' := 67) rfl (hb hby at_36) (by decide) (by decide) ?_
    show Steps p.tables e below (T2.setTop (mkF m 67 #[iv p0, iv p1, iv p2, iv 1, rv w_EQUAL, rv w_EQUAL, .unset, .unset, .unset, .unset, .unset, .unset, .unset] [])) _
    refine XS.aload X2.here hx rfl (hb hby at_67) rfl rfl ?_
    show Steps p.tables e below (T2.setTop (mkF m 69 #[iv p0, iv p1, iv p2, iv 1, rv w_EQUAL, rv w_EQUAL, .unset, .unset, .unset, .unset, .unset, .unset, .unset] [(.ref w_EQUAL)])) _
    refine st3.trans ?_
    show Steps p.tables e below (T3.setTop (mkF m 72 #[iv p0, iv p1, iv p2, iv 1, rv w_EQUAL, rv w_EQUAL, .unset, .unset, .unset, .unset, .unset, .unset, .unset] [(.ref w_EQUAL)])) _
    refine XS.astore X3.here hx rfl (hb hby at_72) rfl rfl (l' := #[iv p0, iv p1, iv p2, iv 1, rv w_EQUAL, rv w_EQUAL, rv w_EQUAL, .unset, .unset, .unset, .unset, .unset, .unset]) rfl ?_
    show Steps p.tables e below (T3.setTop (mkF m 74 #[iv p0, iv p1, iv p2, iv 1, rv w_EQUAL, rv w_EQUAL, rv w_EQUAL, .unset, .unset, .unset, .unset, .unset, .unset] [])) _
    refine XS.aload X3.here hx rfl (hb hby at_74) rfl rfl ?_
    show Steps p.tables e below (T3.setTop (mkF m 76 #[iv p0, iv p1, iv p2, iv 1, rv w_EQUAL, rv w_EQUAL, rv w_EQUAL, .unset, .unset, .unset, .unset, .unset, .unset] [(.ref w_EQUAL)])) _
    refine XS.aload X3.here hx rfl (hb hby at_76) rfl rfl ?_
    show Steps p.tables e below (T3.setTop (mkF m 78 #[iv p0, iv p1, iv p2, iv 1, rv w_EQUAL, rv w_EQUAL, rv w_EQUAL, .unset, .unset, .unset, .unset, .unset, .unset] [(.ref w_EQUAL), (.ref w_EQUAL)])) _
    refine Jvm.RoadKit.acmp (g := (mkF m 78 #[iv p0, iv p1, iv p2, iv 1, rv w_EQUAL, rv w_EQUAL, rv w_EQUAL, .unset, .unset, .unset, .unset, .unset, .unset] [(.ref w_EQUAL), (.ref w_EQUAL)])) X3 hx rfl rfl rfl (pc0 := 78) (pc' := 81) (same := true) rfl (hb hby at_78) rfl (decide_eq_true rfl) (by decide) (by decide) ?_
    show Steps p.tables e below (T3.setTop (mkF m 81 #[iv p0, iv p1, iv p2, iv 1, rv w_EQUAL, rv w_EQUAL, rv w_EQUAL, .unset, .unset, .unset, .unset, .unset, .unset] [])) _
    refine XS.iconst X3.here hx rfl (hb hby at_81) ?_
    show Steps p.tables e below (T3.setTop (mkF m 82 #[iv p0, iv p1, iv p2, iv 1, rv w_EQUAL, rv w_EQUAL, rv w_EQUAL, .unset, .unset, .unset, .unset, .unset, .unset] [(.int 1)])) _
    refine XS.goto X3.here hx rfl (pc0 := 82) (pc' := 86) rfl (hb hby at_82) (by decide) (by decide) ?_
    show Steps p.tables e below (T3.setTop (mkF m 86 #[iv p0, iv p1, iv p2, iv 1, rv w_EQUAL, rv w_EQUAL, rv w_EQUAL, .unset, .unset, .unset, .unset, .unset, .unset] [(.int 1)])) _
    refine XS.istore X3.here hx rfl (hb hby at_86) rfl (l' := #[iv p0, iv p1, iv p2, iv 1, rv w_EQUAL, rv w_EQUAL, rv w_EQUAL, iv 1, .unset, .unset, .unset, .unset, .unset]) rfl ?_
    show Steps p.tables e below (T3.setTop (mkF m 88 #[iv p0, iv p1, iv p2, iv 1, rv w_EQUAL, rv w_EQUAL, rv w_EQUAL, iv 1, .unset, .unset, .unset, .unset, .unset] [])) _
    refine XS.aload X3.here hx rfl (hb hby at_88) rfl rfl ?_
    show Steps p.tables e below (T3.setTop (mkF m 90 #[iv p0, iv p1, iv p2, iv 1, rv w_EQUAL, rv w_EQUAL, rv w_EQUAL, iv 1, .unset, .unset, .unset, .unset, .unset] [(.ref w_EQUAL)])) _
    refine XS.ifnullNo X3.here hx rfl (hb hby at_90) rfl ?_
    show Steps p.tables e below (T3.setTop (mkF m 93 #[iv p0, iv p1, iv p2, iv 1, rv w_EQUAL, rv w_EQUAL, rv w_EQUAL, iv 1, .unset, .unset, .unset, .unset, .unset] [])) _
    refine XS.aload X3.here hx rfl (hb hby at_93) rfl rfl ?_
    show Steps p.tables e below (T3.setTop (mkF m 95 #[iv p0, iv p1, iv p2, iv 1, rv w_EQUAL, rv w_EQUAL, rv w_EQUAL, iv 1, .unset, .unset, .unset, .unset, .unset] [(.ref w_EQUAL)])) _
    refine st4.trans ?_
    show Steps p.tables e below (T4.setTop (mkF m 98 #[iv p0, iv p1, iv p2, iv 1, rv w_EQUAL, rv w_EQUAL, rv w_EQUAL, iv 1, .unset, .unset, .unset, .unset, .unset] [(.ref w_EQUAL)])) _
    refine XS.aload X4.here hx rfl (hb hby at_98) rfl rfl ?_
    show Steps p.tables e below (T4.setTop (mkF m 100 #[iv p0, iv p1, iv p2, iv 1, rv w_EQUAL, rv w_EQUAL, rv w_EQUAL, iv 1, .unset, .unset, .unset, .unset, .unset] [(.ref w_EQUAL), (.ref w_EQUAL)])) _
    refine Jvm.RoadKit.acmp (g := (mkF m 100 #[iv p0, iv p1, iv p2, iv 1, rv w_EQUAL, rv w_EQUAL, rv w_EQUAL, iv 1, .unset, .unset, .unset, .unset, .unset] [(.ref w_EQUAL), (.ref w_EQUAL)])) X4 hx rfl rfl rfl (pc0 := 100) (pc' := 103) (same := true) rfl (hb hby at_100) rfl (decide_eq_true rfl) (by decide) (by decide) ?_
    show Steps p.tables e below (T4.setTop (mkF m 103 #[iv p0, iv p1, iv p2, iv 1, rv w_EQUAL, rv w_EQUAL, rv w_EQUAL, iv 1, .unset, .unset, .unset, .unset, .unset] [])) _
    refine XS.iconst X4.here hx rfl (hb hby at_103) ?_
    show Steps p.tables e below (T4.setTop (mkF m 104 #[iv p0, iv p1, iv p2, iv 1, rv w_EQUAL, rv w_EQUAL, rv w_EQUAL, iv 1, .unset, .unset, .unset, .unset, .unset] [(.int 1)])) _
    refine XS.goto X4.here hx rfl (pc0 := 104) (pc' := 108) rfl (hb hby at_104) (by decide) (by decide) ?_
    show Steps p.tables e below (T4.setTop (mkF m 108 #[iv p0, iv p1, iv p2, iv 1, rv w_EQUAL, rv w_EQUAL, rv w_EQUAL, iv 1, .unset, .unset, .unset, .unset, .unset] [(.int 1)])) _
    refine XS.istore X4.here hx rfl (hb hby at_108) rfl (l' := #[iv p0, iv p1, iv p2, iv 1, rv w_EQUAL, rv w_EQUAL, rv w_EQUAL, iv 1, iv 1, .unset, .unset, .unset, .unset]) rfl ?_
    show Steps p.tables e below (T4.setTop (mkF m 110 #[iv p0, iv p1, iv p2, iv 1, rv w_EQUAL, rv w_EQUAL, rv w_EQUAL, iv 1, iv 1, .unset, .unset, .unset, .unset] [])) _
    refine XS.iloadN X4.here hx rfl (hb hby at_110) rfl ?_
    show Steps p.tables e below (T4.setTop (mkF m 111 #[iv p0, iv p1, iv p2, iv 1, rv w_EQUAL, rv w_EQUAL, rv w_EQUAL, iv 1, iv 1, .unset, .unset, .unset, .unset] [(.int p1)])) _
    refine XS.iloadN X4.here hx rfl (hb hby at_111) rfl ?_
    show Steps p.tables e below (T4.setTop (mkF m 112 #[iv p0, iv p1, iv p2, iv 1, rv w_EQUAL, rv w_EQUAL, rv w_EQUAL, iv 1, iv 1, .unset, .unset, .unset, .unset] [(.int p2), (.int p1)])) _
    refine st5 _ ?_
    show Steps p.tables e below (T5.setTop (mkF m 115 #[iv p0, iv p1, iv p2, iv 1, rv w_EQUAL, rv w_EQUAL, rv w_EQUAL, iv 1, iv 1, .unset, .unset, .unset, .unset] [(.int (-1))])) _
    refine st6 _ ?_
    show Steps p.tables e below (T6.setTop (mkF m 118 #[iv p0, iv p1, iv p2, iv 1, rv w_EQUAL, rv w_EQUAL, rv w_EQUAL, iv 1, iv 1, .unset, .unset, .unset, .unset] [(.ref w_LESS)])) _
    refine XS.astore X6.here hx rfl (hb hby at_118) rfl rfl (l' := #[iv p0, iv p1, iv p2, iv 1, rv w_EQUAL, rv w_EQUAL, rv w_EQUAL, iv 1, iv 1, rv w_LESS, .unset, .unset, .unset]) rfl ?_
    show Steps p.tables e below (T6.setTop (mkF m 120 #[iv p0, iv p1, iv p2, iv 1, rv w_EQUAL, rv w_EQUAL, rv w_EQUAL, iv 1, iv 1, rv w_LESS, .unset, .unset, .unset] [])) _
    refine XS.iloadN X6.here hx rfl (hb hby at_120) rfl ?_
    show Steps p.tables e below (T6.setTop (mkF m 121 #[iv p0, iv p1, iv p2, iv 1, rv w_EQUAL, rv w_EQUAL, rv w_EQUAL, iv 1, iv 1, rv w_LESS, .unset, .unset, .unset] [(.int p2)])) _
    refine XS.iloadN X6.here hx rfl (hb hby at_121) rfl ?_
    show Steps p.tables e below (T6.setTop (mkF m 122 #[iv p0, iv p1, iv p2, iv 1, rv w_EQUAL, rv w_EQUAL, rv w_EQUAL, iv 1, iv 1, rv w_LESS, .unset, .unset, .unset] [(.int p1), (.int p2)])) _
    refine st7 _ ?_
    show Steps p.tables e below (T7.setTop (mkF m 125 #[iv p0, iv p1, iv p2, iv 1, rv w_EQUAL, rv w_EQUAL, rv w_EQUAL, iv 1, iv 1, rv w_LESS, .unset, .unset, .unset] [(.int 1)])) _
    refine st8 _ ?_
    show Steps p.tables e below (T8.setTop (mkF m 128 #[iv p0, iv p1, iv p2, iv 1, rv w_EQUAL, rv w_EQUAL, rv w_EQUAL, iv 1, iv 1, rv w_LESS, .unset, .unset, .unset] [(.ref w_GREATER)])) _
    refine XS.astore X8.here hx rfl (hb hby at_128) rfl rfl (l' := #[iv p0, iv p1, iv p2, iv 1, rv w_EQUAL, rv w_EQUAL, rv w_EQUAL, iv 1, iv 1, rv w_LESS, rv w_GREATER, .unset, .unset]) rfl ?_
    show Steps p.tables e below (T8.setTop (mkF m 130 #[iv p0, iv p1, iv p2, iv 1, rv w_EQUAL, rv w_EQUAL, rv w_EQUAL, iv 1, iv 1, rv w_LESS, rv w_GREATER, .unset, .unset] [])) _
    refine XS.aload X8.here hx rfl (hb hby at_130) rfl rfl ?_
    show Steps p.tables e below (T8.setTop (mkF m 132 #[iv p0, iv p1, iv p2, iv 1, rv w_EQUAL, rv w_EQUAL, rv w_EQUAL, iv 1, iv 1, rv w_LESS, rv w_GREATER, .unset, .unset] [(.ref w_LESS)])) _
    refine st9.trans ?_
    show Steps p.tables e below (T9.setTop (mkF m 135 #[iv p0, iv p1, iv p2, iv 1, rv w_EQUAL, rv w_EQUAL, rv w_EQUAL, iv 1, iv 1, rv w_LESS, rv w_GREATER, .unset, .unset] [(.ref w_GREATER)])) _
    refine XS.astore X9.here hx rfl (hb hby at_135) rfl rfl (l' := #[iv p0, iv p1, iv p2, iv 1, rv w_EQUAL, rv w_EQUAL, rv w_EQUAL, iv 1, iv 1, rv w_LESS, rv w_GREATER, rv w_GREATER, .unset]) rfl ?_
    show Steps p.tables e below (T9.setTop (mkF m 137 #[iv p0, iv p1, iv p2, iv 1, rv w_EQUAL, rv w_EQUAL, rv w_EQUAL, iv 1, iv 1, rv w_LESS, rv w_GREATER, rv w_GREATER, .unset] [])) _
    refine XS.aload X9.here hx rfl (hb hby at_137) rfl rfl ?_
    show Steps p.tables e below (T9.setTop (mkF m 139 #[iv p0, iv p1, iv p2, iv 1, rv w_EQUAL, rv w_EQUAL, rv w_EQUAL, iv 1, iv 1, rv w_LESS, rv w_GREATER, rv w_GREATER, .unset] [(.ref w_GREATER)])) _
    refine XS.aload X9.here hx rfl (hb hby at_139) rfl rfl ?_
    show Steps p.tables e below (T9.setTop (mkF m 141 #[iv p0, iv p1, iv p2, iv 1, rv w_EQUAL, rv w_EQUAL, rv w_EQUAL, iv 1, iv 1, rv w_LESS, rv w_GREATER, rv w_GREATER, .unset] [(.ref w_GREATER), (.ref w_GREATER)])) _
    refine Jvm.RoadKit.acmp (g := (mkF m 141 #[iv p0, iv p1, iv p2, iv 1, rv w_EQUAL, rv w_EQUAL, rv w_EQUAL, iv 1, iv 1, rv w_LESS, rv w_GREATER, rv w_GREATER, .unset] [(.ref w_GREATER), (.ref w_GREATER)])) X9 hx rfl rfl rfl (pc0 := 141) (pc' := 144) (same := true) rfl (hb hby at_141) rfl (decide_eq_true rfl) (by decide) (by decide) ?_
    show Steps p.tables e below (T9.setTop (mkF m 144 #[iv p0, iv p1, iv p2, iv 1, rv w_EQUAL, rv w_EQUAL, rv w_EQUAL, iv 1, iv 1, rv w_LESS, rv w_GREATER, rv w_GREATER, .unset] [])) _
    refine XS.iconst X9.here hx rfl (hb hby at_144) ?_
    show Steps p.tables e below (T9.setTop (mkF m 145 #[iv p0, iv p1, iv p2, iv 1, rv w_EQUAL, rv w_EQUAL, rv w_EQUAL, iv 1, iv 1, rv w_LESS, rv w_GREATER, rv w_GREATER, .unset] [(.int 1)])) _
    refine XS.goto X9.here hx rfl (pc0 := 145) (pc' := 149) rfl (hb hby at_145) (by decide) (by decide) ?_
    show Steps p.tables e below (T9.setTop (mkF m 149 #[iv p0, iv p1, iv p2, iv 1, rv w_EQUAL, rv w_EQUAL, rv w_EQUAL, iv 1, iv 1, rv w_LESS, rv w_GREATER, rv w_GREATER, .unset] [(.int 1)])) _
    refine XS.istore X9.here hx rfl (hb hby at_149) rfl (l' := #[iv p0, iv p1, iv p2, iv 1, rv w_EQUAL, rv w_EQUAL, rv w_EQUAL, iv 1, iv 1, rv w_LESS, rv w_GREATER, rv w_GREATER, iv 1]) rfl ?_
    show Steps p.tables e below (T9.setTop (mkF m 151 #[iv p0, iv p1, iv p2, iv 1, rv w_EQUAL, rv w_EQUAL, rv w_EQUAL, iv 1, iv 1, rv w_LESS, rv w_GREATER, rv w_GREATER, iv 1] [])) _
    refine XS.iload X9.here hx rfl (hb hby at_151) rfl ?_
    show Steps p.tables e below (T9.setTop (mkF m 153 #[iv p0, iv p1, iv p2, iv 1, rv w_EQUAL, rv w_EQUAL, rv w_EQUAL, iv 1, iv 1, rv w_LESS, rv w_GREATER, rv w_GREATER, iv 1] [(.int 1)])) _
    refine XS.ifNo X9.here hx rfl (hb hby at_153) rfl ((if0 _ _).trans (feq (by decide)).1) ?_
    show Steps p.tables e below (T9.setTop (mkF m 156 #[iv p0, iv p1, iv p2, iv 1, rv w_EQUAL, rv w_EQUAL, rv w_EQUAL, iv 1, iv 1, rv w_LESS, rv w_GREATER, rv w_GREATER, iv 1] [])) _
    refine XS.iload X9.here hx rfl (hb hby at_156) rfl ?_
    show Steps p.tables e below (T9.setTop (mkF m 158 #[iv p0, iv p1, iv p2, iv 1, rv w_EQUAL, rv w_EQUAL, rv w_EQUAL, iv 1, iv 1, rv w_LESS, rv w_GREATER, rv w_GREATER, iv 1] [(.int 1)])) _
    refine XS.ifNo X9.here hx rfl (hb hby at_158) rfl ((if0 _ _).trans (feq (by decide)).1) ?_
    show Steps p.tables e below (T9.setTop (mkF m 161 #[iv p0, iv p1, iv p2, iv 1, rv w_EQUAL, rv w_EQUAL, rv w_EQUAL, iv 1, iv 1, rv w_LESS, rv w_GREATER, rv w_GREATER, iv 1] [])) _
    refine XS.iload X9.here hx rfl (hb hby at_161) rfl ?_
    show Steps p.tables e below (T9.setTop (mkF m 163 #[iv p0, iv p1, iv p2, iv 1, rv w_EQUAL, rv w_EQUAL, rv w_EQUAL, iv 1, iv 1, rv w_LESS, rv w_GREATER, rv w_GREATER, iv 1] [(.int 1)])) _
    refine XS.ifNo X9.here hx rfl (hb hby at_163) rfl ((if0 _ _).trans (feq (by decide)).1) ?_
    show Steps p.tables e below (T9.setTop (mkF m 166 #[iv p0, iv p1, iv p2, iv 1, rv w_EQUAL, rv w_EQUAL, rv w_EQUAL, iv 1, iv 1, rv w_LESS, rv w_GREATER, rv w_GREATER, iv 1] [])) _
    refine XS.iconst X9.here hx rfl (hb hby at_166) ?_
    show Steps p.tables e below (T9.setTop (mkF m 167 #[iv p0, iv p1, iv p2, iv 1, rv w_EQUAL, rv w_EQUAL, rv w_EQUAL, iv 1, iv 1, rv w_LESS, rv w_GREATER, rv w_GREATER, iv 1] [(.int 1)])) _
    refine XS.goto X9.here hx rfl (pc0 := 167) (pc' := 171) rfl (hb hby at_167) (by decide) (by decide) ?_
    show Steps p.tables e below (T9.setTop (mkF m 171 #[iv p0, iv p1, iv p2, iv 1, rv w_EQUAL, rv w_EQUAL, rv w_EQUAL, iv 1, iv 1, rv w_LESS, rv w_GREATER, rv w_GREATER, iv 1] [(.int 1)])) _
    exact retN X9 hx (t := .boolean) Bd.returns (by simp) (hb hby at_171) hr
  · show own_law3_Q Z w_LESS w_EQUAL w_GREATER w_UNORDERED p0 p1 p2 h0 n0 _ T9.heap _
    rw [e9]
    exact ⟨rfl, N9, trivial⟩
theorem own_law4_ef (m : MethodId) (p0 : Int32) (p1 : Int32) (p2 : Int32) : entryFrame m #[(.int p0), (.int p1), (.int p2)] maxLocals = mkF m 0 #[iv p0, iv p1, iv p2, .unset, .unset, .unset, .unset, .unset, .unset, .unset, .unset, .unset, .unset] [] := by first | (simp [entryFrame, mkF, argsToLocals, Value.category, maxLocals]; done) | rfl
def own_law4_Q (Z : State) (w_LESS : Addr) (w_EQUAL : Addr) (w_GREATER : Addr) (w_UNORDERED : Addr) (p0 : Int32) (p1 : Int32) (p2 : Int32) (h0 : Heap) (n0 : Nat) (v : Option Value) (h : Heap) (L : List Loc) : Prop := v = some (.int 1) ∧ Fr n0 L ∧ True
set_option maxRecDepth 65536 in
set_option maxHeartbeats 40000000 in
theorem own_law4 (l : Launch) (Z : State) (a0 : Array Value) (hw : ∀ d ∈ tables_1, d.before a0 Z = true) (ws : List Jvm.Cond) (w_LESS : Addr) (w_EQUAL : Addr) (w_GREATER : Addr) (w_UNORDERED : Addr) (p0 : Int32) (p1 : Int32) (p2 : Int32) (h0 : Heap) (n0 : Nat) (O0 : Old Z n0 h0) (U_LESS : own_En Z Z.heap "com/example/bindweave/bindweave/expression/Order" "LESS" "Lcom/example/bindweave/bindweave/expression/Order;" w_LESS (0 : Int32)) (U_EQUAL : own_En Z Z.heap "com/example/bindweave/bindweave/expression/Order" "EQUAL" "Lcom/example/bindweave/bindweave/expression/Order;" w_EQUAL (1 : Int32)) (U_GREATER : own_En Z Z.heap "com/example/bindweave/bindweave/expression/Order" "GREATER" "Lcom/example/bindweave/bindweave/expression/Order;" w_GREATER (2 : Int32)) (U_UNORDERED : own_En Z Z.heap "com/example/bindweave/bindweave/expression/Order" "UNORDERED" "Lcom/example/bindweave/bindweave/expression/Order;" w_UNORDERED (3 : Int32)) (hk : (p0 &&& (3 : Int32)) = (1 : Int32) ∧ (¬ p1 < p2 ∧ ¬ p2 < p1)) :
    MetFree l x (head1 (Jvm.Cond.code x code maxLocals ret :: ws) room_1) (fun ar U => ar = #[(.int p0), (.int p1), (.int p2)] ∧ Z.Warmed39 U.vm ∧ U.heap = h0) (fun _ _ _ _ _ => True) (fun _ U oc U' => ∃ v L, oc = .returned v ∧ own_law4_Q Z w_LESS w_EQUAL w_GREATER w_UNORDERED p0 p1 p2 h0 n0 v U'.heap L ∧ FrameEnd U oc U' L 0 0) := by
  refine MetFree.of_bodySF (plainFor_of_name own_pn1) hisR ?_
  intro p e s m args below meth c s₁ Bd hml0 hP hK
  obtain ⟨rfl, hZ, hh⟩ := hP
  have hx := Bd.exec
  have hby := Bd.bytes
  have hml : c.maxLocals = 13 := hml0
  have hown : s.vm.findClass "com/example/bindweave/bindweave/expression/OrderReversedPinLaw" = some m.cls := findClass_of_methodNamed Bd.named
  have hnm := (name_of_methodNamed Bd.named Bd.method).1
  have X0 : Stand p l e room_1 s m #[(.int p0), (.int p1), (.int p2)] below meth c s₁ [] 0 0 := Stand.of_body Bd
  have e0 : s₁.heap = h0 := by rw [← hh, Bd.state]; rfl
  have N0 := Fr.nil n0
  have pre0 : ∀ t, Steps p.tables e below (s₁.setTop (mkF m 0 #[iv p0, iv p1, iv p2, .unset, .unset, .unset, .unset, .unset, .unset, .unset, .unset, .unset, .unset] [])) t → Steps p.tables e below (s₁.setTop (entryFrame m #[(.int p0), (.int p1), (.int p2)] maxLocals)) t := fun t k => castTop (own_law4_ef m p0 p1 p2) k
  obtain ⟨T1, X1, e1, st1⟩ := getS2 X0 hx hZ hown (host := "") (Or.inl (hw _ (own_m 19 rfl))) Via.refl e0 (U_EQUAL.1.ext O0.2) (g := (mkF m 26 #[iv p0, iv p1, iv p2, iv 1, .unset, .unset, .unset, .unset, .unset, .unset, .unset, .unset, .unset] [])) rfl (hb hby at_26)
  obtain ⟨T2, X2, e2, st2⟩ := getS2 X1 hx hZ hown (host := "") (Or.inl (hw _ (own_m 19 rfl))) Via.refl e1 (U_EQUAL.1.ext O0.2) (g := (mkF m 31 #[iv p0, iv p1, iv p2, iv 1, rv w_EQUAL, .unset, .unset, .unset, .unset, .unset, .unset, .unset, .unset] [])) rfl (hb hby at_31)
  obtain ⟨cq3, kq3, q3a, q3b, q3c⟩ := isOf hZ e2 (U_EQUAL.2.1.ext O0.2)
  obtain ⟨_, _, ⟨T3, L3, k3, n3⟩, -, X3, ⟨Lc3, hQ3, l3, y3, z3⟩, st3⟩ := X2.virtualBack hx (y := (⟨"com/example/bindweave/bindweave/expression/Order", "reversed", "()Lcom/example/bindweave/bindweave/expression/Order;"⟩ : MethodName)) (z := (⟨"com/example/bindweave/bindweave/expression/Order", "reversed", "()Lcom/example/bindweave/bindweave/expression/Order;"⟩ : MethodName)) hown (mvT hZ (hw _ (own_m 5 rfl))) (mvT hZ (hw _ (own_m 6 rfl))) (notFace_of_selects (args := #[]) (mvT hZ (hw _ (own_m 8 rfl)))) (mvT hZ (hw _ (own_m 8 rfl))) (mvT hZ (hw _ (own_m 7 rfl))) (by decide) (backOf (W := 0) (own_rev_EQUAL l Z a0 hw [] w_LESS w_EQUAL w_GREATER w_UNORDERED  h0 n0 O0 U_LESS U_EQUAL U_GREATER U_UNORDERED ) hZ (hw _ (own_m 9 rfl)) (hw _ (own_m 1 rfl)) (by decide) (by decide)) q3a q3c (g := (mkF m 69 #[iv p0, iv p1, iv p2, iv 1, rv w_EQUAL, rv w_EQUAL, .unset, .unset, .unset, .unset, .unset, .unset, .unset] [(.ref w_EQUAL)])) rfl (by rw [hml]; rfl) (Steps.refl _) (argsL := []) (rest := []) (lenOf own_pd0 rfl) rfl (by show 2 * 0 + _ ≤ _; exact Nat.le_of_eq rfl) (hb hby at_69) (fun _ _ => ⟨rfl, e2, (by decide : 0 + 0 ≤ _), (by decide : 0 + 0 ≤ _)⟩)
  dsimp only [Pt.U, Pt.locs, Pt.cells, Pt.slots] at X3 l3 y3 z3 st3 hQ3
  subst l3 y3 z3
  obtain ⟨rfl, N3q, e3⟩ := hQ3
  have N3 := Fr.app N0 N3q
  obtain ⟨cq4, kq4, q4a, q4b, q4c⟩ := isOf hZ e3 (U_EQUAL.2.1.ext O0.2)
  obtain ⟨_, _, ⟨T4, L4, k4, n4⟩, -, X4, ⟨Lc4, hQ4, l4, y4, z4⟩, st4⟩ := X3.virtualBack hx (y := (⟨"com/example/bindweave/bindweave/expression/Order", "reversed", "()Lcom/example/bindweave/bindweave/expression/Order;"⟩ : MethodName)) (z := (⟨"com/example/bindweave/bindweave/expression/Order", "reversed", "()Lcom/example/bindweave/bindweave/expression/Order;"⟩ : MethodName)) hown (mvT hZ (hw _ (own_m 5 rfl))) (mvT hZ (hw _ (own_m 6 rfl))) (notFace_of_selects (args := #[]) (mvT hZ (hw _ (own_m 8 rfl)))) (mvT hZ (hw _ (own_m 8 rfl))) (mvT hZ (hw _ (own_m 7 rfl))) (by decide) (backOf (W := 0) (own_rev_EQUAL l Z a0 hw [] w_LESS w_EQUAL w_GREATER w_UNORDERED  h0 n0 O0 U_LESS U_EQUAL U_GREATER U_UNORDERED ) hZ (hw _ (own_m 9 rfl)) (hw _ (own_m 1 rfl)) (by decide) (by decide)) q4a q4c (g := (mkF m 95 #[iv p0, iv p1, iv p2, iv 1, rv w_EQUAL, rv w_EQUAL, rv w_EQUAL, iv 1, .unset, .unset, .unset, .unset, .unset] [(.ref w_EQUAL)])) rfl (by rw [hml]; rfl) (Steps.refl _) (argsL := []) (rest := []) (lenOf own_pd0 rfl) rfl (by show 2 * 0 + _ ≤ _; exact Nat.le_of_eq rfl) (hb hby at_95) (fun _ _ => ⟨rfl, e3, (by decide : 0 + 0 ≤ _), (by decide : 0 + 0 ≤ _)⟩)
  dsimp only [Pt.U, Pt.locs, Pt.cells, Pt.slots] at X4 l4 y4 z4 st4 hQ4
  subst l4 y4 z4
  obtain ⟨rfl, N4q, e4⟩ := hQ4
  have N4 := Fr.app N3 N4q
  obtain ⟨_, _, ⟨T5, L5, k5, n5⟩, -, X5, ⟨Lc5, hQ5, l5, y5, z5⟩, st5⟩ := Jvm.LawKit.callS X4 hx (y := (⟨"com/example/bindweave/bindweave/expression/OrderReversedPinLaw", "sign", "(II)I"⟩ : MethodName)) hown (mvT hZ (hw _ (own_m 12 rfl))) (mvT hZ (hw _ (own_m 13 rfl))) (mvT hZ (hw _ (own_m 14 rfl))) (mvT hZ (hw _ (own_m 15 rfl))) (by decide) (backOf (W := 0) (own_sg_E l Z a0 hw [] w_LESS w_EQUAL w_GREATER w_UNORDERED p1 p2 h0 n0 O0 U_LESS U_EQUAL U_GREATER U_UNORDERED hk.2.1 hk.2.2) hZ (hw _ (own_m 15 rfl)) (hw _ (own_m 14 rfl)) (by decide) (by decide)) (g := (mkF m 112 #[iv p0, iv p1, iv p2, iv 1, rv w_EQUAL, rv w_EQUAL, rv w_EQUAL, iv 1, iv 1, .unset, .unset, .unset, .unset] [(.int p2), (.int p1)])) rfl (by rw [hml]; rfl) (argsL := [(.int p1), (.int p2)]) (rest := []) (lenOf own_pd1 rfl) rfl (by show 2 * 0 + _ ≤ _; exact Nat.le_of_eq rfl) (hb hby at_112) (fun _ _ => ⟨rfl, e4, (by decide : 0 + 0 ≤ _), (by decide : 0 + 0 ≤ _)⟩)
  dsimp only [Pt.U, Pt.locs, Pt.cells, Pt.slots] at X5 l5 y5 z5 st5 hQ5
  subst l5 y5 z5
  obtain ⟨rfl, N5q, e5⟩ := hQ5
  have N5 := Fr.app N4 N5q
  obtain ⟨_, _, ⟨T6, L6, k6, n6⟩, -, X6, ⟨Lc6, hQ6, l6, y6, z6⟩, st6⟩ := Jvm.LawKit.callS X5 hx (y := (⟨"com/example/bindweave/bindweave/expression/Order", "of", "(I)Lcom/example/bindweave/bindweave/expression/Order;"⟩ : MethodName)) hown (mvT hZ (hw _ (own_m 16 rfl))) (mvT hZ (hw _ (own_m 17 rfl))) (mvT hZ (hw _ (own_m 1 rfl))) (mvT hZ (hw _ (own_m 18 rfl))) (by decide) (backOf (W := 0) (own_of_E l Z a0 hw [] w_LESS w_EQUAL w_GREATER w_UNORDERED (0 : Int32) h0 n0 O0 U_LESS U_EQUAL U_GREATER U_UNORDERED (by decide) (by decide)) hZ (hw _ (own_m 18 rfl)) (hw _ (own_m 1 rfl)) (by decide) (by decide)) (g := (mkF m 115 #[iv p0, iv p1, iv p2, iv 1, rv w_EQUAL, rv w_EQUAL, rv w_EQUAL, iv 1, iv 1, .unset, .unset, .unset, .unset] [(.int 0)])) rfl (by rw [hml]; rfl) (argsL := [(.int 0)]) (rest := []) (lenOf own_pd2 rfl) rfl (by show 2 * 0 + _ ≤ _; exact Nat.le_of_eq rfl) (hb hby at_115) (fun _ _ => ⟨rfl, e5, (by decide : 0 + 0 ≤ _), (by decide : 0 + 0 ≤ _)⟩)
  dsimp only [Pt.U, Pt.locs, Pt.cells, Pt.slots] at X6 l6 y6 z6 st6 hQ6
  subst l6 y6 z6
  obtain ⟨rfl, N6q, e6⟩ := hQ6
  have N6 := Fr.app N5 N6q
  obtain ⟨_, _, ⟨T7, L7, k7, n7⟩, -, X7, ⟨Lc7, hQ7, l7, y7, z7⟩, st7⟩ := Jvm.LawKit.callS X6 hx (y := (⟨"com/example/bindweave/bindweave/expression/OrderReversedPinLaw", "sign", "(II)I"⟩ : MethodName)) hown (mvT hZ (hw _ (own_m 12 rfl))) (mvT hZ (hw _ (own_m 13 rfl))) (mvT hZ (hw _ (own_m 14 rfl))) (mvT hZ (hw _ (own_m 15 rfl))) (by decide) (backOf (W := 0) (own_sg_E l Z a0 hw [] w_LESS w_EQUAL w_GREATER w_UNORDERED p2 p1 h0 n0 O0 U_LESS U_EQUAL U_GREATER U_UNORDERED hk.2.2 hk.2.1) hZ (hw _ (own_m 15 rfl)) (hw _ (own_m 14 rfl)) (by decide) (by decide)) (g := (mkF m 122 #[iv p0, iv p1, iv p2, iv 1, rv w_EQUAL, rv w_EQUAL, rv w_EQUAL, iv 1, iv 1, rv w_EQUAL, .unset, .unset, .unset] [(.int p1), (.int p2)])) rfl (by rw [hml]; rfl) (argsL := [(.int p2), (.int p1)]) (rest := []) (lenOf own_pd1 rfl) rfl (by show 2 * 0 + _ ≤ _; exact Nat.le_of_eq rfl) (hb hby at_122) (fun _ _ => ⟨rfl, e6, (by decide : 0 + 0 ≤ _), (by decide : 0 + 0 ≤ _)⟩)
  dsimp only [Pt.U, Pt.locs, Pt.cells, Pt.slots] at X7 l7 y7 z7 st7 hQ7
  subst l7 y7 z7
  obtain ⟨rfl, N7q, e7⟩ := hQ7
  have N7 := Fr.app N6 N7q
  obtain ⟨_, _, ⟨T8, L8, k8, n8⟩, -, X8, ⟨Lc8, hQ8, l8, y8, z8⟩, st8⟩ := Jvm.LawKit.callS X7 hx (y := (⟨"com/example/bindweave/bindweave/expression/Order", "of", "(I)Lcom/example/bindweave/bindweave/expression/Order;"⟩ : MethodName)) hown (mvT hZ (hw _ (own_m 16 rfl))) (mvT hZ (hw _ (own_m 17 rfl))) (mvT hZ (hw _ (own_m 1 rfl))) (mvT hZ (hw _ (own_m 18 rfl))) (by decide) (backOf (W := 0) (own_of_E l Z a0 hw [] w_LESS w_EQUAL w_GREATER w_UNORDERED (0 : Int32) h0 n0 O0 U_LESS U_EQUAL U_GREATER U_UNORDERED (by decide) (by decide)) hZ (hw _ (own_m 18 rfl)) (hw _ (own_m 1 rfl)) (by decide) (by decide)) (g := (mkF m 125 #[iv p0, iv p1, iv p2, iv 1, rv w_EQUAL, rv w_EQUAL, rv w_EQUAL, iv 1, iv 1, rv w_EQUAL, .unset, .unset, .unset] [(.int 0)])) rfl (by rw [hml]; rfl) (argsL := [(.int 0)]) (rest := []) (lenOf own_pd2 rfl) rfl (by show 2 * 0 + _ ≤ _; exact Nat.le_of_eq rfl) (hb hby at_125) (fun _ _ => ⟨rfl, e7, (by decide : 0 + 0 ≤ _), (by decide : 0 + 0 ≤ _)⟩)
  dsimp only [Pt.U, Pt.locs, Pt.cells, Pt.slots] at X8 l8 y8 z8 st8 hQ8
  subst l8 y8 z8
  obtain ⟨rfl, N8q, e8⟩ := hQ8
  have N8 := Fr.app N7 N8q
  obtain ⟨cq9, kq9, q9a, q9b, q9c⟩ := isOf hZ e8 (U_EQUAL.2.1.ext O0.2)
  obtain ⟨_, _, ⟨T9, L9, k9, n9⟩, -, X9, ⟨Lc9, hQ9, l9, y9, z9⟩, st9⟩ := X8.virtualBack hx (y := (⟨"com/example/bindweave/bindweave/expression/Order", "reversed", "()Lcom/example/bindweave/bindweave/expression/Order;"⟩ : MethodName)) (z := (⟨"com/example/bindweave/bindweave/expression/Order", "reversed", "()Lcom/example/bindweave/bindweave/expression/Order;"⟩ : MethodName)) hown (mvT hZ (hw _ (own_m 5 rfl))) (mvT hZ (hw _ (own_m 6 rfl))) (notFace_of_selects (args := #[]) (mvT hZ (hw _ (own_m 8 rfl)))) (mvT hZ (hw _ (own_m 8 rfl))) (mvT hZ (hw _ (own_m 7 rfl))) (by decide) (backOf (W := 0) (own_rev_EQUAL l Z a0 hw [] w_LESS w_EQUAL w_GREATER w_UNORDERED  h0 n0 O0 U_LESS U_EQUAL U_GREATER U_UNORDERED ) hZ (hw _ (own_m 9 rfl)) (hw _ (own_m 1 rfl)) (by decide) (by decide)) q9a q9c (g := (mkF m 132 #[iv p0, iv p1, iv p2, iv 1, rv w_EQUAL, rv w_EQUAL, rv w_EQUAL, iv 1, iv 1, rv w_EQUAL, rv w_EQUAL, .unset, .unset] [(.ref w_EQUAL)])) rfl (by rw [hml]; rfl) (Steps.refl _) (argsL := []) (rest := []) (lenOf own_pd0 rfl) rfl (by show 2 * 0 + _ ≤ _; exact Nat.le_of_eq rfl) (hb hby at_132) (fun _ _ => ⟨rfl, e8, (by decide : 0 + 0 ≤ _), (by decide : 0 + 0 ≤ _)⟩)
  dsimp only [Pt.U, Pt.locs, Pt.cells, Pt.slots] at X9 l9 y9 z9 st9 hQ9
  subst l9 y9 z9
  obtain ⟨rfl, N9q, e9⟩ := hQ9
  have N9 := Fr.app N8 N9q
  obtain ⟨fs, hr, hrun, hended, hW, hsame⟩ := X9.leave (v := some (.int 1)) (fun h => by rw [Bd.returns] at h; cases h)
  refine ⟨_, _, pre0 _ ?_, hrun, hended, _, _, rfl, ?_, ⟨_, rfl⟩, hW, hsame.mono (by decide) (by decide)⟩
  · show Steps p.tables e below (s₁.setTop (mkF m 0 #[iv p0, iv p1, iv p2, .unset, .unset, .unset, .unset, .unset, .unset, .unset, .unset, .unset, .unset] [])) _
    refine XS.iloadN X0.here hx rfl (hb hby at_0) rfl ?_
    show Steps p.tables e below (s₁.setTop (mkF m 1 #[iv p0, iv p1, iv p2, .unset, .unset, .unset, .unset, .unset, .unset, .unset, .unset, .unset, .unset] [(.int p0)])) _
    refine XS.iconst X0.here hx rfl (hb hby at_1) ?_
    show Steps p.tables e below (s₁.setTop (mkF m 2 #[iv p0, iv p1, iv p2, .unset, .unset, .unset, .unset, .unset, .unset, .unset, .unset, .unset, .unset] [(.int 3), (.int p0)])) _
    refine XS.iand X0.here hx rfl (hb hby at_2) rfl ?_
    show Steps p.tables e below (s₁.setTop (mkF m 3 #[iv p0, iv p1, iv p2, .unset, .unset, .unset, .unset, .unset, .unset, .unset, .unset, .unset, .unset] [(.int (p0 &&& (3 : Int32)))])) _
    refine own_top (v' := (.int 1)) (congrArg Value.int hk.1) ?_
    show Steps p.tables e below (s₁.setTop (mkF m 3 #[iv p0, iv p1, iv p2, .unset, .unset, .unset, .unset, .unset, .unset, .unset, .unset, .unset, .unset] [(.int 1)])) _
    refine XS.istoreN X0.here hx rfl (hb hby at_3) rfl (l' := #[iv p0, iv p1, iv p2, iv 1, .unset, .unset, .unset, .unset, .unset, .unset, .unset, .unset, .unset]) rfl ?_
    show Steps p.tables e below (s₁.setTop (mkF m 4 #[iv p0, iv p1, iv p2, iv 1, .unset, .unset, .unset, .unset, .unset, .unset, .unset, .unset, .unset] [])) _
    refine XS.iloadN X0.here hx rfl (hb hby at_4) rfl ?_
    show Steps p.tables e below (s₁.setTop (mkF m 5 #[iv p0, iv p1, iv p2, iv 1, .unset, .unset, .unset, .unset, .unset, .unset, .unset, .unset, .unset] [(.int 1)])) _
    refine XS.ifYes X0.here hx rfl (pc0 := 5) (pc' := 21) rfl (hb hby at_5) rfl ((if0 _ _).trans (feq (by decide)).2) (by decide) (by decide) ?_
    show Steps p.tables e below (s₁.setTop (mkF m 21 #[iv p0, iv p1, iv p2, iv 1, .unset, .unset, .unset, .unset, .unset, .unset, .unset, .unset, .unset] [])) _
    refine XS.iloadN X0.here hx rfl (hb hby at_21) rfl ?_
    show Steps p.tables e below (s₁.setTop (mkF m 22 #[iv p0, iv p1, iv p2, iv 1, .unset, .unset, .unset, .unset, .unset, .unset, .unset, .unset, .unset] [(.int 1)])) _
    refine XS.iconst X0.here hx rfl (hb hby at_22) ?_
    show Steps p.tables e below (s₁.setTop (mkF m 23 #[iv p0, iv p1, iv p2, iv 1, .unset, .unset, .unset, .unset, .unset, .unset, .unset, .unset, .unset] [(.int 1), (.int 1)])) _
    refine XS.icmpNo X0.here hx rfl (hb hby at_23) rfl (teq (by decide)).2 ?_
    show Steps p.tables e below (s₁.setTop (mkF m 26 #[iv p0, iv p1, iv p2, iv 1, .unset, .unset, .unset, .unset, .unset, .unset, .unset, .unset, .unset] [])) _
    refine st1 _ ?_
    show Steps p.tables e below (T1.setTop (mkF m 29 #[iv p0, iv p1, iv p2, iv 1, .unset, .unset, .unset, .unset, .unset, .unset, .unset, .unset, .unset] [(.ref w_EQUAL)])) _
    refine XS.astore X1.here hx rfl (hb hby at_29) rfl rfl (l' := #[iv p0, iv p1, iv p2, iv 1, rv w_EQUAL, .unset, .unset, .unset, .unset, .unset, .unset, .unset, .unset]) rfl ?_
    show Steps p.tables e below (T1.setTop (mkF m 31 #[iv p0, iv p1, iv p2, iv 1, rv w_EQUAL, .unset, .unset, .unset, .unset, .unset, .unset, .unset, .unset] [])) _
    refine st2 _ ?_
    show Steps p.tables e below (T2.setTop (mkF m 34 #[iv p0, iv p1, iv p2, iv 1, rv w_EQUAL, .unset, .unset, .unset, .unset, .unset, .unset, .unset, .unset] [(.ref w_EQUAL)])) _
    refine XS.astore X2.here hx rfl (hb hby at_34) rfl rfl (l' := #[iv p0, iv p1, iv p2, iv 1, rv w_EQUAL, rv w_EQUAL, .unset, .unset, .unset, .unset, .unset, .unset, .unset]) rfl ?_
    show Steps p.tables e below (T2.setTop (mkF m 36 #[iv p0, iv p1, iv p2, iv 1, rv w_EQUAL, rv w_EQUAL, .unset, .unset, .unset, .unset, .unset, .unset, .unset] [])) _
    refine XS.goto X2.here hx rfl (pc0 := 36) (pc' := 67) rfl (hb hby at_36) (by decide) (by decide) ?_
    show Steps p.tables e below (T2.setTop (mkF m 67 #[iv p0, iv p1, iv p2, iv 1, rv w_EQUAL, rv w_EQUAL, .unset, .unset, .unset, .unset, .unset, .unset, .unset] [])) _
    refine XS.aload X2.here hx rfl (hb hby at_67) rfl rfl ?_
    show Steps p.tables e below (T2.setTop (mkF m 69 #[iv p0, iv p1, iv p2, iv 1, rv w_EQUAL, rv w_EQUAL, .unset, .unset, .unset, .unset, .unset, .unset, .unset] [(.ref w_EQUAL)])) _
    refine st3.trans ?_
    show Steps p.tables e below (T3.setTop (mkF m 72 #[iv p0, iv p1, iv p2, iv 1, rv w_EQUAL, rv w_EQUAL, .unset, .unset, .unset, .unset, .unset, .unset, .unset] [(.ref w_EQUAL)])) _
    refine XS.astore X3.here hx rfl (hb hby at_72) rfl rfl (l' := #[iv p0, iv p1, iv p2, iv 1, rv w_EQUAL, rv w_EQUAL, rv w_EQUAL, .unset, .unset, .unset, .unset, .unset, .unset]) rfl ?_
    show Steps p.tables e below (T3.setTop (mkF m 74 #[iv p0, iv p1, iv p2, iv 1, rv w_EQUAL, rv w_EQUAL, rv w_EQUAL, .unset, .unset, .unset, .unset, .unset, .unset] [])) _
    refine XS.aload X3.here hx rfl (hb hby at_74) rfl rfl ?_
    show Steps p.tables e below (T3.setTop (mkF m 76 #[iv p0, iv p1, iv p2, iv 1, rv w_EQUAL, rv w_EQUAL, rv w_EQUAL, .unset, .unset, .unset, .unset, .unset, .unset] [(.ref w_EQUAL)])) _
    refine XS.aload X3.here hx rfl (hb hby at_76) rfl rfl ?_
    show Steps p.tables e below (T3.setTop (mkF m 78 #[iv p0, iv p1, iv p2, iv 1, rv w_EQUAL, rv w_EQUAL, rv w_EQUAL, .unset, .unset, .unset, .unset, .unset, .unset] [(.ref w_EQUAL), (.ref w_EQUAL)])) _
    refine Jvm.RoadKit.acmp (g := (mkF m 78 #[iv p0, iv p1, iv p2, iv 1, rv w_EQUAL, rv w_EQUAL, rv w_EQUAL, .unset, .unset, .unset, .unset, .unset, .unset] [(.ref w_EQUAL), (.ref w_EQUAL)])) X3 hx rfl rfl rfl (pc0 := 78) (pc' := 81) (same := true) rfl (hb hby at_78) rfl (decide_eq_true rfl) (by decide) (by decide) ?_
    show Steps p.tables e below (T3.setTop (mkF m 81 #[iv p0, iv p1, iv p2, iv 1, rv w_EQUAL, rv w_EQUAL, rv w_EQUAL, .unset, .unset, .unset, .unset, .unset, .unset] [])) _
    refine XS.iconst X3.here hx rfl (hb hby at_81) ?_
    show Steps p.tables e below (T3.setTop (mkF m 82 #[iv p0, iv p1, iv p2, iv 1, rv w_EQUAL, rv w_EQUAL, rv w_EQUAL, .unset, .unset, .unset, .unset, .unset, .unset] [(.int 1)])) _
    refine XS.goto X3.here hx rfl (pc0 := 82) (pc' := 86) rfl (hb hby at_82) (by decide) (by decide) ?_
    show Steps p.tables e below (T3.setTop (mkF m 86 #[iv p0, iv p1, iv p2, iv 1, rv w_EQUAL, rv w_EQUAL, rv w_EQUAL, .unset, .unset, .unset, .unset, .unset, .unset] [(.int 1)])) _
    refine XS.istore X3.here hx rfl (hb hby at_86) rfl (l' := #[iv p0, iv p1, iv p2, iv 1, rv w_EQUAL, rv w_EQUAL, rv w_EQUAL, iv 1, .unset, .unset, .unset, .unset, .unset]) rfl ?_
    show Steps p.tables e below (T3.setTop (mkF m 88 #[iv p0, iv p1, iv p2, iv 1, rv w_EQUAL, rv w_EQUAL, rv w_EQUAL, iv 1, .unset, .unset, .unset, .unset, .unset] [])) _
    refine XS.aload X3.here hx rfl (hb hby at_88) rfl rfl ?_
    show Steps p.tables e below (T3.setTop (mkF m 90 #[iv p0, iv p1, iv p2, iv 1, rv w_EQUAL, rv w_EQUAL, rv w_EQUAL, iv 1, .unset, .unset, .unset, .unset, .unset] [(.ref w_EQUAL)])) _
    refine XS.ifnullNo X3.here hx rfl (hb hby at_90) rfl ?_
    show Steps p.tables e below (T3.setTop (mkF m 93 #[iv p0, iv p1, iv p2, iv 1, rv w_EQUAL, rv w_EQUAL, rv w_EQUAL, iv 1, .unset, .unset, .unset, .unset, .unset] [])) _
    refine XS.aload X3.here hx rfl (hb hby at_93) rfl rfl ?_
    show Steps p.tables e below (T3.setTop (mkF m 95 #[iv p0, iv p1, iv p2, iv 1, rv w_EQUAL, rv w_EQUAL, rv w_EQUAL, iv 1, .unset, .unset, .unset, .unset, .unset] [(.ref w_EQUAL)])) _
    refine st4.trans ?_
    show Steps p.tables e below (T4.setTop (mkF m 98 #[iv p0, iv p1, iv p2, iv 1, rv w_EQUAL, rv w_EQUAL, rv w_EQUAL, iv 1, .unset, .unset, .unset, .unset, .unset] [(.ref w_EQUAL)])) _
    refine XS.aload X4.here hx rfl (hb hby at_98) rfl rfl ?_
    show Steps p.tables e below (T4.setTop (mkF m 100 #[iv p0, iv p1, iv p2, iv 1, rv w_EQUAL, rv w_EQUAL, rv w_EQUAL, iv 1, .unset, .unset, .unset, .unset, .unset] [(.ref w_EQUAL), (.ref w_EQUAL)])) _
    refine Jvm.RoadKit.acmp (g := (mkF m 100 #[iv p0, iv p1, iv p2, iv 1, rv w_EQUAL, rv w_EQUAL, rv w_EQUAL, iv 1, .unset, .unset, .unset, .unset, .unset] [(.ref w_EQUAL), (.ref w_EQUAL)])) X4 hx rfl rfl rfl (pc0 := 100) (pc' := 103) (same := true) rfl (hb hby at_100) rfl (decide_eq_true rfl) (by decide) (by decide) ?_
    show Steps p.tables e below (T4.setTop (mkF m 103 #[iv p0, iv p1, iv p2, iv 1, rv w_EQUAL, rv w_EQUAL, rv w_EQUAL, iv 1, .unset, .unset, .unset, .unset, .unset] [])) _
    refine XS.iconst X4.here hx rfl (hb hby at_103) ?_
    show Steps p.tables e below (T4.setTop (mkF m 104 #[iv p0, iv p1, iv p2, iv 1, rv w_EQUAL, rv w_EQUAL, rv w_EQUAL, iv 1, .unset, .unset, .unset, .unset, .unset] [(.int 1)])) _
    refine XS.goto X4.here hx rfl (pc0 := 104) (pc' := 108) rfl (hb hby at_104) (by decide) (by decide) ?_
    show Steps p.tables e below (T4.setTop (mkF m 108 #[iv p0, iv p1, iv p2, iv 1, rv w_EQUAL, rv w_EQUAL, rv w_EQUAL, iv 1, .unset, .unset, .unset, .unset, .unset] [(.int 1)])) _
    refine XS.istore X4.here hx rfl (hb hby at_108) rfl (l' := #[iv p0, iv p1, iv p2, iv 1, rv w_EQUAL, rv w_EQUAL, rv w_EQUAL, iv 1, iv 1, .unset, .unset, .unset, .unset]) rfl ?_
    show Steps p.tables e below (T4.setTop (mkF m 110 #[iv p0, iv p1, iv p2, iv 1, rv w_EQUAL, rv w_EQUAL, rv w_EQUAL, iv 1, iv 1, .unset, .unset, .unset, .unset] [])) _
    refine XS.iloadN X4.here hx rfl (hb hby at_110) rfl ?_
    show Steps p.tables e below (T4.setTop (mkF m 111 #[iv p0, iv p1, iv p2, iv 1, rv w_EQUAL, rv w_EQUAL, rv w_EQUAL, iv 1, iv 1, .unset, .unset, .unset, .unset] [(.int p1)])) _
    refine XS.iloadN X4.here hx rfl (hb hby at_111) rfl ?_
    show Steps p.tables e below (T4.setTop (mkF m 112 #[iv p0, iv p1, iv p2, iv 1, rv w_EQUAL, rv w_EQUAL, rv w_EQUAL, iv 1, iv 1, .unset, .unset, .unset, .unset] [(.int p2), (.int p1)])) _
    refine st5 _ ?_
    show Steps p.tables e below (T5.setTop (mkF m 115 #[iv p0, iv p1, iv p2, iv 1, rv w_EQUAL, rv w_EQUAL, rv w_EQUAL, iv 1, iv 1, .unset, .unset, .unset, .unset] [(.int 0)])) _
    refine st6 _ ?_
    show Steps p.tables e below (T6.setTop (mkF m 118 #[iv p0, iv p1, iv p2, iv 1, rv w_EQUAL, rv w_EQUAL, rv w_EQUAL, iv 1, iv 1, .unset, .unset, .unset, .unset] [(.ref w_EQUAL)])) _
    refine XS.astore X6.here hx rfl (hb hby at_118) rfl rfl (l' := #[iv p0, iv p1, iv p2, iv 1, rv w_EQUAL, rv w_EQUAL, rv w_EQUAL, iv 1, iv 1, rv w_EQUAL, .unset, .unset, .unset]) rfl ?_
    show Steps p.tables e below (T6.setTop (mkF m 120 #[iv p0, iv p1, iv p2, iv 1, rv w_EQUAL, rv w_EQUAL, rv w_EQUAL, iv 1, iv 1, rv w_EQUAL, .unset, .unset, .unset] [])) _
    refine XS.iloadN X6.here hx rfl (hb hby at_120) rfl ?_
    show Steps p.tables e below (T6.setTop (mkF m 121 #[iv p0, iv p1, iv p2, iv 1, rv w_EQUAL, rv w_EQUAL, rv w_EQUAL, iv 1, iv 1, rv w_EQUAL, .unset, .unset, .unset] [(.int p2)])) _
    refine XS.iloadN X6.here hx rfl (hb hby at_121) rfl ?_
    show Steps p.tables e below (T6.setTop (mkF m 122 #[iv p0, iv p1, iv p2, iv 1, rv w_EQUAL, rv w_EQUAL, rv w_EQUAL, iv 1, iv 1, rv w_EQUAL, .unset, .unset, .unset] [(.int p1), (.int p2)])) _
    refine st7 _ ?_
    show Steps p.tables e below (T7.setTop (mkF m 125 #[iv p0, iv p1, iv p2, iv 1, rv w_EQUAL, rv w_EQUAL, rv w_EQUAL, iv 1, iv 1, rv w_EQUAL, .unset, .unset, .unset] [(.int 0)])) _
    refine st8 _ ?_
    show Steps p.tables e below (T8.setTop (mkF m 128 #[iv p0, iv p1, iv p2, iv 1, rv w_EQUAL, rv w_EQUAL, rv w_EQUAL, iv 1, iv 1, rv w_EQUAL, .unset, .unset, .unset] [(.ref w_EQUAL)])) _
    refine XS.astore X8.here hx rfl (hb hby at_128) rfl rfl (l' := #[iv p0, iv p1, iv p2, iv 1, rv w_EQUAL, rv w_EQUAL, rv w_EQUAL, iv 1, iv 1, rv w_EQUAL, rv w_EQUAL, .unset, .unset]) rfl ?_
    show Steps p.tables e below (T8.setTop (mkF m 130 #[iv p0, iv p1, iv p2, iv 1, rv w_EQUAL, rv w_EQUAL, rv w_EQUAL, iv 1, iv 1, rv w_EQUAL, rv w_EQUAL, .unset, .unset] [])) _
    refine XS.aload X8.here hx rfl (hb hby at_130) rfl rfl ?_
    show Steps p.tables e below (T8.setTop (mkF m 132 #[iv p0, iv p1, iv p2, iv 1, rv w_EQUAL, rv w_EQUAL, rv w_EQUAL, iv 1, iv 1, rv w_EQUAL, rv w_EQUAL, .unset, .unset] [(.ref w_EQUAL)])) _
    refine st9.trans ?_
    show Steps p.tables e below (T9.setTop (mkF m 135 #[iv p0, iv p1, iv p2, iv 1, rv w_EQUAL, rv w_EQUAL, rv w_EQUAL, iv 1, iv 1, rv w_EQUAL, rv w_EQUAL, .unset, .unset] [(.ref w_EQUAL)])) _
    refine XS.astore X9.here hx rfl (hb hby at_135) rfl rfl (l' := #[iv p0, iv p1, iv p2, iv 1, rv w_EQUAL, rv w_EQUAL, rv w_EQUAL, iv 1, iv 1, rv w_EQUAL, rv w_EQUAL, rv w_EQUAL, .unset]) rfl ?_
    show Steps p.tables e below (T9.setTop (mkF m 137 #[iv p0, iv p1, iv p2, iv 1, rv w_EQUAL, rv w_EQUAL, rv w_EQUAL, iv 1, iv 1, rv w_EQUAL, rv w_EQUAL, rv w_EQUAL, .unset] [])) _
    refine XS.aload X9.here hx rfl (hb hby at_137) rfl rfl ?_
    show Steps p.tables e below (T9.setTop (mkF m 139 #[iv p0, iv p1, iv p2, iv 1, rv w_EQUAL, rv w_EQUAL, rv w_EQUAL, iv 1, iv 1, rv w_EQUAL, rv w_EQUAL, rv w_EQUAL, .unset] [(.ref w_EQUAL)])) _
    refine XS.aload X9.here hx rfl (hb hby at_139) rfl rfl ?_
    show Steps p.tables e below (T9.setTop (mkF m 141 #[iv p0, iv p1, iv p2, iv 1, rv w_EQUAL, rv w_EQUAL, rv w_EQUAL, iv 1, iv 1, rv w_EQUAL, rv w_EQUAL, rv w_EQUAL, .unset] [(.ref w_EQUAL), (.ref w_EQUAL)])) _
    refine Jvm.RoadKit.acmp (g := (mkF m 141 #[iv p0, iv p1, iv p2, iv 1, rv w_EQUAL, rv w_EQUAL, rv w_EQUAL, iv 1, iv 1, rv w_EQUAL, rv w_EQUAL, rv w_EQUAL, .unset] [(.ref w_EQUAL), (.ref w_EQUAL)])) X9 hx rfl rfl rfl (pc0 := 141) (pc' := 144) (same := true) rfl (hb hby at_141) rfl (decide_eq_true rfl) (by decide) (by decide) ?_
    show Steps p.tables e below (T9.setTop (mkF m 144 #[iv p0, iv p1, iv p2, iv 1, rv w_EQUAL, rv w_EQUAL, rv w_EQUAL, iv 1, iv 1, rv w_EQUAL, rv w_EQUAL, rv w_EQUAL, .unset] [])) _
    refine XS.iconst X9.here hx rfl (hb hby at_144) ?_
    show Steps p.tables e below (T9.setTop (mkF m 145 #[iv p0, iv p1, iv p2, iv 1, rv w_EQUAL, rv w_EQUAL, rv w_EQUAL, iv 1, iv 1, rv w_EQUAL, rv w_EQUAL, rv w_EQUAL, .unset] [(.int 1)])) _
    refine XS.goto X9.here hx rfl (pc0 := 145) (pc' := 149) rfl (hb hby at_145) (by decide) (by decide) ?_
    show Steps p.tables e below (T9.setTop (mkF m 149 #[iv p0, iv p1, iv p2, iv 1, rv w_EQUAL, rv w_EQUAL, rv w_EQUAL, iv 1, iv 1, rv w_EQUAL, rv w_EQUAL, rv w_EQUAL, .unset] [(.int 1)])) _
    refine XS.istore X9.here hx rfl (hb hby at_149) rfl (l' := #[iv p0, iv p1, iv p2, iv 1, rv w_EQUAL, rv w_EQUAL, rv w_EQUAL, iv 1, iv 1, rv w_EQUAL, rv w_EQUAL, rv w_EQUAL, iv 1]) rfl ?_
    show Steps p.tables e below (T9.setTop (mkF m 151 #[iv p0, iv p1, iv p2, iv 1, rv w_EQUAL, rv w_EQUAL, rv w_EQUAL, iv 1, iv 1, rv w_EQUAL, rv w_EQUAL, rv w_EQUAL, iv 1] [])) _
    refine XS.iload X9.here hx rfl (hb hby at_151) rfl ?_
    show Steps p.tables e below (T9.setTop (mkF m 153 #[iv p0, iv p1, iv p2, iv 1, rv w_EQUAL, rv w_EQUAL, rv w_EQUAL, iv 1, iv 1, rv w_EQUAL, rv w_EQUAL, rv w_EQUAL, iv 1] [(.int 1)])) _
    refine XS.ifNo X9.here hx rfl (hb hby at_153) rfl ((if0 _ _).trans (feq (by decide)).1) ?_
    show Steps p.tables e below (T9.setTop (mkF m 156 #[iv p0, iv p1, iv p2, iv 1, rv w_EQUAL, rv w_EQUAL, rv w_EQUAL, iv 1, iv 1, rv w_EQUAL, rv w_EQUAL, rv w_EQUAL, iv 1] [])) _
    refine XS.iload X9.here hx rfl (hb hby at_156) rfl ?_
    show Steps p.tables e below (T9.setTop (mkF m 158 #[iv p0, iv p1, iv p2, iv 1, rv w_EQUAL, rv w_EQUAL, rv w_EQUAL, iv 1, iv 1, rv w_EQUAL, rv w_EQUAL, rv w_EQUAL, iv 1] [(.int 1)])) _
    refine XS.ifNo X9.here hx rfl (hb hby at_158) rfl ((if0 _ _).trans (feq (by decide)).1) ?_
    show Steps p.tables e below (T9.setTop (mkF m 161 #[iv p0, iv p1, iv p2, iv 1, rv w_EQUAL, rv w_EQUAL, rv w_EQUAL, iv 1, iv 1, rv w_EQUAL, rv w_EQUAL, rv w_EQUAL, iv 1] [])) _
    refine XS.iload X9.here hx rfl (hb hby at_161) rfl ?_
    show Steps p.tables e below (T9.setTop (mkF m 163 #[iv p0, iv p1, iv p2, iv 1, rv w_EQUAL, rv w_EQUAL, rv w_EQUAL, iv 1, iv 1, rv w_EQUAL, rv w_EQUAL, rv w_EQUAL, iv 1] [(.int 1)])) _
    refine XS.ifNo X9.here hx rfl (hb hby at_163) rfl ((if0 _ _).trans (feq (by decide)).1) ?_
    show Steps p.tables e below (T9.setTop (mkF m 166 #[iv p0, iv p1, iv p2, iv 1, rv w_EQUAL, rv w_EQUAL, rv w_EQUAL, iv 1, iv 1, rv w_EQUAL, rv w_EQUAL, rv w_EQUAL, iv 1] [])) _
    refine XS.iconst X9.here hx rfl (hb hby at_166) ?_
    show Steps p.tables e below (T9.setTop (mkF m 167 #[iv p0, iv p1, iv p2, iv 1, rv w_EQUAL, rv w_EQUAL, rv w_EQUAL, iv 1, iv 1, rv w_EQUAL, rv w_EQUAL, rv w_EQUAL, iv 1] [(.int 1)])) _
    refine XS.goto X9.here hx rfl (pc0 := 167) (pc' := 171) rfl (hb hby at_167) (by decide) (by decide) ?_
    show Steps p.tables e below (T9.setTop (mkF m 171 #[iv p0, iv p1, iv p2, iv 1, rv w_EQUAL, rv w_EQUAL, rv w_EQUAL, iv 1, iv 1, rv w_EQUAL, rv w_EQUAL, rv w_EQUAL, iv 1] [(.int 1)])) _
    exact retN X9 hx (t := .boolean) Bd.returns (by simp) (hb hby at_171) hr
  · show own_law4_Q Z w_LESS w_EQUAL w_GREATER w_UNORDERED p0 p1 p2 h0 n0 _ T9.heap _
    rw [e9]
    exact ⟨rfl, N9, trivial⟩
theorem own_law5_ef (m : MethodId) (p0 : Int32) (p1 : Int32) (p2 : Int32) : entryFrame m #[(.int p0), (.int p1), (.int p2)] maxLocals = mkF m 0 #[iv p0, iv p1, iv p2, .unset, .unset, .unset, .unset, .unset, .unset, .unset, .unset, .unset, .unset] [] := by first | (simp [entryFrame, mkF, argsToLocals, Value.category, maxLocals]; done) | rfl
def own_law5_Q (Z : State) (w_LESS : Addr) (w_EQUAL : Addr) (w_GREATER : Addr) (w_UNORDERED : Addr) (p0 : Int32) (p1 : Int32) (p2 : Int32) (h0 : Heap) (n0 : Nat) (v : Option Value) (h : Heap) (L : List Loc) : Prop := v = some (.int 1) ∧ Fr n0 L ∧ True
set_option maxRecDepth 65536 in
set_option maxHeartbeats 40000000 in
theorem own_law5 (l : Launch) (Z : State) (a0 : Array Value) (hw : ∀ d ∈ tables_1, d.before a0 Z = true) (ws : List Jvm.Cond) (w_LESS : Addr) (w_EQUAL : Addr) (w_GREATER : Addr) (w_UNORDERED : Addr) (p0 : Int32) (p1 : Int32) (p2 : Int32) (h0 : Heap) (n0 : Nat) (O0 : Old Z n0 h0) (U_LESS : own_En Z Z.heap "com/example/bindweave/bindweave/expression/Order" "LESS" "Lcom/example/bindweave/bindweave/expression/Order;" w_LESS (0 : Int32)) (U_EQUAL : own_En Z Z.heap "com/example/bindweave/bindweave/expression/Order" "EQUAL" "Lcom/example/bindweave/bindweave/expression/Order;" w_EQUAL (1 : Int32)) (U_GREATER : own_En Z Z.heap "com/example/bindweave/bindweave/expression/Order" "GREATER" "Lcom/example/bindweave/bindweave/expression/Order;" w_GREATER (2 : Int32)) (U_UNORDERED : own_En Z Z.heap "com/example/bindweave/bindweave/expression/Order" "UNORDERED" "Lcom/example/bindweave/bindweave/expression/Order;" w_UNORDERED (3 : Int32)) (hk : (p0 &&& (3 : Int32)) = (1 : Int32) ∧ (¬ p1 < p2 ∧ p2 < p1)) :
    MetFree l x (head1 (Jvm.Cond.code x code maxLocals ret :: ws) room_1) (fun ar U => ar = #[(.int p0), (.int p1), (.int p2)] ∧ Z.Warmed39 U.vm ∧ U.heap = h0) (fun _ _ _ _ _ => True) (fun _ U oc U' => ∃ v L, oc = .returned v ∧ own_law5_Q Z w_LESS w_EQUAL w_GREATER w_UNORDERED p0 p1 p2 h0 n0 v U'.heap L ∧ FrameEnd U oc U' L 0 0) := by
  refine MetFree.of_bodySF (plainFor_of_name own_pn1) hisR ?_
  intro p e s m args below meth c s₁ Bd hml0 hP hK
  obtain ⟨rfl, hZ, hh⟩ := hP
  have hx := Bd.exec
  have hby := Bd.bytes
  have hml : c.maxLocals = 13 := hml0
  have hown : s.vm.findClass "com/example/bindweave/bindweave/expression/OrderReversedPinLaw" = some m.cls := findClass_of_methodNamed Bd.named
  have hnm := (name_of_methodNamed Bd.named Bd.method).1
  have X0 : Stand p l e room_1 s m #[(.int p0), (.int p1), (.int p2)] below meth c s₁ [] 0 0 := Stand.of_body Bd
  have e0 : s₁.heap = h0 := by rw [← hh, Bd.state]; rfl
  have N0 := Fr.nil n0
  have pre0 : ∀ t, Steps p.tables e below (s₁.setTop (mkF m 0 #[iv p0, iv p1, iv p2, .unset, .unset, .unset, .unset, .unset, .unset, .unset, .unset, .unset, .unset] [])) t → Steps p.tables e below (s₁.setTop (entryFrame m #[(.int p0), (.int p1), (.int p2)] maxLocals)) t := fun t k => castTop (own_law5_ef m p0 p1 p2) k
  obtain ⟨T1, X1, e1, st1⟩ := getS2 X0 hx hZ hown (host := "") (Or.inl (hw _ (own_m 19 rfl))) Via.refl e0 (U_EQUAL.1.ext O0.2) (g := (mkF m 26 #[iv p0, iv p1, iv p2, iv 1, .unset, .unset, .unset, .unset, .unset, .unset, .unset, .unset, .unset] [])) rfl (hb hby at_26)
  obtain ⟨T2, X2, e2, st2⟩ := getS2 X1 hx hZ hown (host := "") (Or.inl (hw _ (own_m 19 rfl))) Via.refl e1 (U_EQUAL.1.ext O0.2) (g := (mkF m 31 #[iv p0, iv p1, iv p2, iv 1, rv w_EQUAL, .unset, .unset, .unset, .unset, .unset, .unset, .unset, .unset] [])) rfl (hb hby at_31)
  obtain ⟨cq3, kq3, q3a, q3b, q3c⟩ := isOf hZ e2 (U_EQUAL.2.1.ext O0.2)
  obtain ⟨_, _, ⟨T3, L3, k3, n3⟩, -, X3, ⟨Lc3, hQ3, l3, y3, z3⟩, st3⟩ := X2.virtualBack hx (y := (⟨"com/example/bindweave/bindweave/expression/Order", "reversed", "()Lcom/example/bindweave/bindweave/expression/Order;"⟩ : MethodName)) (z := (⟨"com/example/bindweave/bindweave/expression/Order", "reversed", "()Lcom/example/bindweave/bindweave/expression/Order;"⟩ : MethodName)) hown (mvT hZ (hw _ (own_m 5 rfl))) (mvT hZ (hw _ (own_m 6 rfl))) (notFace_of_selects (args := #[]) (mvT hZ (hw _ (own_m 8 rfl)))) (mvT hZ (hw _ (own_m 8 rfl))) (mvT hZ (hw _ (own_m 7 rfl))) (by decide) (backOf (W := 0) (own_rev_EQUAL l Z a0 hw [] w_LESS w_EQUAL w_GREATER w_UNORDERED  h0 n0 O0 U_LESS U_EQUAL U_GREATER U_UNORDERED ) hZ (hw _ (own_m 9 rfl)) (hw _ (own_m 1 rfl)) (by decide) (by decide)) q3a q3c (g := (mkF m 69 #[iv p0, iv p1, iv p2, iv 1, rv w_EQUAL, rv w_EQUAL, .unset, .unset, .unset, .unset, .unset, .unset, .unset] [(.ref w_EQUAL)])) rfl (by rw [hml]; rfl) (Steps.refl _) (argsL := []) (rest := []) (lenOf own_pd0 rfl) rfl (by show 2 * 0 + _ ≤ _; exact Nat.le_of_eq rfl) (hb hby at_69) (fun _ _ => ⟨rfl, e2, (by decide : 0 + 0 ≤ _), (by decide : 0 + 0 ≤ _)⟩)
  dsimp only [Pt.U, Pt.locs, Pt.cells, Pt.slots] at X3 l3 y3 z3 st3 hQ3
  subst l3 y3 z3
  obtain ⟨rfl, N3q, e3⟩ := hQ3
  have N3 := Fr.app N0 N3q
  obtain ⟨cq4, kq4, q4a, q4b, q4c⟩ := isOf hZ e3 (U_EQUAL.2.1.ext O0.2)
  obtain ⟨_, _, ⟨T4, L4, k4, n4⟩, -, X4, ⟨Lc4, hQ4, l4, y4, z4⟩, st4⟩ := X3.virtualBack hx (y := (⟨"com/example/bindweave/bindweave/expression/Order", "reversed", "()Lcom/example/bindweave/bindweave/expression/Order;"⟩ : MethodName)) (z := (⟨"com/example/bindweave/bindweave/expression/Order", "reversed", "()Lcom/example/bindweave/bindweave/expression/Order;"⟩ : MethodName)) hown (mvT hZ (hw _ (own_m 5 rfl))) (mvT hZ (hw _ (own_m 6 rfl))) (notFace_of_selects (args := #[]) (mvT hZ (hw _ (own_m 8 rfl)))) (mvT hZ (hw _ (own_m 8 rfl))) (mvT hZ (hw _ (own_m 7 rfl))) (by decide) (backOf (W := 0) (own_rev_EQUAL l Z a0 hw [] w_LESS w_EQUAL w_GREATER w_UNORDERED  h0 n0 O0 U_LESS U_EQUAL U_GREATER U_UNORDERED ) hZ (hw _ (own_m 9 rfl)) (hw _ (own_m 1 rfl)) (by decide) (by decide)) q4a q4c (g := (mkF m 95 #[iv p0, iv p1, iv p2, iv 1, rv w_EQUAL, rv w_EQUAL, rv w_EQUAL, iv 1, .unset, .unset, .unset, .unset, .unset] [(.ref w_EQUAL)])) rfl (by rw [hml]; rfl) (Steps.refl _) (argsL := []) (rest := []) (lenOf own_pd0 rfl) rfl (by show 2 * 0 + _ ≤ _; exact Nat.le_of_eq rfl) (hb hby at_95) (fun _ _ => ⟨rfl, e3, (by decide : 0 + 0 ≤ _), (by decide : 0 + 0 ≤ _)⟩)
  dsimp only [Pt.U, Pt.locs, Pt.cells, Pt.slots] at X4 l4 y4 z4 st4 hQ4
  subst l4 y4 z4
  obtain ⟨rfl, N4q, e4⟩ := hQ4
  have N4 := Fr.app N3 N4q
  obtain ⟨_, _, ⟨T5, L5, k5, n5⟩, -, X5, ⟨Lc5, hQ5, l5, y5, z5⟩, st5⟩ := Jvm.LawKit.callS X4 hx (y := (⟨"com/example/bindweave/bindweave/expression/OrderReversedPinLaw", "sign", "(II)I"⟩ : MethodName)) hown (mvT hZ (hw _ (own_m 12 rfl))) (mvT hZ (hw _ (own_m 13 rfl))) (mvT hZ (hw _ (own_m 14 rfl))) (mvT hZ (hw _ (own_m 15 rfl))) (by decide) (backOf (W := 0) (own_sg_G l Z a0 hw [] w_LESS w_EQUAL w_GREATER w_UNORDERED p1 p2 h0 n0 O0 U_LESS U_EQUAL U_GREATER U_UNORDERED hk.2.1 hk.2.2) hZ (hw _ (own_m 15 rfl)) (hw _ (own_m 14 rfl)) (by decide) (by decide)) (g := (mkF m 112 #[iv p0, iv p1, iv p2, iv 1, rv w_EQUAL, rv w_EQUAL, rv w_EQUAL, iv 1, iv 1, .unset, .unset, .unset, .unset] [(.int p2), (.int p1)])) rfl (by rw [hml]; rfl) (argsL := [(.int p1), (.int p2)]) (rest := []) (lenOf own_pd1 rfl) rfl (by show 2 * 0 + _ ≤ _; exact Nat.le_of_eq rfl) (hb hby at_112) (fun _ _ => ⟨rfl, e4, (by decide : 0 + 0 ≤ _), (by decide : 0 + 0 ≤ _)⟩)
  dsimp only [Pt.U, Pt.locs, Pt.cells, Pt.slots] at X5 l5 y5 z5 st5 hQ5
  subst l5 y5 z5
  obtain ⟨rfl, N5q, e5⟩ := hQ5
  have N5 := Fr.app N4 N5q
  obtain ⟨_, _, ⟨T6, L6, k6, n6⟩, -, X6, ⟨Lc6, hQ6, l6, y6, z6⟩, st6⟩ := Jvm.LawKit.callS X5 hx (y := (⟨"com/example/bindweave/bindweave/expression/Order", "of", "(I)Lcom/example/bindweave/bindweave/expression/Order;"⟩ : MethodName)) hown (mvT hZ (hw _ (own_m 16 rfl))) (mvT hZ (hw _ (own_m 17 rfl))) (mvT hZ (hw _ (own_m 1 rfl))) (mvT hZ (hw _ (own_m 18 rfl))) (by decide) (backOf (W := 0) (own_of_G l Z a0 hw [] w_LESS w_EQUAL w_GREATER w_UNORDERED (1 : Int32) h0 n0 O0 U_LESS U_EQUAL U_GREATER U_UNORDERED (by decide) (by decide)) hZ (hw _ (own_m 18 rfl)) (hw _ (own_m 1 rfl)) (by decide) (by decide)) (g := (mkF m 115 #[iv p0, iv p1, iv p2, iv 1, rv w_EQUAL, rv w_EQUAL, rv w_EQUAL, iv 1, iv 1, .unset, .unset, .unset, .unset] [(.int 1)])) rfl (by rw [hml]; rfl) (argsL := [(.int 1)]) (rest := []) (lenOf own_pd2 rfl) rfl (by show 2 * 0 + _ ≤ _; exact Nat.le_of_eq rfl) (hb hby at_115) (fun _ _ => ⟨rfl, e5, (by decide : 0 + 0 ≤ _), (by decide : 0 + 0 ≤ _)⟩)
  dsimp only [Pt.U, Pt.locs, Pt.cells, Pt.slots] at X6 l6 y6 z6 st6 hQ6
  subst l6 y6 z6
  obtain ⟨rfl, N6q, e6⟩ := hQ6
  have N6 := Fr.app N5 N6q
  obtain ⟨_, _, ⟨T7, L7, k7, n7⟩, -, X7, ⟨Lc7, hQ7, l7, y7, z7⟩, st7⟩ := Jvm.LawKit.callS X6 hx (y := (⟨"com/example/bindweave/bindweave/expression/OrderReversedPinLaw", "sign", "(II)I"⟩ : MethodName)) hown (mvT hZ (hw _ (own_m 12 rfl))) (mvT hZ (hw _ (own_m 13 rfl))) (mvT hZ (hw _ (own_m 14 rfl))) (mvT hZ (hw _ (own_m 15 rfl))) (by decide) (backOf (W := 0) (own_sg_L l Z a0 hw [] w_LESS w_EQUAL w_GREATER w_UNORDERED p2 p1 h0 n0 O0 U_LESS U_EQUAL U_GREATER U_UNORDERED hk.2.2) hZ (hw _ (own_m 15 rfl)) (hw _ (own_m 14 rfl)) (by decide) (by decide)) (g := (mkF m 122 #[iv p0, iv p1, iv p2, iv 1, rv w_EQUAL, rv w_EQUAL, rv w_EQUAL, iv 1, iv 1, rv w_GREATER, .unset, .unset, .unset] [(.int p1), (.int p2)])) rfl (by rw [hml]; rfl) (argsL := [(.int p2), (.int p1)]) (rest := []) (lenOf own_pd1 rfl) rfl (by show 2 * 0 + _ ≤ _; exact Nat.le_of_eq rfl) (hb hby at_122) (fun _ _ => ⟨rfl, e6, (by decide : 0 + 0 ≤ _), (by decide : 0 + 0 ≤ _)⟩)
  dsimp only [Pt.U, Pt.locs, Pt.cells, Pt.slots] at X7 l7 y7 z7 st7 hQ7
  subst l7 y7 z7
  obtain ⟨rfl, N7q, e7⟩ := hQ7
  have N7 := Fr.app N6 N7q
  obtain ⟨_, _, ⟨T8, L8, k8, n8⟩, -, X8, ⟨Lc8, hQ8, l8, y8, z8⟩, st8⟩ := Jvm.LawKit.callS X7 hx (y := (⟨"com/example/bindweave/bindweave/expression/Order", "of", "(I)Lcom/example/bindweave/bindweave/expression/Order;"⟩ : MethodName)) hown (mvT hZ (hw _ (own_m 16 rfl))) (mvT hZ (hw _ (own_m 17 rfl))) (mvT hZ (hw _ (own_m 1 rfl))) (mvT hZ (hw _ (own_m 18 rfl))) (by decide) (backOf (W := 0) (own_of_L l Z a0 hw [] w_LESS w_EQUAL w_GREATER w_UNORDERED (-1 : Int32) h0 n0 O0 U_LESS U_EQUAL U_GREATER U_UNORDERED (by decide)) hZ (hw _ (own_m 18 rfl)) (hw _ (own_m 1 rfl)) (by decide) (by decide)) (g := (mkF m 125 #[iv p0, iv p1, iv p2, iv 1, rv w_EQUAL, rv w_EQUAL, rv w_EQUAL, iv 1, iv 1, rv w_GREATER, .unset, .unset, .unset] [(.int (-1))])) rfl (by rw [hml]; rfl) (argsL := [(.int (-1))]) (rest := []) (lenOf own_pd2 rfl) rfl (by show 2 * 0 + _ ≤ _; exact Nat.le_of_eq rfl) (hb hby at_125) (fun _ _ => ⟨rfl, e7, (by decide : 0 + 0 ≤ _), (by decide : 0 + 0 ≤ _)⟩)
  dsimp only [Pt.U, Pt.locs, Pt.cells, Pt.slots] at X8 l8 y8 z8 st8 hQ8
  subst l8 y8 z8
  obtain ⟨rfl, N8q, e8⟩ := hQ8
  have N8 := Fr.app N7 N8q
  obtain ⟨cq9, kq9, q9a, q9b, q9c⟩ := isOf hZ e8 (U_GREATER.2.1.ext O0.2)
  obtain ⟨_, _, ⟨T9, L9, k9, n9⟩, -, X9, ⟨Lc9, hQ9, l9, y9, z9⟩, st9⟩ := X8.virtualBack hx (y := (⟨"com/example/bindweave/bindweave/expression/Order", "reversed", "()Lcom/example/bindweave/bindweave/expression/Order;"⟩ : MethodName)) (z := (⟨"com/example/bindweave/bindweave/expression/Order", "reversed", "()Lcom/example/bindweave/bindweave/expression/Order;"⟩ : MethodName)) hown (mvT hZ (hw _ (own_m 5 rfl))) (mvT hZ (hw _ (own_m 6 rfl))) (notFace_of_selects (args := #[]) (mvT hZ (hw _ (own_m 8 rfl)))) (mvT hZ (hw _ (own_m 8 rfl))) (mvT hZ (hw _ (own_m 7 rfl))) (by decide) (backOf (W := 0) (own_rev_GREATER l Z a0 hw [] w_LESS w_EQUAL w_GREATER w_UNORDERED  h0 n0 O0 U_LESS U_EQUAL U_GREATER U_UNORDERED ) hZ (hw _ (own_m 9 rfl)) (hw _ (own_m 1 rfl)) (by decide) (by decide)) q9a q9c (g := (mkF m 132 #[iv p0, iv p1, iv p2, iv 1, rv w_EQUAL, rv w_EQUAL, rv w_EQUAL, iv 1, iv 1, rv w_GREATER, rv w_LESS, .unset, .unset] [(.ref w_GREATER)])) rfl (by rw [hml]; rfl) (Steps.refl _) (argsL := []) (rest := []) (lenOf own_pd0 rfl) rfl (by show 2 * 0 + _ ≤ _; exact Nat.le_of_eq rfl) (hb hby at_132) (fun _ _ => ⟨rfl, e8, (by decide : 0 + 0 ≤ _), (by decide : 0 + 0 ≤ _)⟩)
  dsimp only [Pt.U, Pt.locs, Pt.cells, Pt.slots] at X9 l9 y9 z9 st9 hQ9
  subst l9 y9 z9
  obtain ⟨rfl, N9q, e9⟩ := hQ9
  have N9 := Fr.app N8 N9q
  obtain ⟨fs, hr, hrun, hended, hW, hsame⟩ := X9.leave (v := some (.int 1)) (fun h => by rw [Bd.returns] at h; cases h)
  refine ⟨_, _, pre0 _ ?_, hrun, hended, _, _, rfl, ?_, ⟨_, rfl⟩, hW, hsame.mono (by decide) (by decide)⟩
  · show Steps p.tables e below (s₁.setTop (mkF m 0 #[iv p0, iv p1, iv p2, .unset, .unset, .unset, .unset, .unset, .unset, .unset, .unset, .unset, .unset] [])) _
    refine XS.iloadN X0.here hx rfl (hb hby at_0) rfl ?_
    show Steps p.tables e below (s₁.setTop (mkF m 1 #[iv p0, iv p1, iv p2, .unset, .unset, .unset, .unset, .unset, .unset, .unset, .unset, .unset, .unset] [(.int p0)])) _
    refine XS.iconst X0.here hx rfl (hb hby at_1) ?_
    show Steps p.tables e below (s₁.setTop (mkF m 2 #[iv p0, iv p1, iv p2, .unset, .unset, .unset, .unset, .unset, .unset, .unset, .unset, .unset, .unset] [(.int 3), (.int p0)])) _
    refine XS.iand X0.here hx rfl (hb hby at_2) rfl ?_
    show Steps p.tables e below (s₁.setTop (mkF m 3 #[iv p0, iv p1, iv p2, .unset, .unset, .unset, .unset, .unset, .unset, .unset, .unset, .unset, .unset] [(.int (p0 &&& (3 : Int32)))])) _
    refine own_top (v' := (.int 1)) (congrArg Value.int hk.1) ?_
    show Steps p.tables e below (s₁.setTop (mkF m 3 #[iv p0, iv p1, iv p2, .unset, .unset, .unset, .unset, .unset, .unset, .unset, .unset, .unset, .unset] [(.int 1)])) _
    refine XS.istoreN X0.here hx rfl (hb hby at_3) rfl (l' := #[iv p0, iv p1, iv p2, iv 1, .unset, .unset, .unset, .unset, .unset, .unset, .unset, .unset, .unset]) rfl ?_
    show Steps p.tables e below (s₁.setTop (mkF m 4 #[iv p0, iv p1, iv p2, iv 1, .unset, .unset, .unset, .unset, .unset, .unset, .unset, .unset, .unset] [])) _
    refine XS.iloadN X0.here hx rfl (hb hby at_4) rfl ?_
    show Steps p.tables e below (s₁.setTop (mkF m 5 #[iv p0, iv p1, iv p2, iv 1, .unset, .unset, .unset, .unset, .unset, .unset, .unset, .unset, .unset] [(.int 1)])) _
    refine XS.ifYes X0.here hx rfl (pc0 := 5) (pc' := 21) rfl (hb hby at_5) rfl ((if0 _ _).trans (feq (by decide)).2) (by decide) (by decide) ?_
    show Steps p.tables e below (s₁.setTop (mkF m 21 #[iv p0, iv p1, iv p2, iv 1, .unset, .unset, .unset, .unset, .unset, .unset, .unset, .unset, .unset] [])) _
    refine XS.iloadN X0.here hx rfl (hb hby at_21) rfl ?_
    show Steps p.tables e below (s₁.setTop (mkF m 22 #[iv p0, iv p1, iv p2, iv 1, .unset, .unset, .unset, .unset, .unset, .unset, .unset, .unset, .unset] [(.int 1)])) _
    refine XS.iconst X0.here hx rfl (hb hby at_22) ?_
    show Steps p.tables e below (s₁.setTop (mkF m 23 #[iv p0, iv p1, iv p2, iv 1, .unset, .unset, .unset, .unset, .unset, .unset, .unset, .unset, .unset] [(.int 1), (.int 1)])) _
    refine XS.icmpNo X0.here hx rfl (hb hby at_23) rfl (teq (by decide)).2 ?_
    show Steps p.tables e below (s₁.setTop (mkF m 26 #[iv p0, iv p1, iv p2, iv 1, .unset, .unset, .unset, .unset, .unset, .unset, .unset, .unset, .unset] [])) _
    refine st1 _ ?_
    show Steps p.tables e below (T1.setTop (mkF m 29 #[iv p0, iv p1, iv p2, iv 1, .unset, .unset, .unset, .unset, .unset, .unset, .unset, .unset, .unset] [(.ref w_EQUAL)])) _
    refine XS.astore X1.here hx rfl (hb hby at_29) rfl rfl (l' := #[iv p0, iv p1, iv p2, iv 1, rv w_EQUAL, .unset, .unset, .unset, .unset, .unset, .unset, .unset, .unset]) rfl ?_
    show Steps p.tables e below (T1.setTop (mkF m 31 #[iv p0, iv p1, iv p2, iv 1, rv w_EQUAL, .unset, .unset, .unset, .unset, .unset, .unset, .unset, .unset] [])) _
    refine st2 _ ?_
    show Steps p.tables e below (T2.setTop (mkF m 34 #[iv p0, iv p1, iv p2, iv 1, rv w_EQUAL, .unset, .unset, .unset, .unset, .unset, .unset, .unset, .unset] [(.ref w_EQUAL)])) _
    refine XS.astore X2.here hx rfl (hb hby at_34) rfl rfl (l' := #[iv p0, iv p1, iv p2, iv 1, rv w_EQUAL, rv w_EQUAL, .unset, .unset, .unset, .unset, .unset, .unset, .unset]) rfl ?_
    show Steps p.tables e below (T2.setTop (mkF m 36 #[iv p0, iv p1, iv p2, iv 1, rv w_EQUAL, rv w_EQUAL, .unset, .unset, .unset, .unset, .unset, .unset, .unset] [])) _
    refine XS.goto X2.here hx rfl (pc0 := 36) (pc' := 67) rfl (hb hby at_36) (by decide) (by decide) ?_
    show Steps p.tables e below (T2.setTop (mkF m 67 #[iv p0, iv p1, iv p2, iv 1, rv w_EQUAL, rv w_EQUAL, .unset, .unset, .unset, .unset, .unset, .unset, .unset] [])) _
    refine XS.aload X2.here hx rfl (hb hby at_67) rfl rfl ?_
    show Steps p.tables e below (T2.setTop (mkF m 69 #[iv p0, iv p1, iv p2, iv 1, rv w_EQUAL, rv w_EQUAL, .unset, .unset, .unset, .unset, .unset, .unset, .unset] [(.ref w_EQUAL)])) _
    refine st3.trans ?_
    show Steps p.tables e below (T3.setTop (mkF m 72 #[iv p0, iv p1, iv p2, iv 1, rv w_EQUAL, rv w_EQUAL, .unset, .unset, .unset, .unset, .unset, .unset, .unset] [(.ref w_EQUAL)])) _
    refine XS.astore X3.here hx rfl (hb hby at_72) rfl rfl (l' := #[iv p0, iv p1, iv p2, iv 1, rv w_EQUAL, rv w_EQUAL, rv w_EQUAL, .unset, .unset, .unset, .unset, .unset, .unset]) rfl ?_
    show Steps p.tables e below (T3.setTop (mkF m 74 #[iv p0, iv p1, iv p2, iv 1, rv w_EQUAL, rv w_EQUAL, rv w_EQUAL, .unset, .unset, .unset, .unset, .unset, .unset] [])) _
    refine XS.aload X3.here hx rfl (hb hby at_74) rfl rfl ?_
    show Steps p.tables e below (T3.setTop (mkF m 76 #[iv p0, iv p1, iv p2, iv 1, rv w_EQUAL, rv w_EQUAL, rv w_EQUAL, .unset, .unset, .unset, .unset, .unset, .unset] [(.ref w_EQUAL)])) _
    refine XS.aload X3.here hx rfl (hb hby at_76) rfl rfl ?_
    show Steps p.tables e below (T3.setTop (mkF m 78 #[iv p0, iv p1, iv p2, iv 1, rv w_EQUAL, rv w_EQUAL, rv w_EQUAL, .unset, .unset, .unset, .unset, .unset, .unset] [(.ref w_EQUAL), (.ref w_EQUAL)])) _
    refine Jvm.RoadKit.acmp (g := (mkF m 78 #[iv p0, iv p1, iv p2, iv 1, rv w_EQUAL, rv w_EQUAL, rv w_EQUAL, .unset, .unset, .unset, .unset, .unset, .unset] [(.ref w_EQUAL), (.ref w_EQUAL)])) X3 hx rfl rfl rfl (pc0 := 78) (pc' := 81) (same := true) rfl (hb hby at_78) rfl (decide_eq_true rfl) (by decide) (by decide) ?_
    show Steps p.tables e below (T3.setTop (mkF m 81 #[iv p0, iv p1, iv p2, iv 1, rv w_EQUAL, rv w_EQUAL, rv w_EQUAL, .unset, .unset, .unset, .unset, .unset, .unset] [])) _
    refine XS.iconst X3.here hx rfl (hb hby at_81) ?_
    show Steps p.tables e below (T3.setTop (mkF m 82 #[iv p0, iv p1, iv p2, iv 1, rv w_EQUAL, rv w_EQUAL, rv w_EQUAL, .unset, .unset, .unset, .unset, .unset, .unset] [(.int 1)])) _
    refine XS.goto X3.here hx rfl (pc0 := 82) (pc' := 86) rfl (hb hby at_82) (by decide) (by decide) ?_
    show Steps p.tables e below (T3.setTop (mkF m 86 #[iv p0, iv p1, iv p2, iv 1, rv w_EQUAL, rv w_EQUAL, rv w_EQUAL, .unset, .unset, .unset, .unset, .unset, .unset] [(.int 1)])) _
    refine XS.istore X3.here hx rfl (hb hby at_86) rfl (l' := #[iv p0, iv p1, iv p2, iv 1, rv w_EQUAL, rv w_EQUAL, rv w_EQUAL, iv 1, .unset, .unset, .unset, .unset, .unset]) rfl ?_
    show Steps p.tables e below (T3.setTop (mkF m 88 #[iv p0, iv p1, iv p2, iv 1, rv w_EQUAL, rv w_EQUAL, rv w_EQUAL, iv 1, .unset, .unset, .unset, .unset, .unset] [])) _
    refine XS.aload X3.here hx rfl (hb hby at_88) rfl rfl ?_
    show Steps p.tables e below (T3.setTop (mkF m 90 #[iv p0, iv p1, iv p2, iv 1, rv w_EQUAL, rv w_EQUAL, rv w_EQUAL, iv 1, .unset, .unset, .unset, .unset, .unset] [(.ref w_EQUAL)])) _
    refine XS.ifnullNo X3.here hx rfl (hb hby at_90) rfl ?_
    show Steps p.tables e below (T3.setTop (mkF m 93 #[iv p0, iv p1, iv p2, iv 1, rv w_EQUAL, rv w_EQUAL, rv w_EQUAL, iv 1, .unset, .unset, .unset, .unset, .unset] [])) _
    refine XS.aload X3.here hx rfl (hb hby at_93) rfl rfl ?_
    show Steps p.tables e below (T3.setTop (mkF m 95 #[iv p0, iv p1, iv p2, iv 1, rv w_EQUAL, rv w_EQUAL, rv w_EQUAL, iv 1, .unset, .unset, .unset, .unset, .unset] [(.ref w_EQUAL)])) _
    refine st4.trans ?_
    show Steps p.tables e below (T4.setTop (mkF m 98 #[iv p0, iv p1, iv p2, iv 1, rv w_EQUAL, rv w_EQUAL, rv w_EQUAL, iv 1, .unset, .unset, .unset, .unset, .unset] [(.ref w_EQUAL)])) _
    refine XS.aload X4.here hx rfl (hb hby at_98) rfl rfl ?_
    show Steps p.tables e below (T4.setTop (mkF m 100 #[iv p0, iv p1, iv p2, iv 1, rv w_EQUAL, rv w_EQUAL, rv w_EQUAL, iv 1, .unset, .unset, .unset, .unset, .unset] [(.ref w_EQUAL), (.ref w_EQUAL)])) _
    refine Jvm.RoadKit.acmp (g := (mkF m 100 #[iv p0, iv p1, iv p2, iv 1, rv w_EQUAL, rv w_EQUAL, rv w_EQUAL, iv 1, .unset, .unset, .unset, .unset, .unset] [(.ref w_EQUAL), (.ref w_EQUAL)])) X4 hx rfl rfl rfl (pc0 := 100) (pc' := 103) (same := true) rfl (hb hby at_100) rfl (decide_eq_true rfl) (by decide) (by decide) ?_
    show Steps p.tables e below (T4.setTop (mkF m 103 #[iv p0, iv p1, iv p2, iv 1, rv w_EQUAL, rv w_EQUAL, rv w_EQUAL, iv 1, .unset, .unset, .unset, .unset, .unset] [])) _
    refine XS.iconst X4.here hx rfl (hb hby at_103) ?_
    show Steps p.tables e below (T4.setTop (mkF m 104 #[iv p0, iv p1, iv p2, iv 1, rv w_EQUAL, rv w_EQUAL, rv w_EQUAL, iv 1, .unset, .unset, .unset, .unset, .unset] [(.int 1)])) _
    refine XS.goto X4.here hx rfl (pc0 := 104) (pc' := 108) rfl (hb hby at_104) (by decide) (by decide) ?_
    show Steps p.tables e below (T4.setTop (mkF m 108 #[iv p0, iv p1, iv p2, iv 1, rv w_EQUAL, rv w_EQUAL, rv w_EQUAL, iv 1, .unset, .unset, .unset, .unset, .unset] [(.int 1)])) _
    refine XS.istore X4.here hx rfl (hb hby at_108) rfl (l' := #[iv p0, iv p1, iv p2, iv 1, rv w_EQUAL, rv w_EQUAL, rv w_EQUAL, iv 1, iv 1, .unset, .unset, .unset, .unset]) rfl ?_
    show Steps p.tables e below (T4.setTop (mkF m 110 #[iv p0, iv p1, iv p2, iv 1, rv w_EQUAL, rv w_EQUAL, rv w_EQUAL, iv 1, iv 1, .unset, .unset, .unset, .unset] [])) _
    refine XS.iloadN X4.here hx rfl (hb hby at_110) rfl ?_
    show Steps p.tables e below (T4.setTop (mkF m 111 #[iv p0, iv p1, iv p2, iv 1, rv w_EQUAL, rv w_EQUAL, rv w_EQUAL, iv 1, iv 1, .unset, .unset, .unset, .unset] [(.int p1)])) _
    refine XS.iloadN X4.here hx rfl (hb hby at_111) rfl ?_
    show Steps p.tables e below (T4.setTop (mkF m 112 #[iv p0, iv p1, iv p2, iv 1, rv w_EQUAL, rv w_EQUAL, rv w_EQUAL, iv 1, iv 1, .unset, .unset, .unset, .unset] [(.int p2), (.int p1)])) _
    refine st5 _ ?_
    show Steps p.tables e below (T5.setTop (mkF m 115 #[iv p0, iv p1, iv p2, iv 1, rv w_EQUAL, rv w_EQUAL, rv w_EQUAL, iv 1, iv 1, .unset, .unset, .unset, .unset] [(.int 1)])) _
    refine st6 _ ?_
    show Steps p.tables e below (T6.setTop (mkF m 118 #[iv p0, iv p1, iv p2, iv 1, rv w_EQUAL, rv w_EQUAL, rv w_EQUAL, iv 1, iv 1, .unset, .unset, .unset, .unset] [(.ref w_GREATER)])) _
    refine XS.astore X6.here hx rfl (hb hby at_118) rfl rfl (l' := #[iv p0, iv p1, iv p2, iv 1, rv w_EQUAL, rv w_EQUAL, rv w_EQUAL, iv 1, iv 1, rv w_GREATER, .unset, .unset, .unset]) rfl ?_
    show Steps p.tables e below (T6.setTop (mkF m 120 #[iv p0, iv p1, iv p2, iv 1, rv w_EQUAL, rv w_EQUAL, rv w_EQUAL, iv 1, iv 1, rv w_GREATER, .unset, .unset, .unset] [])) _
    refine XS.iloadN X6.here hx rfl (hb hby at_120) rfl ?_
    show Steps p.tables e below (T6.setTop (mkF m 121 #[iv p0, iv p1, iv p2, iv 1, rv w_EQUAL, rv w_EQUAL, rv w_EQUAL, iv 1, iv 1, rv w_GREATER, .unset, .unset, .unset] [(.int p2)])) _
    refine XS.iloadN X6.here hx rfl (hb hby at_121) rfl ?_
    show Steps p.tables e below (T6.setTop (mkF m 122 #[iv p0, iv p1, iv p2, iv 1, rv w_EQUAL, rv w_EQUAL, rv w_EQUAL, iv 1, iv 1, rv w_GREATER, .unset, .unset, .unset] [(.int p1), (.int p2)])) _
    refine st7 _ ?_
    show Steps p.tables e below (T7.setTop (mkF m 125 #[iv p0, iv p1, iv p2, iv 1, rv w_EQUAL, rv w_EQUAL, rv w_EQUAL, iv 1, iv 1, rv w_GREATER, .unset, .unset, .unset] [(.int (-1))])) _
    refine st8 _ ?_
    show Steps p.tables e below (T8.setTop (mkF m 128 #[iv p0, iv p1, iv p2, iv 1, rv w_EQUAL, rv w_EQUAL, rv w_EQUAL, iv 1, iv 1, rv w_GREATER, .unset, .unset, .unset] [(.ref w_LESS)])) _
    refine XS.astore X8.here hx rfl (hb hby at_128) rfl rfl (l' := #[iv p0, iv p1, iv p2, iv 1, rv w_EQUAL, rv w_EQUAL, rv w_EQUAL, iv 1, iv 1, rv w_GREATER, rv w_LESS, .unset, .unset]) rfl ?_
    show Steps p.tables e below (T8.setTop (mkF m 130 #[iv p0, iv p1, iv p2, iv 1, rv w_EQUAL, rv w_EQUAL, rv w_EQUAL, iv 1, iv 1, rv w_GREATER, rv w_LESS, .unset, .unset] [])) _
    refine XS.aload X8.here hx rfl (hb hby at_130) rfl rfl ?_
    show Steps p.tables e below (T8.setTop (mkF m 132 #[iv p0, iv p1, iv p2, iv 1, rv w_EQUAL, rv w_EQUAL, rv w_EQUAL, iv 1, iv 1, rv w_GREATER, rv w_LESS, .unset, .unset] [(.ref w_GREATER)])) _
    refine st9.trans ?_
    show Steps p.tables e below (T9.setTop (mkF m 135 #[iv p0, iv p1, iv p2, iv 1, rv w_EQUAL, rv w_EQUAL, rv w_EQUAL, iv 1, iv 1, rv w_GREATER, rv w_LESS, .unset, .unset] [(.ref w_LESS)])) _
    refine XS.astore X9.here hx rfl (hb hby at_135) rfl rfl (l' := #[iv p0, iv p1, iv p2, iv 1, rv w_EQUAL, rv w_EQUAL, rv w_EQUAL, iv 1, iv 1, rv w_GREATER, rv w_LESS, rv w_LESS, .unset]) rfl ?_
    show Steps p.tables e below (T9.setTop (mkF m 137 #[iv p0, iv p1, iv p2, iv 1, rv w_EQUAL, rv w_EQUAL, rv w_EQUAL, iv 1, iv 1, rv w_GREATER, rv w_LESS, rv w_LESS, .unset] [])) _
    refine XS.aload X9.here hx rfl (hb hby at_137) rfl rfl ?_
    show Steps p.tables e below (T9.setTop (mkF m 139 #[iv p0, iv p1, iv p2, iv 1, rv w_EQUAL, rv w_EQUAL, rv w_EQUAL, iv 1, iv 1, rv w_GREATER, rv w_LESS, rv w_LESS, .unset] [(.ref w_LESS)])) _
    refine XS.aload X9.here hx rfl (hb hby at_139) rfl rfl ?_
    show Steps p.tables e below (T9.setTop (mkF m 141 #[iv p0, iv p1, iv p2, iv 1, rv w_EQUAL, rv w_EQUAL, rv w_EQUAL, iv 1, iv 1, rv w_GREATER, rv w_LESS, rv w_LESS, .unset] [(.ref w_LESS), (.ref w_LESS)])) _
    refine Jvm.RoadKit.acmp (g := (mkF m 141 #[iv p0, iv p1, iv p2, iv 1, rv w_EQUAL, rv w_EQUAL, rv w_EQUAL, iv 1, iv 1, rv w_GREATER, rv w_LESS, rv w_LESS, .unset] [(.ref w_LESS), (.ref w_LESS)])) X9 hx rfl rfl rfl (pc0 := 141) (pc' := 144) (same := true) rfl (hb hby at_141) rfl (decide_eq_true rfl) (by decide) (by decide) ?_
    show Steps p.tables e below (T9.setTop (mkF m 144 #[iv p0, iv p1, iv p2, iv 1, rv w_EQUAL, rv w_EQUAL, rv w_EQUAL, iv 1, iv 1, rv w_GREATER, rv w_LESS, rv w_LESS, .unset] [])) _
    refine XS.iconst X9.here hx rfl (hb hby at_144) ?_
    show Steps p.tables e below (T9.setTop (mkF m 145 #[iv p0, iv p1, iv p2, iv 1, rv w_EQUAL, rv w_EQUAL, rv w_EQUAL, iv 1, iv 1, rv w_GREATER, rv w_LESS, rv w_LESS, .unset] [(.int 1)])) _
    refine XS.goto X9.here hx rfl (pc0 := 145) (pc' := 149) rfl (hb hby at_145) (by decide) (by decide) ?_
    show Steps p.tables e below (T9.setTop (mkF m 149 #[iv p0, iv p1, iv p2, iv 1, rv w_EQUAL, rv w_EQUAL, rv w_EQUAL, iv 1, iv 1, rv w_GREATER, rv w_LESS, rv w_LESS, .unset] [(.int 1)])) _
    refine XS.istore X9.here hx rfl (hb hby at_149) rfl (l' := #[iv p0, iv p1, iv p2, iv 1, rv w_EQUAL, rv w_EQUAL, rv w_EQUAL, iv 1, iv 1, rv w_GREATER, rv w_LESS, rv w_LESS, iv 1]) rfl ?_
    show Steps p.tables e below (T9.setTop (mkF m 151 #[iv p0, iv p1, iv p2, iv 1, rv w_EQUAL, rv w_EQUAL, rv w_EQUAL, iv 1, iv 1, rv w_GREATER, rv w_LESS, rv w_LESS, iv 1] [])) _
    refine XS.iload X9.here hx rfl (hb hby at_151) rfl ?_
    show Steps p.tables e below (T9.setTop (mkF m 153 #[iv p0, iv p1, iv p2, iv 1, rv w_EQUAL, rv w_EQUAL, rv w_EQUAL, iv 1, iv 1, rv w_GREATER, rv w_LESS, rv w_LESS, iv 1] [(.int 1)])) _
    refine XS.ifNo X9.here hx rfl (hb hby at_153) rfl ((if0 _ _).trans (feq (by decide)).1) ?_
    show Steps p.tables e below (T9.setTop (mkF m 156 #[iv p0, iv p1, iv p2, iv 1, rv w_EQUAL, rv w_EQUAL, rv w_EQUAL, iv 1, iv 1, rv w_GREATER, rv w_LESS, rv w_LESS, iv 1] [])) _
    refine XS.iload X9.here hx rfl (hb hby at_156) rfl ?_
    show Steps p.tables e below (T9.setTop (mkF m 158 #[iv p0, iv p1, iv p2, iv 1, rv w_EQUAL, rv w_EQUAL, rv w_EQUAL, iv 1, iv 1, rv w_GREATER, rv w_LESS, rv w_LESS, iv 1] [(.int 1)])) _
    refine XS.ifNo X9.here hx rfl (hb hby at_158) rfl ((if0 _ _).trans (feq (by decide)).1) ?_
    show Steps p.tables e below (T9.setTop (mkF m 161 #[iv p0, iv p1, iv p2, iv 1, rv w_EQUAL, rv w_EQUAL, rv w_EQUAL, iv 1, iv 1, rv w_GREATER, rv w_LESS, rv w_LESS, iv 1] [])) _
    refine XS.iload X9.here hx rfl (hb hby at_161) rfl ?_
    show Steps p.tables e below (T9.setTop (mkF m 163 #[iv p0, iv p1, iv p2, iv 1, rv w_EQUAL, rv w_EQUAL, rv w_EQUAL, iv 1, iv 1, rv w_GREATER, rv w_LESS, rv w_LESS, iv 1] [(.int 1)])) _
    refine XS.ifNo X9.here hx rfl (hb hby at_163) rfl ((if0 _ _).trans (feq (by decide)).1) ?_
    show Steps p.tables e below (T9.setTop (mkF m 166 #[iv p0, iv p1, iv p2, iv 1, rv w_EQUAL, rv w_EQUAL, rv w_EQUAL, iv 1, iv 1, rv w_GREATER, rv w_LESS, rv w_LESS, iv 1] [])) _
    refine XS.iconst X9.here hx rfl (hb hby at_166) ?_
    show Steps p.tables e below (T9.setTop (mkF m 167 #[iv p0, iv p1, iv p2, iv 1, rv w_EQUAL, rv w_EQUAL, rv w_EQUAL, iv 1, iv 1, rv w_GREATER, rv w_LESS, rv w_LESS, iv 1] [(.int 1)])) _
    refine XS.goto X9.here hx rfl (pc0 := 167) (pc' := 171) rfl (hb hby at_167) (by decide) (by decide) ?_
    show Steps p.tables e below (T9.setTop (mkF m 171 #[iv p0, iv p1, iv p2, iv 1, rv w_EQUAL, rv w_EQUAL, rv w_EQUAL, iv 1, iv 1, rv w_GREATER, rv w_LESS, rv w_LESS, iv 1] [(.int 1)])) _
    exact retN X9 hx (t := .boolean) Bd.returns (by simp) (hb hby at_171) hr
  · show own_law5_Q Z w_LESS w_EQUAL w_GREATER w_UNORDERED p0 p1 p2 h0 n0 _ T9.heap _
    rw [e9]
    exact ⟨rfl, N9, trivial⟩
theorem own_law6_ef (m : MethodId) (p0 : Int32) (p1 : Int32) (p2 : Int32) : entryFrame m #[(.int p0), (.int p1), (.int p2)] maxLocals = mkF m 0 #[iv p0, iv p1, iv p2, .unset, .unset, .unset, .unset, .unset, .unset, .unset, .unset, .unset, .unset] [] := by first | (simp [entryFrame, mkF, argsToLocals, Value.category, maxLocals]; done) | rfl
def own_law6_Q (Z : State) (w_LESS : Addr) (w_EQUAL : Addr) (w_GREATER : Addr) (w_UNORDERED : Addr) (p0 : Int32) (p1 : Int32) (p2 : Int32) (h0 : Heap) (n0 : Nat) (v : Option Value) (h : Heap) (L : List Loc) : Prop := v = some (.int 1) ∧ Fr n0 L ∧ True
set_option maxRecDepth 65536 in
set_option maxHeartbeats 40000000 in
theorem own_law6 (l : Launch) (Z : State) (a0 : Array Value) (hw : ∀ d ∈ tables_1, d.before a0 Z = true) (ws : List Jvm.Cond) (w_LESS : Addr) (w_EQUAL : Addr) (w_GREATER : Addr) (w_UNORDERED : Addr) (p0 : Int32) (p1 : Int32) (p2 : Int32) (h0 : Heap) (n0 : Nat) (O0 : Old Z n0 h0) (U_LESS : own_En Z Z.heap "com/example/bindweave/bindweave/expression/Order" "LESS" "Lcom/example/bindweave/bindweave/expression/Order;" w_LESS (0 : Int32)) (U_EQUAL : own_En Z Z.heap "com/example/bindweave/bindweave/expression/Order" "EQUAL" "Lcom/example/bindweave/bindweave/expression/Order;" w_EQUAL (1 : Int32)) (U_GREATER : own_En Z Z.heap "com/example/bindweave/bindweave/expression/Order" "GREATER" "Lcom/example/bindweave/bindweave/expression/Order;" w_GREATER (2 : Int32)) (U_UNORDERED : own_En Z Z.heap "com/example/bindweave/bindweave/expression/Order" "UNORDERED" "Lcom/example/bindweave/bindweave/expression/Order;" w_UNORDERED (3 : Int32)) (hk : (p0 &&& (3 : Int32)) = (2 : Int32) ∧ p1 < p2) :
    MetFree l x (head1 (Jvm.Cond.code x code maxLocals ret :: ws) room_1) (fun ar U => ar = #[(.int p0), (.int p1), (.int p2)] ∧ Z.Warmed39 U.vm ∧ U.heap = h0) (fun _ _ _ _ _ => True) (fun _ U oc U' => ∃ v L, oc = .returned v ∧ own_law6_Q Z w_LESS w_EQUAL w_GREATER w_UNORDERED p0 p1 p2 h0 n0 v U'.heap L ∧ FrameEnd U oc U' L 0 0) := by
  refine MetFree.of_bodySF (plainFor_of_name own_pn1) hisR ?_
  intro p e s m args below meth c s₁ Bd hml0 hP hK
  obtain ⟨rfl, hZ, hh⟩ := hP
  have hx := Bd.exec
  have hby := Bd.bytes
  have hml : c.maxLocals = 13 := hml0
  have hown : s.vm.findClass "com/example/bindweave/bindweave/expression/OrderReversedPinLaw" = some m.cls := findClass_of_methodNamed Bd.named
  have hnm := (name_of_methodNamed Bd.named Bd.method).1
  have X0 : Stand p l e room_1 s m #[(.int p0), (.int p1), (.int p2)] below meth c s₁ [] 0 0 := Stand.of_body Bd
  have e0 : s₁.heap = h0 := by rw [← hh, Bd.state]; rfl
  have N0 := Fr.nil n0
  have pre0 : ∀ t, Steps p.tables e below (s₁.setTop (mkF m 0 #[iv p0, iv p1, iv p2, .unset, .unset, .unset, .unset, .unset, .unset, .unset, .unset, .unset, .unset] [])) t → Steps p.tables e below (s₁.setTop (entryFrame m #[(.int p0), (.int p1), (.int p2)] maxLocals)) t := fun t k => castTop (own_law6_ef m p0 p1 p2) k
  obtain ⟨T1, X1, e1, st1⟩ := getS2 X0 hx hZ hown (host := "") (Or.inl (hw _ (own_m 3 rfl))) Via.refl e0 (U_GREATER.1.ext O0.2) (g := (mkF m 44 #[iv p0, iv p1, iv p2, iv 2, .unset, .unset, .unset, .unset, .unset, .unset, .unset, .unset, .unset] [])) rfl (hb hby at_44)
  obtain ⟨T2, X2, e2, st2⟩ := getS2 X1 hx hZ hown (host := "") (Or.inl (hw _ (own_m 0 rfl))) Via.refl e1 (U_LESS.1.ext O0.2) (g := (mkF m 49 #[iv p0, iv p1, iv p2, iv 2, rv w_GREATER, .unset, .unset, .unset, .unset, .unset, .unset, .unset, .unset] [])) rfl (hb hby at_49)
  obtain ⟨cq3, kq3, q3a, q3b, q3c⟩ := isOf hZ e2 (U_GREATER.2.1.ext O0.2)
  obtain ⟨_, _, ⟨T3, L3, k3, n3⟩, -, X3, ⟨Lc3, hQ3, l3, y3, z3⟩, st3⟩ := X2.virtualBack hx (y := (⟨"com/example/bindweave/bindweave/expression/Order", "reversed", "()Lcom/example/bindweave/bindweave/expression/Order;"⟩ : MethodName)) (z := (⟨"com/example/bindweave/bindweave/expression/Order", "reversed", "()Lcom/example/bindweave/bindweave/expression/Order;"⟩ : MethodName)) hown (mvT hZ (hw _ (own_m 5 rfl))) (mvT hZ (hw _ (own_m 6 rfl))) (notFace_of_selects (args := #[]) (mvT hZ (hw _ (own_m 8 rfl)))) (mvT hZ (hw _ (own_m 8 rfl))) (mvT hZ (hw _ (own_m 7 rfl))) (by decide) (backOf (W := 0) (own_rev_GREATER l Z a0 hw [] w_LESS w_EQUAL w_GREATER w_UNORDERED  h0 n0 O0 U_LESS U_EQUAL U_GREATER U_UNORDERED ) hZ (hw _ (own_m 9 rfl)) (hw _ (own_m 1 rfl)) (by decide) (by decide)) q3a q3c (g := (mkF m 69 #[iv p0, iv p1, iv p2, iv 2, rv w_GREATER, rv w_LESS, .unset, .unset, .unset, .unset, .unset, .unset, .unset] [(.ref w_GREATER)])) rfl (by rw [hml]; rfl) (Steps.refl _) (argsL := []) (rest := []) (lenOf own_pd0 rfl) rfl (by show 2 * 0 + _ ≤ _; exact Nat.le_of_eq rfl) (hb hby at_69) (fun _ _ => ⟨rfl, e2, (by decide : 0 + 0 ≤ _), (by decide : 0 + 0 ≤ _)⟩)
  dsimp only [Pt.U, Pt.locs, Pt.cells, Pt.slots] at X3 l3 y3 z3 st3 hQ3
  subst l3 y3 z3
  obtain ⟨rfl, N3q, e3⟩ := hQ3
  have N3 := Fr.app N0 N3q
  obtain ⟨cq4, kq4, q4a, q4b, q4c⟩ := isOf hZ e3 (U_LESS.2.1.ext O0.2)
  obtain ⟨_, _, ⟨T4, L4, k4, n4⟩, -, X4, ⟨Lc4, hQ4, l4, y4, z4⟩, st4⟩ := X3.virtualBack hx (y := (⟨"com/example/bindweave/bindweave/expression/Order", "reversed", "()Lcom/example/bindweave/bindweave/expression/Order;"⟩ : MethodName)) (z := (⟨"com/example/bindweave/bindweave/expression/Order", "reversed", "()Lcom/example/bindweave/bindweave/expression/Order;"⟩ : MethodName)) hown (mvT hZ (hw _ (own_m 5 rfl))) (mvT hZ (hw _ (own_m 6 rfl))) (notFace_of_selects (args := #[]) (mvT hZ (hw _ (own_m 8 rfl)))) (mvT hZ (hw _ (own_m 8 rfl))) (mvT hZ (hw _ (own_m 7 rfl))) (by decide) (backOf (W := 0) (own_rev_LESS l Z a0 hw [] w_LESS w_EQUAL w_GREATER w_UNORDERED  h0 n0 O0 U_LESS U_EQUAL U_GREATER U_UNORDERED ) hZ (hw _ (own_m 9 rfl)) (hw _ (own_m 1 rfl)) (by decide) (by decide)) q4a q4c (g := (mkF m 95 #[iv p0, iv p1, iv p2, iv 2, rv w_GREATER, rv w_LESS, rv w_LESS, iv 1, .unset, .unset, .unset, .unset, .unset] [(.ref w_LESS)])) rfl (by rw [hml]; rfl) (Steps.refl _) (argsL := []) (rest := []) (lenOf own_pd0 rfl) rfl (by show 2 * 0 + _ ≤ _; exact Nat.le_of_eq rfl) (hb hby at_95) (fun _ _ => ⟨rfl, e3, (by decide : 0 + 0 ≤ _), (by decide : 0 + 0 ≤ _)⟩)
  dsimp only [Pt.U, Pt.locs, Pt.cells, Pt.slots] at X4 l4 y4 z4 st4 hQ4
  subst l4 y4 z4
  obtain ⟨rfl, N4q, e4⟩ := hQ4
  have N4 := Fr.app N3 N4q
  obtain ⟨_, _, ⟨T5, L5, k5, n5⟩, -, X5, ⟨Lc5, hQ5, l5, y5, z5⟩, st5⟩ := Jvm.LawKit.callS X4 hx (y := (⟨"com/example/bindweave/bindweave/expression/OrderReversedPinLaw", "sign", "(II)I"⟩ : MethodName)) hown (mvT hZ (hw _ (own_m 12 rfl))) (mvT hZ (hw _ (own_m 13 rfl))) (mvT hZ (hw _ (own_m 14 rfl))) (mvT hZ (hw _ (own_m 15 rfl))) (by decide) (backOf (W := 0) (own_sg_L l Z a0 hw [] w_LESS w_EQUAL w_GREATER w_UNORDERED p1 p2 h0 n0 O0 U_LESS U_EQUAL U_GREATER U_UNORDERED hk.2) hZ (hw _ (own_m 15 rfl)) (hw _ (own_m 14 rfl)) (by decide) (by decide)) (g := (mkF m 112 #[iv p0, iv p1, iv p2, iv 2, rv w_GREATER, rv w_LESS, rv w_LESS, iv 1, iv 1, .unset, .unset, .unset, .unset] [(.int p2), (.int p1)])) rfl (by rw [hml]; rfl) (argsL := [(.int p1), (.int p2)]) (rest := []) (lenOf own_pd1 rfl) rfl (by show 2 * 0 + _ ≤ _; exact Nat.le_of_eq rfl) (hb hby at_112) (fun _ _ => ⟨rfl, e4, (by decide : 0 + 0 ≤ _), (by decide : 0 + 0 ≤ _)⟩)
  dsimp only [Pt.U, Pt.locs, Pt.cells, Pt.slots] at X5 l5 y5 z5 st5 hQ5
  subst l5 y5 z5
  obtain ⟨rfl, N5q, e5⟩ := hQ5
  have N5 := Fr.app N4 N5q
  obtain ⟨_, _, ⟨T6, L6, k6, n6⟩, -, X6, ⟨Lc6, hQ6, l6, y6, z6⟩, st6⟩ := Jvm.LawKit.callS X5 hx (y := (⟨"com/example/bindweave/bindweave/expression/Order", "of", "(I)Lcom/example/bindweave/bindweave/expression/Order;"⟩ : MethodName)) hown (mvT hZ (hw _ (own_m 16 rfl))) (mvT hZ (hw _ (own_m 17 rfl))) (mvT hZ (hw _ (own_m 1 rfl))) (mvT hZ (hw _ (own_m 18 rfl))) (by decide) (backOf (W := 0) (own_of_L l Z a0 hw [] w_LESS w_EQUAL w_GREATER w_UNORDERED (-1 : Int32) h0 n0 O0 U_LESS U_EQUAL U_GREATER U_UNORDERED (by decide)) hZ (hw _ (own_m 18 rfl)) (hw _ (own_m 1 rfl)) (by decide) (by decide)) (g := (mkF m 115 #[iv p0, iv p1, iv p2, iv 2, rv w_GREATER, rv w_LESS, rv w_LESS, iv 1, iv 1, .unset, .unset, .unset, .unset] [(.int (-1))])) rfl (by rw [hml]; rfl) (argsL := [(.int (-1))]) (rest := []) (lenOf own_pd2 rfl) rfl (by show 2 * 0 + _ ≤ _; exact Nat.le_of_eq rfl) (hb hby at_115) (fun _ _ => ⟨rfl, e5, (by decide : 0 + 0 ≤ _), (by decide : 0 + 0 ≤ _)⟩)
  dsimp only [Pt.U, Pt.locs, Pt.cells, Pt.slots] at X6 l6 y6 z6 st6 hQ6
  subst l6 y6 z6
  obtain ⟨rfl, N6q, e6⟩ := hQ6
  have N6 := Fr.app N5 N6q
  obtain ⟨_, _, ⟨T7, L7, k7, n7⟩, -, X7, ⟨Lc7, hQ7, l7, y7, z7⟩, st7⟩ := Jvm.LawKit.callS X6 hx (y := (⟨"com/example/bindweave/bindweave/expression/OrderReversedPinLaw", "sign", "(II)I"⟩ : MethodName)) hown (mvT hZ (hw _ (own_m 12 rfl))) (mvT hZ (hw _ (own_m 13 rfl))) (mvT hZ (hw _ (own_m 14 rfl))) (mvT hZ (hw _ (own_m 15 rfl))) (by decide) (backOf (W := 0) (own_sg_G l Z a0 hw [] w_LESS w_EQUAL w_GREATER w_UNORDERED p2 p1 h0 n0 O0 U_LESS U_EQUAL U_GREATER U_UNORDERED (own_asym hk.2) hk.2) hZ (hw _ (own_m 15 rfl)) (hw _ (own_m 14 rfl)) (by decide) (by decide)) (g := (mkF m 122 #[iv p0, iv p1, iv p2, iv 2, rv w_GREATER, rv w_LESS, rv w_LESS, iv 1, iv 1, rv w_LESS, .unset, .unset, .unset] [(.int p1), (.int p2)])) rfl (by rw [hml]; rfl) (argsL := [(.int p2), (.int p1)]) (rest := []) (lenOf own_pd1 rfl) rfl (by show 2 * 0 + _ ≤ _; exact Nat.le_of_eq rfl) (hb hby at_122) (fun _ _ => ⟨rfl, e6, (by decide : 0 + 0 ≤ _), (by decide : 0 + 0 ≤ _)⟩)
  dsimp only [Pt.U, Pt.locs, Pt.cells, Pt.slots] at X7 l7 y7 z7 st7 hQ7
  subst l7 y7 z7
  obtain ⟨rfl, N7q, e7⟩ := hQ7
  have N7 := Fr.app N6 N7q
  obtain ⟨_, _, ⟨T8, L8, k8, n8⟩, -, X8, ⟨Lc8, hQ8, l8, y8, z8⟩, st8⟩ := Jvm.LawKit.callS X7 hx (y := (⟨"com/example/bindweave/bindweave/expression/Order", "of", "(I)Lcom/example/bindweave/bindweave/expression/Order;"⟩ : MethodName)) hown (mvT hZ (hw _ (own_m 16 rfl))) (mvT hZ (hw _ (own_m 17 rfl))) (mvT hZ (hw _ (own_m 1 rfl))) (mvT hZ (hw _ (own_m 18 rfl))) (by decide) (backOf (W := 0) (own_of_G l Z a0 hw [] w_LESS w_EQUAL w_GREATER w_UNORDERED (1 : Int32) h0 n0 O0 U_LESS U_EQUAL U_GREATER U_UNORDERED (by decide) (by decide)) hZ (hw _ (own_m 18 rfl)) (hw _ (own_m 1 rfl)) (by decide) (by decide)) (g := (mkF m 125 #[iv p0, iv p1, iv p2, iv 2, rv w_GREATER, rv w_LESS, rv w_LESS, iv 1, iv 1, rv w_LESS, .unset, .unset, .unset] [(.int 1)])) rfl (by rw [hml]; rfl) (argsL := [(.int 1)]) (rest := []) (lenOf own_pd2 rfl) rfl (by show 2 * 0 + _ ≤ _; exact Nat.le_of_eq rfl) (hb hby at_125) (fun _ _ => ⟨rfl, e7, (by decide : 0 + 0 ≤ _), (by decide : 0 + 0 ≤ _)⟩)
  dsimp only [Pt.U, Pt.locs, Pt.cells, Pt.slots] at X8 l8 y8 z8 st8 hQ8
  subst l8 y8 z8
  obtain ⟨rfl, N8q, e8⟩ := hQ8
  have N8 := Fr.app N7 N8q
  obtain ⟨cq9, kq9, q9a, q9b, q9c⟩ := isOf hZ e8 (U_LESS.2.1.ext O0.2)
  obtain ⟨_, _, ⟨T9, L9, k9, n9⟩, -, X9, ⟨Lc9, hQ9, l9, y9, z9⟩, st9⟩ := X8.virtualBack hx (y := (⟨"com/example/bindweave/bindweave/expression/Order", "reversed", "()Lcom/example/bindweave/bindweave/expression/Order;"⟩ : MethodName)) (z := (⟨"com/example/bindweave/bindweave/expression/Order", "reversed", "()Lcom/example/bindweave/bindweave/expression/Order;"⟩ : MethodName)) hown (mvT hZ (hw _ (own_m 5 rfl))) (mvT hZ (hw _ (own_m 6 rfl))) (notFace_of_selects (args := #[]) (mvT hZ (hw _ (own_m 8 rfl)))) (mvT hZ (hw _ (own_m 8 rfl))) (mvT hZ (hw _ (own_m 7 rfl))) (by decide) (backOf (W := 0) (own_rev_LESS l Z a0 hw [] w_LESS w_EQUAL w_GREATER w_UNORDERED  h0 n0 O0 U_LESS U_EQUAL U_GREATER U_UNORDERED ) hZ (hw _ (own_m 9 rfl)) (hw _ (own_m 1 rfl)) (by decide) (by decide)) q9a q9c (g := (mkF m 132 #[iv p0, iv p1, iv p2, iv 2, rv w_GREATER, rv w_LESS, rv w_LESS, iv 1, iv 1, rv w_LESS, rv w_GREATER, .unset, .unset] [(.ref w_LESS)])) rfl (by rw [hml]; rfl) (Steps.refl _) (argsL := []) (rest := []) (lenOf own_pd0 rfl) rfl (by show 2 * 0 + _ ≤ _; exact Nat.le_of_eq rfl) (hb hby at_132) (fun _ _ => ⟨rfl, e8, (by decide : 0 + 0 ≤ _), (by decide : 0 + 0 ≤ _)⟩)
  dsimp only [Pt.U, Pt.locs, Pt.cells, Pt.slots] at X9 l9 y9 z9 st9 hQ9
  subst l9 y9 z9
  obtain ⟨rfl, N9q, e9⟩ := hQ9
  have N9 := Fr.app N8 N9q
  obtain ⟨fs, hr, hrun, hended, hW, hsame⟩ := X9.leave (v := some (.int 1)) (fun h => by rw [Bd.returns] at h; cases h)
  refine ⟨_, _, pre0 _ ?_, hrun, hended, _, _, rfl, ?_, ⟨_, rfl⟩, hW, hsame.mono (by decide) (by decide)⟩
  · show Steps p.tables e below (s₁.setTop (mkF m 0 #[iv p0, iv p1, iv p2, .unset, .unset, .unset, .unset, .unset, .unset, .unset, .unset, .unset, .unset] [])) _
    refine XS.iloadN X0.here hx rfl (hb hby at_0) rfl ?_
    show Steps p.tables e below (s₁.setTop (mkF m 1 #[iv p0, iv p1, iv p2, .unset, .unset, .unset, .unset, .unset, .unset, .unset, .unset, .unset, .unset] [(.int p0)])) _
    refine XS.iconst X0.here hx rfl (hb hby at_1) ?_
    show Steps p.tables e below (s₁.setTop (mkF m 2 #[iv p0, iv p1, iv p2, .unset, .unset, .unset, .unset, .unset, .unset, .unset, .unset, .unset, .unset] [(.int 3), (.int p0)])) _
    refine XS.iand X0.here hx rfl (hb hby at_2) rfl ?_
    show Steps p.tables e below (s₁.setTop (mkF m 3 #[iv p0, iv p1, iv p2, .unset, .unset, .unset, .unset, .unset, .unset, .unset, .unset, .unset, .unset] [(.int (p0 &&& (3 : Int32)))])) _
    refine own_top (v' := (.int 2)) (congrArg Value.int hk.1) ?_
    show Steps p.tables e below (s₁.setTop (mkF m 3 #[iv p0, iv p1, iv p2, .unset, .unset, .unset, .unset, .unset, .unset, .unset, .unset, .unset, .unset] [(.int 2)])) _
    refine XS.istoreN X0.here hx rfl (hb hby at_3) rfl (l' := #[iv p0, iv p1, iv p2, iv 2, .unset, .unset, .unset, .unset, .unset, .unset, .unset, .unset, .unset]) rfl ?_
    show Steps p.tables e below (s₁.setTop (mkF m 4 #[iv p0, iv p1, iv p2, iv 2, .unset, .unset, .unset, .unset, .unset, .unset, .unset, .unset, .unset] [])) _
    refine XS.iloadN X0.here hx rfl (hb hby at_4) rfl ?_
    show Steps p.tables e below (s₁.setTop (mkF m 5 #[iv p0, iv p1, iv p2, iv 2, .unset, .unset, .unset, .unset, .unset, .unset, .unset, .unset, .unset] [(.int 2)])) _
    refine XS.ifYes X0.here hx rfl (pc0 := 5) (pc' := 21) rfl (hb hby at_5) rfl ((if0 _ _).trans (feq (by decide)).2) (by decide) (by decide) ?_
    show Steps p.tables e below (s₁.setTop (mkF m 21 #[iv p0, iv p1, iv p2, iv 2, .unset, .unset, .unset, .unset, .unset, .unset, .unset, .unset, .unset] [])) _
    refine XS.iloadN X0.here hx rfl (hb hby at_21) rfl ?_
    show Steps p.tables e below (s₁.setTop (mkF m 22 #[iv p0, iv p1, iv p2, iv 2, .unset, .unset, .unset, .unset, .unset, .unset, .unset, .unset, .unset] [(.int 2)])) _
    refine XS.iconst X0.here hx rfl (hb hby at_22) ?_
    show Steps p.tables e below (s₁.setTop (mkF m 23 #[iv p0, iv p1, iv p2, iv 2, .unset, .unset, .unset, .unset, .unset, .unset, .unset, .unset, .unset] [(.int 1), (.int 2)])) _
    refine XS.icmpYes X0.here hx rfl (pc0 := 23) (pc' := 39) rfl (hb hby at_23) rfl (feq (by decide)).2 (by decide) (by decide) ?_
    show Steps p.tables e below (s₁.setTop (mkF m 39 #[iv p0, iv p1, iv p2, iv 2, .unset, .unset, .unset, .unset, .unset, .unset, .unset, .unset, .unset] [])) _
    refine XS.iloadN X0.here hx rfl (hb hby at_39) rfl ?_
    show Steps p.tables e below (s₁.setTop (mkF m 40 #[iv p0, iv p1, iv p2, iv 2, .unset, .unset, .unset, .unset, .unset, .unset, .unset, .unset, .unset] [(.int 2)])) _
    refine XS.iconst X0.here hx rfl (hb hby at_40) ?_
    show Steps p.tables e below (s₁.setTop (mkF m 41 #[iv p0, iv p1, iv p2, iv 2, .unset, .unset, .unset, .unset, .unset, .unset, .unset, .unset, .unset] [(.int 2), (.int 2)])) _
    refine XS.icmpNo X0.here hx rfl (hb hby at_41) rfl (teq (by decide)).2 ?_
    show Steps p.tables e below (s₁.setTop (mkF m 44 #[iv p0, iv p1, iv p2, iv 2, .unset, .unset, .unset, .unset, .unset, .unset, .unset, .unset, .unset] [])) _
    refine st1 _ ?_
    show Steps p.tables e below (T1.setTop (mkF m 47 #[iv p0, iv p1, iv p2, iv 2, .unset, .unset, .unset, .unset, .unset, .unset, .unset, .unset, .unset] [(.ref w_GREATER)])) _
    refine XS.astore X1.here hx rfl (hb hby at_47) rfl rfl (l' := #[iv p0, iv p1, iv p2, iv 2, rv w_GREATER, .unset, .unset, .unset, .unset, .unset, .unset, .unset, .unset]) rfl ?_
    show Steps p.tables e below (T1.setTop (mkF m 49 #[iv p0, iv p1, iv p2, iv 2, rv w_GREATER, .unset, .unset, .unset, .unset, .unset, .unset, .unset, .unset] [])) _
    refine st2 _ ?_
    show Steps p.tables e below (T2.setTop (mkF m 52 #[iv p0, iv p1, iv p2, iv 2, rv w_GREATER, .unset, .unset, .unset, .unset, .unset, .unset, .unset, .unset] [(.ref w_LESS)])) _
    refine XS.astore X2.here hx rfl (hb hby at_52) rfl rfl (l' := #[iv p0, iv p1, iv p2, iv 2, rv w_GREATER, rv w_LESS, .unset, .unset, .unset, .unset, .unset, .unset, .unset]) rfl ?_
    show Steps p.tables e below (T2.setTop (mkF m 54 #[iv p0, iv p1, iv p2, iv 2, rv w_GREATER, rv w_LESS, .unset, .unset, .unset, .unset, .unset, .unset, .unset] [])) _
    refine XS.goto X2.here hx rfl (pc0 := 54) (pc' := 67) rfl (hb hby at_54) (by decide) (by decide) ?_
    show Steps p.tables e below (T2.setTop (mkF m 67 #[iv p0, iv p1, iv p2, iv 2, rv w_GREATER, rv w_LESS, .unset, .unset, .unset, .unset, .unset, .unset, .unset] [])) _
    refine XS.aload X2.here hx rfl (hb hby at_67) rfl rfl ?_
    show Steps p.tables e below (T2.setTop (mkF m 69 #[iv p0, iv p1, iv p2, iv 2, rv w_GREATER, rv w_LESS, .unset, .unset, .unset, .unset, .unset, .unset, .unset] [(.ref w_GREATER)])) _
    refine st3.trans ?_
    show Steps p.tables e below (T3.setTop (mkF m 72 #[iv p0, iv p1, iv p2, iv 2, rv w_GREATER, rv w_LESS, .unset, .unset, .unset, .unset, .unset, .unset, .unset] [(.ref w_LESS)])) _
    refine XS.astore X3.here hx rfl (hb hby at_72) rfl rfl (l' := #[iv p0, iv p1, iv p2, iv 2, rv w_GREATER, rv w_LESS, rv w_LESS, .unset, .unset, .unset, .unset, .unset, .unset]) rfl ?_
    show Steps p.tables e below (T3.setTop (mkF m 74 #[iv p0, iv p1, iv p2, iv 2, rv w_GREATER, rv w_LESS, rv w_LESS, .unset, .unset, .unset, .unset, .unset, .unset] [])) _
    refine XS.aload X3.here hx rfl (hb hby at_74) rfl rfl ?_
    show Steps p.tables e below (T3.setTop (mkF m 76 #[iv p0, iv p1, iv p2, iv 2, rv w_GREATER, rv w_LESS, rv w_LESS, .unset, .unset, .unset, .unset, .unset, .unset] [(.ref w_LESS)])) _
    refine XS.aload X3.here hx rfl (hb hby at_76) rfl rfl ?_
    show Steps p.tables e below (T3.setTop (mkF m 78 #[iv p0, iv p1, iv p2, iv 2, rv w_GREATER, rv w_LESS, rv w_LESS, .unset, .unset, .unset, .unset, .unset, .unset] [(.ref w_LESS), (.ref w_LESS)])) _
    refine Jvm.RoadKit.acmp (g := (mkF m 78 #[iv p0, iv p1, iv p2, iv 2, rv w_GREATER, rv w_LESS, rv w_LESS, .unset, .unset, .unset, .unset, .unset, .unset] [(.ref w_LESS), (.ref w_LESS)])) X3 hx rfl rfl rfl (pc0 := 78) (pc' := 81) (same := true) rfl (hb hby at_78) rfl (decide_eq_true rfl) (by decide) (by decide) ?_
    show Steps p.tables e below (T3.setTop (mkF m 81 #[iv p0, iv p1, iv p2, iv 2, rv w_GREATER, rv w_LESS, rv w_LESS, .unset, .unset, .unset, .unset, .unset, .unset] [])) _
    refine XS.iconst X3.here hx rfl (hb hby at_81) ?_
    show Steps p.tables e below (T3.setTop (mkF m 82 #[iv p0, iv p1, iv p2, iv 2, rv w_GREATER, rv w_LESS, rv w_LESS, .unset, .unset, .unset, .unset, .unset, .unset] [(.int 1)])) _
    refine XS.goto X3.here hx rfl (pc0 := 82) (pc' := 86) rfl (hb hby at_82) (by decide) (by decide) ?_
    show Steps p.tables e below (T3.setTop (mkF m 86 #[iv p0, iv p1, iv p2, iv 2, rv w_GREATER, rv w_LESS, rv w_LESS, .unset, .unset, .unset, .unset, .unset, .unset] [(.int 1)])) _
    refine XS.istore X3.here hx rfl (hb hby at_86) rfl (l' := #[iv p0, iv p1, iv p2, iv 2, rv w_GREATER, rv w_LESS, rv w_LESS, iv 1, .unset, .unset, .unset, .unset, .unset]) rfl ?_
    show Steps p.tables e below (T3.setTop (mkF m 88 #[iv p0, iv p1, iv p2, iv 2, rv w_GREATER, rv w_LESS, rv w_LESS, iv 1, .unset, .unset, .unset, .unset, .unset] [])) _
    refine XS.aload X3.here hx rfl (hb hby at_88) rfl rfl ?_
    show Steps p.tables e below (T3.setTop (mkF m 90 #[iv p0, iv p1, iv p2, iv 2, rv w_GREATER, rv w_LESS, rv w_LESS, iv 1, .unset, .unset, .unset, .unset, .unset] [(.ref w_LESS)])) _
    refine XS.ifnullNo X3.here hx rfl (hb hby at_90) rfl ?_
    show Steps p.tables e below (T3.setTop (mkF m 93 #[iv p0, iv p1, iv p2, iv 2, rv w_GREATER, rv w_LESS, rv w_LESS, iv 1, .unset, .unset, .unset, .unset, .unset] [])) _
    refine XS.aload X3.here hx rfl (hb hby at_93) rfl rfl ?_
    show Steps p.tables e below (T3.setTop (mkF m 95 #[iv p0, iv p1, iv p2, iv 2, rv w_GREATER, rv w_LESS, rv w_LESS, iv 1, .unset, .unset, .unset, .unset, .unset] [(.ref w_LESS)])) _
    refine st4.trans ?_
    show Steps p.tables e below (T4.setTop (mkF m 98 #[iv p0, iv p1, iv p2, iv 2, rv w_GREATER, rv w_LESS, rv w_LESS, iv 1, .unset, .unset, .unset, .unset, .unset] [(.ref w_GREATER)])) _
    refine XS.aload X4.here hx rfl (hb hby at_98) rfl rfl ?_
    show Steps p.tables e below (T4.setTop (mkF m 100 #[iv p0, iv p1, iv p2, iv 2, rv w_GREATER, rv w_LESS, rv w_LESS, iv 1, .unset, .unset, .unset, .unset, .unset] [(.ref w_GREATER), (.ref w_GREATER)])) _
    refine Jvm.RoadKit.acmp (g := (mkF m 100 #[iv p0, iv p1, iv p2, iv 2, rv w_GREATER, rv w_LESS, rv w_LESS, iv 1, .unset, .unset, .unset, .unset, .unset] [(.ref w_GREATER), (.ref w_GREATER)])) X4 hx rfl rfl rfl (pc0 := 100) (pc' := 103) (same := true) rfl (hb hby at_100) rfl (decide_eq_true rfl) (by decide) (by decide) ?_
    show Steps p.tables e below (T4.setTop (mkF m 103 #[iv p0, iv p1, iv p2, iv 2, rv w_GREATER, rv w_LESS, rv w_LESS, iv 1, .unset, .unset, .unset, .unset, .unset] [])) _
    refine XS.iconst X4.here hx rfl (hb hby at_103) ?_
    show Steps p.tables e below (T4.setTop (mkF m 104 #[iv p0, iv p1, iv p2, iv 2, rv w_GREATER, rv w_LESS, rv w_LESS, iv 1, .unset, .unset, .unset, .unset, .unset] [(.int 1)])) _
    refine XS.goto X4.here hx rfl (pc0 := 104) (pc' := 108) rfl (hb hby at_104) (by decide) (by decide) ?_
    show Steps p.tables e below (T4.setTop (mkF m 108 #[iv p0, iv p1, iv p2, iv 2, rv w_GREATER, rv w_LESS, rv w_LESS, iv 1, .unset, .unset, .unset, .unset, .unset] [(.int 1)])) _
    refine XS.istore X4.here hx rfl (hb hby at_108) rfl (l' := #[iv p0, iv p1, iv p2, iv 2, rv w_GREATER, rv w_LESS, rv w_LESS, iv 1, iv 1, .unset, .unset, .unset, .unset]) rfl ?_
    show Steps p.tables e below (T4.setTop (mkF m 110 #[iv p0, iv p1, iv p2, iv 2, rv w_GREATER, rv w_LESS, rv w_LESS, iv 1, iv 1, .unset, .unset, .unset, .unset] [])) _
    refine XS.iloadN X4.here hx rfl (hb hby at_110) rfl ?_
    show Steps p.tables e below (T4.setTop (mkF m 111 #[iv p0, iv p1, iv p2, iv 2, rv w_GREATER, rv w_LESS, rv w_LESS, iv 1, iv 1, .unset, .unset, .unset, .unset] [(.int p1)])) _
    refine XS.iloadN X4.here hx rfl (hb hby at_111) rfl ?_
    show Steps p.tables e below (T4.setTop (mkF m 112 #[iv p0, iv p1, iv p2, iv 2, rv w_GREATER, rv w_LESS, rv w_LESS, iv 1, iv 1, .unset, .unset, .unset, .unset] [(.int p2), (.int p1)])) _
    refine st5 _ ?_
    show Steps p.tables e below (T5.setTop (mkF m 115 #[iv p0, iv p1, iv p2, iv 2, rv w_GREATER, rv w_LESS, rv w_LESS, iv 1, iv 1, .unset, .unset, .unset, .unset] [(.int (-1))])) _
    refine st6 _ ?_
    show Steps p.tables e below (T6.setTop (mkF m 118 #[iv p0, iv p1, iv p2, iv 2, rv w_GREATER, rv w_LESS, rv w_LESS, iv 1, iv 1, .unset, .unset, .unset, .unset] [(.ref w_LESS)])) _
    refine XS.astore X6.here hx rfl (hb hby at_118) rfl rfl (l' := #[iv p0, iv p1, iv p2, iv 2, rv w_GREATER, rv w_LESS, rv w_LESS, iv 1, iv 1, rv w_LESS, .unset, .unset, .unset]) rfl ?_
    show Steps p.tables e below (T6.setTop (mkF m 120 #[iv p0, iv p1, iv p2, iv 2, rv w_GREATER, rv w_LESS, rv w_LESS, iv 1, iv 1, rv w_LESS, .unset, .unset, .unset] [])) _
    refine XS.iloadN X6.here hx rfl (hb hby at_120) rfl ?_
    show Steps p.tables e below (T6.setTop (mkF m 121 #[iv p0, iv p1, iv p2, iv 2, rv w_GREATER, rv w_LESS, rv w_LESS, iv 1, iv 1, rv w_LESS, .unset, .unset, .unset] [(.int p2)])) _
    refine XS.iloadN X6.here hx rfl (hb hby at_121) rfl ?_
    show Steps p.tables e below (T6.setTop (mkF m 122 #[iv p0, iv p1, iv p2, iv 2, rv w_GREATER, rv w_LESS, rv w_LESS, iv 1, iv 1, rv w_LESS, .unset, .unset, .unset] [(.int p1), (.int p2)])) _
    refine st7 _ ?_
    show Steps p.tables e below (T7.setTop (mkF m 125 #[iv p0, iv p1, iv p2, iv 2, rv w_GREATER, rv w_LESS, rv w_LESS, iv 1, iv 1, rv w_LESS, .unset, .unset, .unset] [(.int 1)])) _
    refine st8 _ ?_
    show Steps p.tables e below (T8.setTop (mkF m 128 #[iv p0, iv p1, iv p2, iv 2, rv w_GREATER, rv w_LESS, rv w_LESS, iv 1, iv 1, rv w_LESS, .unset, .unset, .unset] [(.ref w_GREATER)])) _
    refine XS.astore X8.here hx rfl (hb hby at_128) rfl rfl (l' := #[iv p0, iv p1, iv p2, iv 2, rv w_GREATER, rv w_LESS, rv w_LESS, iv 1, iv 1, rv w_LESS, rv w_GREATER, .unset, .unset]) rfl ?_
    show Steps p.tables e below (T8.setTop (mkF m 130 #[iv p0, iv p1, iv p2, iv 2, rv w_GREATER, rv w_LESS, rv w_LESS, iv 1, iv 1, rv w_LESS, rv w_GREATER, .unset, .unset] [])) _
    refine XS.aload X8.here hx rfl (hb hby at_130) rfl rfl ?_
    show Steps p.tables e below (T8.setTop (mkF m 132 #[iv p0, iv p1, iv p2, iv 2, rv w_GREATER, rv w_LESS, rv w_LESS, iv 1, iv 1, rv w_LESS, rv w_GREATER, .unset, .unset] [(.ref w_LESS)])) _
    refine st9.trans ?_
    show Steps p.tables e below (T9.setTop (mkF m 135 #[iv p0, iv p1, iv p2, iv 2, rv w_GREATER, rv w_LESS, rv w_LESS, iv 1, iv 1, rv w_LESS, rv w_GREATER, .unset, .unset] [(.ref w_GREATER)])) _
    refine XS.astore X9.here hx rfl (hb hby at_135) rfl rfl (l' := #[iv p0, iv p1, iv p2, iv 2, rv w_GREATER, rv w_LESS, rv w_LESS, iv 1, iv 1, rv w_LESS, rv w_GREATER, rv w_GREATER, .unset]) rfl ?_
    show Steps p.tables e below (T9.setTop (mkF m 137 #[iv p0, iv p1, iv p2, iv 2, rv w_GREATER, rv w_LESS, rv w_LESS, iv 1, iv 1, rv w_LESS, rv w_GREATER, rv w_GREATER, .unset] [])) _
    refine XS.aload X9.here hx rfl (hb hby at_137) rfl rfl ?_
    show Steps p.tables e below (T9.setTop (mkF m 139 #[iv p0, iv p1, iv p2, iv 2, rv w_GREATER, rv w_LESS, rv w_LESS, iv 1, iv 1, rv w_LESS, rv w_GREATER, rv w_GREATER, .unset] [(.ref w_GREATER)])) _
    refine XS.aload X9.here hx rfl (hb hby at_139) rfl rfl ?_
    show Steps p.tables e below (T9.setTop (mkF m 141 #[iv p0, iv p1, iv p2, iv 2, rv w_GREATER, rv w_LESS, rv w_LESS, iv 1, iv 1, rv w_LESS, rv w_GREATER, rv w_GREATER, .unset] [(.ref w_GREATER), (.ref w_GREATER)])) _
    refine Jvm.RoadKit.acmp (g := (mkF m 141 #[iv p0, iv p1, iv p2, iv 2, rv w_GREATER, rv w_LESS, rv w_LESS, iv 1, iv 1, rv w_LESS, rv w_GREATER, rv w_GREATER, .unset] [(.ref w_GREATER), (.ref w_GREATER)])) X9 hx rfl rfl rfl (pc0 := 141) (pc' := 144) (same := true) rfl (hb hby at_141) rfl (decide_eq_true rfl) (by decide) (by decide) ?_
    show Steps p.tables e below (T9.setTop (mkF m 144 #[iv p0, iv p1, iv p2, iv 2, rv w_GREATER, rv w_LESS, rv w_LESS, iv 1, iv 1, rv w_LESS, rv w_GREATER, rv w_GREATER, .unset] [])) _
    refine XS.iconst X9.here hx rfl (hb hby at_144) ?_
    show Steps p.tables e below (T9.setTop (mkF m 145 #[iv p0, iv p1, iv p2, iv 2, rv w_GREATER, rv w_LESS, rv w_LESS, iv 1, iv 1, rv w_LESS, rv w_GREATER, rv w_GREATER, .unset] [(.int 1)])) _
    refine XS.goto X9.here hx rfl (pc0 := 145) (pc' := 149) rfl (hb hby at_145) (by decide) (by decide) ?_
    show Steps p.tables e below (T9.setTop (mkF m 149 #[iv p0, iv p1, iv p2, iv 2, rv w_GREATER, rv w_LESS, rv w_LESS, iv 1, iv 1, rv w_LESS, rv w_GREATER, rv w_GREATER, .unset] [(.int 1)])) _
    refine XS.istore X9.here hx rfl (hb hby at_149) rfl (l' := #[iv p0, iv p1, iv p2, iv 2, rv w_GREATER, rv w_LESS, rv w_LESS, iv 1, iv 1, rv w_LESS, rv w_GREATER, rv w_GREATER, iv 1]) rfl ?_
    show Steps p.tables e below (T9.setTop (mkF m 151 #[iv p0, iv p1, iv p2, iv 2, rv w_GREATER, rv w_LESS, rv w_LESS, iv 1, iv 1, rv w_LESS, rv w_GREATER, rv w_GREATER, iv 1] [])) _
    refine XS.iload X9.here hx rfl (hb hby at_151) rfl ?_
    show Steps p.tables e below (T9.setTop (mkF m 153 #[iv p0, iv p1, iv p2, iv 2, rv w_GREATER, rv w_LESS, rv w_LESS, iv 1, iv 1, rv w_LESS, rv w_GREATER, rv w_GREATER, iv 1] [(.int 1)])) _
    refine XS.ifNo X9.here hx rfl (hb hby at_153) rfl ((if0 _ _).trans (feq (by decide)).1) ?_
    show Steps p.tables e below (T9.setTop (mkF m 156 #[iv p0, iv p1, iv p2, iv 2, rv w_GREATER, rv w_LESS, rv w_LESS, iv 1, iv 1, rv w_LESS, rv w_GREATER, rv w_GREATER, iv 1] [])) _
    refine XS.iload X9.here hx rfl (hb hby at_156) rfl ?_
    show Steps p.tables e below (T9.setTop (mkF m 158 #[iv p0, iv p1, iv p2, iv 2, rv w_GREATER, rv w_LESS, rv w_LESS, iv 1, iv 1, rv w_LESS, rv w_GREATER, rv w_GREATER, iv 1] [(.int 1)])) _
    refine XS.ifNo X9.here hx rfl (hb hby at_158) rfl ((if0 _ _).trans (feq (by decide)).1) ?_
    show Steps p.tables e below (T9.setTop (mkF m 161 #[iv p0, iv p1, iv p2, iv 2, rv w_GREATER, rv w_LESS, rv w_LESS, iv 1, iv 1, rv w_LESS, rv w_GREATER, rv w_GREATER, iv 1] [])) _
    refine XS.iload X9.here hx rfl (hb hby at_161) rfl ?_
    show Steps p.tables e below (T9.setTop (mkF m 163 #[iv p0, iv p1, iv p2, iv 2, rv w_GREATER, rv w_LESS, rv w_LESS, iv 1, iv 1, rv w_LESS, rv w_GREATER, rv w_GREATER, iv 1] [(.int 1)])) _
    refine XS.ifNo X9.here hx rfl (hb hby at_163) rfl ((if0 _ _).trans (feq (by decide)).1) ?_
    show Steps p.tables e below (T9.setTop (mkF m 166 #[iv p0, iv p1, iv p2, iv 2, rv w_GREATER, rv w_LESS, rv w_LESS, iv 1, iv 1, rv w_LESS, rv w_GREATER, rv w_GREATER, iv 1] [])) _
    refine XS.iconst X9.here hx rfl (hb hby at_166) ?_
    show Steps p.tables e below (T9.setTop (mkF m 167 #[iv p0, iv p1, iv p2, iv 2, rv w_GREATER, rv w_LESS, rv w_LESS, iv 1, iv 1, rv w_LESS, rv w_GREATER, rv w_GREATER, iv 1] [(.int 1)])) _
    refine XS.goto X9.here hx rfl (pc0 := 167) (pc' := 171) rfl (hb hby at_167) (by decide) (by decide) ?_
    show Steps p.tables e below (T9.setTop (mkF m 171 #[iv p0, iv p1, iv p2, iv 2, rv w_GREATER, rv w_LESS, rv w_LESS, iv 1, iv 1, rv w_LESS, rv w_GREATER, rv w_GREATER, iv 1] [(.int 1)])) _
    exact retN X9 hx (t := .boolean) Bd.returns (by simp) (hb hby at_171) hr
  · show own_law6_Q Z w_LESS w_EQUAL w_GREATER w_UNORDERED p0 p1 p2 h0 n0 _ T9.heap _
    rw [e9]
    exact ⟨rfl, N9, trivial⟩
theorem own_law7_ef (m : MethodId) (p0 : Int32) (p1 : Int32) (p2 : Int32) : entryFrame m #[(.int p0), (.int p1), (.int p2)] maxLocals = mkF m 0 #[iv p0, iv p1, iv p2, .unset, .unset, .unset, .unset, .unset, .unset, .unset, .unset, .unset, .unset] [] := by first | (simp [entryFrame, mkF, argsToLocals, Value.category, maxLocals]; done) | rfl
def own_law7_Q (Z : State) (w_LESS : Addr) (w_EQUAL : Addr) (w_GREATER : Addr) (w_UNORDERED : Addr) (p0 : Int32) (p1 : Int32) (p2 : Int32) (h0 : Heap) (n0 : Nat) (v : Option Value) (h : Heap) (L : List Loc) : Prop := v = some (.int 1) ∧ Fr n0 L ∧ True
set_option maxRecDepth 65536 in
set_option maxHeartbeats 40000000 in
theorem own_law7 (l : Launch) (Z : State) (a0 : Array Value) (hw : ∀ d ∈ tables_1, d.before a0 Z = true) (ws : List Jvm.Cond) (w_LESS : Addr) (w_EQUAL : Addr) (w_GREATER : Addr) (w_UNORDERED : Addr) (p0 : Int32) (p1 : Int32) (p2 : Int32) (h0 : Heap) (n0 : Nat) (O0 : Old Z n0 h0) (U_LESS : own_En Z Z.heap "com/example/bindweave/bindweave/expression/Order" "LESS" "Lcom/example/bindweave/bindweave/expression/Order;" w_LESS (0 : Int32)) (U_EQUAL : own_En Z Z.heap "com/example/bindweave/bindweave/expression/Order" "EQUAL" "Lcom/example/bindweave/bindweave/expression/Order;" w_EQUAL (1 : Int32)) (U_GREATER : own_En Z Z.heap "com/example/bindweave/bindweave/expression/Order" "GREATER" "Lcom/example/bindweave/bindweave/expression/Order;" w_GREATER (2 : Int32)) (U_UNORDERED : own_En Z Z.heap "com/example/bindweave/bindweave/expression/Order" "UNORDERED" "Lcom/example/bindweave/bindweave/expression/Order;" w_UNORDERED (3 : Int32)) (hk : (p0 &&& (3 : Int32)) = (2 : Int32) ∧ (¬ p1 < p2 ∧ ¬ p2 < p1)) :
    MetFree l x (head1 (Jvm.Cond.code x code maxLocals ret :: ws) room_1) (fun ar U => ar = #[(.int p0), (.int p1), (.int p2)] ∧ Z.Warmed39 U.vm ∧ U.heap = h0) (fun _ _ _ _ _ => True) (fun _ U oc U' => ∃ v L, oc = .returned v ∧ own_law7_Q Z w_LESS w_EQUAL w_GREATER w_UNORDERED p0 p1 p2 h0 n0 v U'.heap L ∧ FrameEnd U oc U' L 0 0) := by
  refine MetFree.of_bodySF (plainFor_of_name own_pn1) hisR ?_
  intro p e s m args below meth c s₁ Bd hml0 hP hK
  obtain ⟨rfl, hZ, hh⟩ := hP
  have hx := Bd.exec
  have hby := Bd.bytes
  have hml : c.maxLocals = 13 := hml0
  have hown : s.vm.findClass "com/example/bindweave/bindweave/expression/OrderReversedPinLaw" = some m.cls := findClass_of_methodNamed Bd.named
  have hnm := (name_of_methodNamed Bd.named Bd.method).1
  have X0 : Stand p l e room_1 s m #[(.int p0), (.int p1), (.int p2)] below meth c s₁ [] 0 0 := Stand.of_body Bd
  have e0 : s₁.heap = h0 := by rw [← hh, Bd.state]; rfl
  have N0 := Fr.nil n0
  have pre0 : ∀ t, Steps p.tables e below (s₁.setTop (mkF m 0 #[iv p0, iv p1, iv p2, .unset, .unset, .unset, .unset, .unset, .unset, .unset, .unset, .unset, .unset] [])) t → Steps p.tables e below (s₁.setTop (entryFrame m #[(.int p0), (.int p1), (.int p2)] maxLocals)) t := fun t k => castTop (own_law7_ef m p0 p1 p2) k
  obtain ⟨T1, X1, e1, st1⟩ := getS2 X0 hx hZ hown (host := "") (Or.inl (hw _ (own_m 3 rfl))) Via.refl e0 (U_GREATER.1.ext O0.2) (g := (mkF m 44 #[iv p0, iv p1, iv p2, iv 2, .unset, .unset, .unset, .unset, .unset, .unset, .unset, .unset, .unset] [])) rfl (hb hby at_44)
  obtain ⟨T2, X2, e2, st2⟩ := getS2 X1 hx hZ hown (host := "") (Or.inl (hw _ (own_m 0 rfl))) Via.refl e1 (U_LESS.1.ext O0.2) (g := (mkF m 49 #[iv p0, iv p1, iv p2, iv 2, rv w_GREATER, .unset, .unset, .unset, .unset, .unset, .unset, .unset, .unset] [])) rfl (hb hby at_49)
  obtain ⟨cq3, kq3, q3a, q3b, q3c⟩ := isOf hZ e2 (U_GREATER.2.1.ext O0.2)
  obtain ⟨_, _, ⟨T3, L3, k3, n3⟩, -, X3, ⟨Lc3, hQ3, l3, y3, z3⟩, st3⟩ := X2.virtualBack hx (y := (⟨"com/example/bindweave/bindweave/expression/Order", "reversed", "()Lcom/example/bindweave/bindweave/expression/Order;"⟩ : MethodName)) (z := (⟨"com/example/bindweave/bindweave/expression/Order", "reversed", "()Lcom/example/bindweave/bindweave/expression/Order;"⟩ : MethodName)) hown (mvT hZ (hw _ (own_m 5 rfl))) (mvT hZ (hw _ (own_m 6 rfl))) (notFace_of_selects (args := #[]) (mvT hZ (hw _ (own_m 8 rfl)))) (mvT hZ (hw _ (own_m 8 rfl))) (mvT hZ (hw _ (own_m 7 rfl))) (by decide) (backOf (W := 0) (own_rev_GREATER l Z a0 hw [] w_LESS w_EQUAL w_GREATER w_UNORDERED  h0 n0 O0 U_LESS U_EQUAL U_GREATER U_UNORDERED ) hZ (hw _ (own_m 9 rfl)) (hw _ (own_m 1 rfl)) (by decide) (by decide)) q3a q3c (g := (mkF m 69 #[iv p0, iv p1, iv p2, iv 2, rv w_GREATER, rv w_LESS, .unset, .unset, .unset, .unset, .unset, .unset, .unset] [(.ref w_GREATER)])) rfl (by rw [hml]; rfl) (Steps.refl _) (argsL := []) (rest := []) (lenOf own_pd0 rfl) rfl (by show 2 * 0 + _ ≤ _; exact Nat.le_of_eq rfl) (hb hby at_69) (fun _ _ => ⟨rfl, e2, (by decide : 0 + 0 ≤ _), (by decide : 0 + 0 ≤ _)⟩)
  dsimp only [Pt.U, Pt.locs, Pt.cells, Pt.slots] at X3 l3 y3 z3 st3 hQ3
  subst l3 y3 z3
  obtain ⟨rfl, N3q, e3⟩ := hQ3
  have N3 := Fr.app N0 N3q
  obtain ⟨cq4, kq4, q4a, q4b, q4c⟩ := isOf hZ e3 (U_LESS.2.1.ext O0.2)
  obtain ⟨_, _, ⟨T4, L4, k4, n4⟩, -, X4, ⟨Lc4, hQ4, l4, y4, z4⟩, st4⟩ := X3.virtualBack hx (y := (⟨"com/example/bindweave/bindweave/expression/Order", "reversed", "()Lcom/example/bindweave/bindweave/expression/Order;"⟩ : MethodName)) (z := (⟨"com/example/bindweave/bindweave/expression/Order", "reversed", "()Lcom/example/bindweave/bindweave/expression/Order;"⟩ : MethodName)) hown (mvT hZ (hw _ (own_m 5 rfl))) (mvT hZ (hw _ (own_m 6 rfl))) (notFace_of_selects (args := #[]) (mvT hZ (hw _ (own_m 8 rfl)))) (mvT hZ (hw _ (own_m 8 rfl))) (mvT hZ (hw _ (own_m 7 rfl))) (by decide) (backOf (W := 0) (own_rev_LESS l Z a0 hw [] w_LESS w_EQUAL w_GREATER w_UNORDERED  h0 n0 O0 U_LESS U_EQUAL U_GREATER U_UNORDERED ) hZ (hw _ (own_m 9 rfl)) (hw _ (own_m 1 rfl)) (by decide) (by decide)) q4a q4c (g := (mkF m 95 #[iv p0, iv p1, iv p2, iv 2, rv w_GREATER, rv w_LESS, rv w_LESS, iv 1, .unset, .unset, .unset, .unset, .unset] [(.ref w_LESS)])) rfl (by rw [hml]; rfl) (Steps.refl _) (argsL := []) (rest := []) (lenOf own_pd0 rfl) rfl (by show 2 * 0 + _ ≤ _; exact Nat.le_of_eq rfl) (hb hby at_95) (fun _ _ => ⟨rfl, e3, (by decide : 0 + 0 ≤ _), (by decide : 0 + 0 ≤ _)⟩)
  dsimp only [Pt.U, Pt.locs, Pt.cells, Pt.slots] at X4 l4 y4 z4 st4 hQ4
  subst l4 y4 z4
  obtain ⟨rfl, N4q, e4⟩ := hQ4
  have N4 := Fr.app N3 N4q
  obtain ⟨_, _, ⟨T5, L5, k5, n5⟩, -, X5, ⟨Lc5, hQ5, l5, y5, z5⟩, st5⟩ := Jvm.LawKit.callS X4 hx (y := (⟨"com/example/bindweave/bindweave/expression/OrderReversedPinLaw", "sign", "(II)I"⟩ : MethodName)) hown (mvT hZ (hw _ (own_m 12 rfl))) (mvT hZ (hw _ (own_m 13 rfl))) (mvT hZ (hw _ (own_m 14 rfl))) (mvT hZ (hw _ (own_m 15 rfl))) (by decide) (backOf (W := 0) (own_sg_E l Z a0 hw [] w_LESS w_EQUAL w_GREATER w_UNORDERED p1 p2 h0 n0 O0 U_LESS U_EQUAL U_GREATER U_UNORDERED hk.2.1 hk.2.2) hZ (hw _ (own_m 15 rfl)) (hw _ (own_m 14 rfl)) (by decide) (by decide)) (g := (mkF m 112 #[iv p0, iv p1, iv p2, iv 2, rv w_GREATER, rv w_LESS, rv w_LESS, iv 1, iv 1, .unset, .unset, .unset, .unset] [(.int p2), (.int p1)])) rfl (by rw [hml]; rfl) (argsL := [(.int p1), (.int p2)]) (rest := []) (lenOf own_pd1 rfl) rfl (by show 2 * 0 + _ ≤ _; exact Nat.le_of_eq rfl) (hb hby at_112) (fun _ _ => ⟨rfl, e4, (by decide : 0 + 0 ≤ _), (by decide : 0 + 0 ≤ _)⟩)
  dsimp only [Pt.U, Pt.locs, Pt.cells, Pt.slots] at X5 l5 y5 z5 st5 hQ5
  subst l5 y5 z5
  obtain ⟨rfl, N5q, e5⟩ := hQ5
  have N5 := Fr.app N4 N5q
  obtain ⟨_, _, ⟨T6, L6, k6, n6⟩, -, X6, ⟨Lc6, hQ6, l6, y6, z6⟩, st6⟩ := Jvm.LawKit.callS X5 hx (y := (⟨"com/example/bindweave/bindweave/expression/Order", "of", "(I)Lcom/example/bindweave/bindweave/expression/Order;"⟩ : MethodName)) hown (mvT hZ (hw _ (own_m 16 rfl))) (mvT hZ (hw _ (own_m 17 rfl))) (mvT hZ (hw _ (own_m 1 rfl))) (mvT hZ (hw _ (own_m 18 rfl))) (by decide) (backOf (W := 0) (own_of_E l Z a0 hw [] w_LESS w_EQUAL w_GREATER w_UNORDERED (0 : Int32) h0 n0 O0 U_LESS U_EQUAL U_GREATER U_UNORDERED (by decide) (by decide)) hZ (hw _ (own_m 18 rfl)) (hw _ (own_m 1 rfl)) (by decide) (by decide)) (g := (mkF m 115 #[iv p0, iv p1, iv p2, iv 2, rv w_GREATER, rv w_LESS, rv w_LESS, iv 1, iv 1, .unset, .unset, .unset, .unset] [(.int 0)])) rfl (by rw [hml]; rfl) (argsL := [(.int 0)]) (rest := []) (lenOf own_pd2 rfl) rfl (by show 2 * 0 + _ ≤ _; exact Nat.le_of_eq rfl) (hb hby at_115) (fun _ _ => ⟨rfl, e5, (by decide : 0 + 0 ≤ _), (by decide : 0 + 0 ≤ _)⟩)
  dsimp only [Pt.U, Pt.locs, Pt.cells, Pt.slots] at X6 l6 y6 z6 st6 hQ6
  subst l6 y6 z6
  obtain ⟨rfl, N6q, e6⟩ := hQ6
  have N6 := Fr.app N5 N6q
  obtain ⟨_, _, ⟨T7, L7, k7, n7⟩, -, X7, ⟨Lc7, hQ7, l7, y7, z7⟩, st7⟩ := Jvm.LawKit.callS X6 hx (y := (⟨"com/example/bindweave/bindweave/expression/OrderReversedPinLaw", "sign", "(II)I"⟩ : MethodName)) hown (mvT hZ (hw _ (own_m 12 rfl))) (mvT hZ (hw _ (own_m 13 rfl))) (mvT hZ (hw _ (own_m 14 rfl))) (mvT hZ (hw _ (own_m 15 rfl))) (by decide) (backOf (W := 0) (own_sg_E l Z a0 hw [] w_LESS w_EQUAL w_GREATER w_UNORDERED p2 p1 h0 n0 O0 U_LESS U_EQUAL U_GREATER U_UNORDERED hk.2.2 hk.2.1) hZ (hw _ (own_m 15 rfl)) (hw _ (own_m 14 rfl)) (by decide) (by decide)) (g := (mkF m 122 #[iv p0, iv p1, iv p2, iv 2, rv w_GREATER, rv w_LESS, rv w_LESS, iv 1, iv 1, rv w_EQUAL, .unset, .unset, .unset] [(.int p1), (.int p2)])) rfl (by rw [hml]; rfl) (argsL := [(.int p2), (.int p1)]) (rest := []) (lenOf own_pd1 rfl) rfl (by show 2 * 0 + _ ≤ _; exact Nat.le_of_eq rfl) (hb hby at_122) (fun _ _ => ⟨rfl, e6, (by decide : 0 + 0 ≤ _), (by decide : 0 + 0 ≤ _)⟩)
  dsimp only [Pt.U, Pt.locs, Pt.cells, Pt.slots] at X7 l7 y7 z7 st7 hQ7
  subst l7 y7 z7
  obtain ⟨rfl, N7q, e7⟩ := hQ7
  have N7 := Fr.app N6 N7q
  obtain ⟨_, _, ⟨T8, L8, k8, n8⟩, -, X8, ⟨Lc8, hQ8, l8, y8, z8⟩, st8⟩ := Jvm.LawKit.callS X7 hx (y := (⟨"com/example/bindweave/bindweave/expression/Order", "of", "(I)Lcom/example/bindweave/bindweave/expression/Order;"⟩ : MethodName)) hown (mvT hZ (hw _ (own_m 16 rfl))) (mvT hZ (hw _ (own_m 17 rfl))) (mvT hZ (hw _ (own_m 1 rfl))) (mvT hZ (hw _ (own_m 18 rfl))) (by decide) (backOf (W := 0) (own_of_E l Z a0 hw [] w_LESS w_EQUAL w_GREATER w_UNORDERED (0 : Int32) h0 n0 O0 U_LESS U_EQUAL U_GREATER U_UNORDERED (by decide) (by decide)) hZ (hw _ (own_m 18 rfl)) (hw _ (own_m 1 rfl)) (by decide) (by decide)) (g := (mkF m 125 #[iv p0, iv p1, iv p2, iv 2, rv w_GREATER, rv w_LESS, rv w_LESS, iv 1, iv 1, rv w_EQUAL, .unset, .unset, .unset] [(.int 0)])) rfl (by rw [hml]; rfl) (argsL := [(.int 0)]) (rest := []) (lenOf own_pd2 rfl) rfl (by show 2 * 0 + _ ≤ _; exact Nat.le_of_eq rfl) (hb hby at_125) (fun _ _ => ⟨rfl, e7, (by decide : 0 + 0 ≤ _), (by decide : 0 + 0 ≤ _)⟩)
  dsimp only [Pt.U, Pt.locs, Pt.cells, Pt.slots] at X8 l8 y8 z8 st8 hQ8
  subst l8 y8 z8
  obtain ⟨rfl, N8q, e8⟩ := hQ8
  have N8 := Fr.app N7 N8q
  obtain ⟨cq9, kq9, q9a, q9b, q9c⟩ := isOf hZ e8 (U_EQUAL.2.1.ext O0.2)
  obtain ⟨_, _, ⟨T9, L9, k9, n9⟩, -, X9, ⟨Lc9, hQ9, l9, y9, z9⟩, st9⟩ := X8.virtualBack hx (y := (⟨"com/example/bindweave/bindweave/expression/Order", "reversed", "()Lcom/example/bindweave/bindweave/expression/Order;"⟩ : MethodName)) (z := (⟨"com/example/bindweave/bindweave/expression/Order", "reversed", "()Lcom/example/bindweave/bindweave/expression/Order;"⟩ : MethodName)) hown (mvT hZ (hw _ (own_m 5 rfl))) (mvT hZ (hw _ (own_m 6 rfl))) (notFace_of_selects (args := #[]) (mvT hZ (hw _ (own_m 8 rfl)))) (mvT hZ (hw _ (own_m 8 rfl))) (mvT hZ (hw _ (own_m 7 rfl))) (by decide) (backOf (W := 0) (own_rev_EQUAL l Z a0 hw [] w_LESS w_EQUAL w_GREATER w_UNORDERED  h0 n0 O0 U_LESS U_EQUAL U_GREATER U_UNORDERED ) hZ (hw _ (own_m 9 rfl)) (hw _ (own_m 1 rfl)) (by decide) (by decide)) q9a q9c (g := (mkF m 132 #[iv p0, iv p1, iv p2, iv 2, rv w_GREATER, rv w_LESS, rv w_LESS, iv 1, iv 1, rv w_EQUAL, rv w_EQUAL, .unset, .unset] [(.ref w_EQUAL)])) rfl (by rw [hml]; rfl) (Steps.refl _) (argsL := []) (rest := []) (lenOf own_pd0 rfl) rfl (by show 2 * 0 + _ ≤ _; exact Nat.le_of_eq rfl) (hb hby at_132) (fun _ _ => ⟨rfl, e8, (by decide : 0 + 0 ≤ _), (by decide : 0 + 0 ≤ _)⟩)
  dsimp only [Pt.U, Pt.locs, Pt.cells, Pt.slots] at X9 l9 y9 z9 st9 hQ9
  subst l9 y9 z9
  obtain ⟨rfl, N9q, e9⟩ := hQ9
  have N9 := Fr.app N8 N9q
  obtain ⟨fs, hr, hrun, hended, hW, hsame⟩ := X9.leave (v := some (.int 1)) (fun h => by rw [Bd.returns] at h; cases h)
  refine ⟨_, _, pre0 _ ?_, hrun, hended, _, _, rfl, ?_, ⟨_, rfl⟩, hW, hsame.mono (by decide) (by decide)⟩
  · show Steps p.tables e below (s₁.setTop (mkF m 0 #[iv p0, iv p1, iv p2, .unset, .unset, .unset, .unset, .unset, .unset, .unset, .unset, .unset, .unset] [])) _
    refine XS.iloadN X0.here hx rfl (hb hby at_0) rfl ?_
    show Steps p.tables e below (s₁.setTop (mkF m 1 #[iv p0, iv p1, iv p2, .unset, .unset, .unset, .unset, .unset, .unset, .unset, .unset, .unset, .unset] [(.int p0)])) _
    refine XS.iconst X0.here hx rfl (hb hby at_1) ?_
    show Steps p.tables e below (s₁.setTop (mkF m 2 #[iv p0, iv p1, iv p2, .unset, .unset, .unset, .unset, .unset, .unset, .unset, .unset, .unset, .unset] [(.int 3), (.int p0)])) _
    refine XS.iand X0.here hx rfl (hb hby at_2) rfl ?_
    show Steps p.tables e below (s₁.setTop (mkF m 3 #[iv p0, iv p1, iv p2, .unset, .unset, .unset, .unset, .unset, .unset, .unset, .unset, .unset, .unset] [(.int (p0 &&& (3 : Int32)))])) _
    refine own_top (v' := (.int 2)) (congrArg Value.int hk.1) ?_
    show Steps p.tables e below (s₁.setTop (mkF m 3 #[iv p0, iv p1, iv p2, .unset, .unset, .unset, .unset, .unset, .unset, .unset, .unset, .unset, .unset] [(.int 2)])) _
    refine XS.istoreN X0.here hx rfl (hb hby at_3) rfl (l' := #[iv p0, iv p1, iv p2, iv 2, .unset, .unset, .unset, .unset, .unset, .unset, .unset, .unset, .unset]) rfl ?_
    show Steps p.tables e below (s₁.setTop (mkF m 4 #[iv p0, iv p1, iv p2, iv 2, .unset, .unset, .unset, .unset, .unset, .unset, .unset, .unset, .unset] [])) _
    refine XS.iloadN X0.here hx rfl (hb hby at_4) rfl ?_
    show Steps p.tables e below (s₁.setTop (mkF m 5 #[iv p0, iv p1, iv p2, iv 2, .unset, .unset, .unset, .unset, .unset, .unset, .unset, .unset, .unset] [(.int 2)])) _
    refine XS.ifYes X0.here hx rfl (pc0 := 5) (pc' := 21) rfl (hb hby at_5) rfl ((if0 _ _).trans (feq (by decide)).2) (by decide) (by decide) ?_
    show Steps p.tables e below (s₁.setTop (mkF m 21 #[iv p0, iv p1, iv p2, iv 2, .unset, .unset, .unset, .unset, .unset, .unset, .unset, .unset, .unset] [])) _
    refine XS.iloadN X0.here hx rfl (hb hby at_21) rfl ?_
    show Steps p.tables e below (s₁.setTop (mkF m 22 #[iv p0, iv p1, iv p2, iv 2, .unset, .unset, .unset, .unset, .unset, .unset, .unset, .unset, .unset] [(.int 2)])) _
    refine XS.iconst X0.here hx rfl (hb hby at_22) ?_
    show Steps p.tables e below (s₁.setTop (mkF m 23 #[iv p0, iv p1, iv p2, iv 2, .unset, .unset, .unset, .unset, .unset, .unset, .unset, .unset, .unset] [(.int 1), (.int 2)])) _
    refine XS.icmpYes X0.here hx rfl (pc0 := 23) (pc' := 39) rfl (hb hby at_23) rfl (feq (by decide)).2 (by decide) (by decide) ?_
    show Steps p.tables e below (s₁.setTop (mkF m 39 #[iv p0, iv p1, iv p2, iv 2, .unset, .unset, .unset, .unset, .unset, .unset, .unset, .unset, .unset] [])) _
    refine XS.iloadN X0.here hx rfl (hb hby at_39) rfl ?_
    show Steps p.tables e below (s₁.setTop (mkF m 40 #[iv p0, iv p1, iv p2, iv 2, .unset, .unset, .unset, .unset, .unset, .unset, .unset, .unset, .unset] [(.int 2)])) _
    refine XS.iconst X0.here hx rfl (hb hby at_40) ?_
    show Steps p.tables e below (s₁.setTop (mkF m 41 #[iv p0, iv p1, iv p2, iv 2, .unset, .unset, .unset, .unset, .unset, .unset, .unset, .unset, .unset] [(.int 2), (.int 2)])) _
    refine XS.icmpNo X0.here hx rfl (hb hby at_41) rfl (teq (by decide)).2 ?_
    show Steps p.tables e below (s₁.setTop (mkF m 44 #[iv p0, iv p1, iv p2, iv 2, .unset, .unset, .unset, .unset, .unset, .unset, .unset, .unset, .unset] [])) _
    refine st1 _ ?_
    show Steps p.tables e below (T1.setTop (mkF m 47 #[iv p0, iv p1, iv p2, iv 2, .unset, .unset, .unset, .unset, .unset, .unset, .unset, .unset, .unset] [(.ref w_GREATER)])) _
    refine XS.astore X1.here hx rfl (hb hby at_47) rfl rfl (l' := #[iv p0, iv p1, iv p2, iv 2, rv w_GREATER, .unset, .unset, .unset, .unset, .unset, .unset, .unset, .unset]) rfl ?_
    show Steps p.tables e below (T1.setTop (mkF m 49 #[iv p0, iv p1, iv p2, iv 2, rv w_GREATER, .unset, .unset, .unset, .unset, .unset, .unset, .unset, .unset] [])) _
    refine st2 _ ?_
    show Steps p.tables e below (T2.setTop (mkF m 52 #[iv p0, iv p1, iv p2, iv 2, rv w_GREATER, .unset, .unset, .unset, .unset, .unset, .unset, .unset, .unset] [(.ref w_LESS)])) _
    refine XS.astore X2.here hx rfl (hb hby at_52) rfl rfl (l' := #[iv p0, iv p1, iv p2, iv 2, rv w_GREATER, rv w_LESS, .unset, .unset, .unset, .unset, .unset, .unset, .unset]) rfl ?_
    show Steps p.tables e below (T2.setTop (mkF m 54 #[iv p0, iv p1, iv p2, iv 2, rv w_GREATER, rv w_LESS, .unset, .unset, .unset, .unset, .unset, .unset, .unset] [])) _
    refine XS.goto X2.here hx rfl (pc0 := 54) (pc' := 67) rfl (hb hby at_54) (by decide) (by decide) ?_
    show Steps p.tables e below (T2.setTop (mkF m 67 #[iv p0, iv p1, iv p2, iv 2, rv w_GREATER, rv w_LESS, .unset, .unset, .unset, .unset, .unset, .unset, .unset] [])) _
    refine XS.aload X2.here hx rfl (hb hby at_67) rfl rfl ?_
    show Steps p.tables e below (T2.setTop (mkF m 69 #[iv p0, iv p1, iv p2, iv 2, rv w_GREATER, rv w_LESS, .unset, .unset, .unset, .unset, .unset, .unset, .unset] [(.ref w_GREATER)])) _
    refine st3.trans ?_
    show Steps p.tables e below (T3.setTop (mkF m 72 #[iv p0, iv p1, iv p2, iv 2, rv w_GREATER, rv w_LESS, .unset, .unset, .unset, .unset, .unset, .unset, .unset] [(.ref w_LESS)])) _
    refine XS.astore X3.here hx rfl (hb hby at_72) rfl rfl (l' := #[iv p0, iv p1, iv p2, iv 2, rv w_GREATER, rv w_LESS, rv w_LESS, .unset, .unset, .unset, .unset, .unset, .unset]) rfl ?_
    show Steps p.tables e below (T3.setTop (mkF m 74 #[iv p0, iv p1, iv p2, iv 2, rv w_GREATER, rv w_LESS, rv w_LESS, .unset, .unset, .unset, .unset, .unset, .unset] [])) _
    refine XS.aload X3.here hx rfl (hb hby at_74) rfl rfl ?_
    show Steps p.tables e below (T3.setTop (mkF m 76 #[iv p0, iv p1, iv p2, iv 2, rv w_GREATER, rv w_LESS, rv w_LESS, .unset, .unset, .unset, .unset, .unset, .unset] [(.ref w_LESS)])) _
    refine XS.aload X3.here hx rfl (hb hby at_76) rfl rfl ?_
    show Steps p.tables e below (T3.setTop (mkF m 78 #[iv p0, iv p1, iv p2, iv 2, rv w_GREATER, rv w_LESS, rv w_LESS, .unset, .unset, .unset, .unset, .unset, .unset] [(.ref w_LESS), (.ref w_LESS)])) _
    refine Jvm.RoadKit.acmp (g := (mkF m 78 #[iv p0, iv p1, iv p2, iv 2, rv w_GREATER, rv w_LESS, rv w_LESS, .unset, .unset, .unset, .unset, .unset, .unset] [(.ref w_LESS), (.ref w_LESS)])) X3 hx rfl rfl rfl (pc0 := 78) (pc' := 81) (same := true) rfl (hb hby at_78) rfl (decide_eq_true rfl) (by decide) (by decide) ?_
    show Steps p.tables e below (T3.setTop (mkF m 81 #[iv p0, iv p1, iv p2, iv 2, rv w_GREATER, rv w_LESS, rv w_LESS, .unset, .unset, .unset, .unset, .unset, .unset] [])) _
    refine XS.iconst X3.here hx rfl (hb hby at_81) ?_
    show Steps p.tables e below (T3.setTop (mkF m 82 #[iv p0, iv p1, iv p2, iv 2, rv w_GREATER, rv w_LESS, rv w_LESS, .unset, .unset, .unset, .unset, .unset, .unset] [(.int 1)])) _
    refine XS.goto X3.here hx rfl (pc0 := 82) (pc' := 86) rfl (hb hby at_82) (by decide) (by decide) ?_
    show Steps p.tables e below (T3.setTop (mkF m 86 #[iv p0, iv p1, iv p2, iv 2, rv w_GREATER, rv w_LESS, rv w_LESS, .unset, .unset, .unset, .unset, .unset, .unset] [(.int 1)])) _
    refine XS.istore X3.here hx rfl (hb hby at_86) rfl (l' := #[iv p0, iv p1, iv p2, iv 2, rv w_GREATER, rv w_LESS, rv w_LESS, iv 1, .unset, .unset, .unset, .unset, .unset]) rfl ?_
    show Steps p.tables e below (T3.setTop (mkF m 88 #[iv p0, iv p1, iv p2, iv 2, rv w_GREATER, rv w_LESS, rv w_LESS, iv 1, .unset, .unset, .unset, .unset, .unset] [])) _
    refine XS.aload X3.here hx rfl (hb hby at_88) rfl rfl ?_
    show Steps p.tables e below (T3.setTop (mkF m 90 #[iv p0, iv p1, iv p2, iv 2, rv w_GREATER, rv w_LESS, rv w_LESS, iv 1, .unset, .unset, .unset, .unset, .unset] [(.ref w_LESS)])) _
    refine XS.ifnullNo X3.here hx rfl (hb hby at_90) rfl ?_
    show Steps p.tables e below (T3.setTop (mkF m 93 #[iv p0, iv p1, iv p2, iv 2, rv w_GREATER, rv w_LESS, rv w_LESS, iv 1, .unset, .unset, .unset, .unset, .unset] [])) _
    refine XS.aload X3.here hx rfl (hb hby at_93) rfl rfl ?_
    show Steps p.tables e below (T3.setTop (mkF m 95 #[iv p0, iv p1, iv p2, iv 2, rv w_GREATER, rv w_LESS, rv w_LESS, iv 1, .unset, .unset, .unset, .unset, .unset] [(.ref w_LESS)])) _
    refine st4.trans ?_
    show Steps p.tables e below (T4.setTop (mkF m 98 #[iv p0, iv p1, iv p2, iv 2, rv w_GREATER, rv w_LESS, rv w_LESS, iv 1, .unset, .unset, .unset, .unset, .unset] [(.ref w_GREATER)])) _
    refine XS.aload X4.here hx rfl (hb hby at_98) rfl rfl ?_
    show Steps p.tables e below (T4.setTop (mkF m 100 #[iv p0, iv p1, iv p2, iv 2, rv w_GREATER, rv w_LESS, rv w_LESS, iv 1, .unset, .unset, .unset, .unset, .unset] [(.ref w_GREATER), (.ref w_GREATER)])) _
    refine Jvm.RoadKit.acmp (g := (mkF m 100 #[iv p0, iv p1, iv p2, iv 2, rv w_GREATER, rv w_LESS, rv w_LESS, iv 1, .unset, .unset, .unset, .unset, .unset] [(.ref w_GREATER), (.ref w_GREATER)])) X4 hx rfl rfl rfl (pc0 := 100) (pc' := 103) (same := true) rfl (hb hby at_100) rfl (decide_eq_true rfl) (by decide) (by decide) ?_
    show Steps p.tables e below (T4.setTop (mkF m 103 #[iv p0, iv p1, iv p2, iv 2, rv w_GREATER, rv w_LESS, rv w_LESS, iv 1, .unset, .unset, .unset, .unset, .unset] [])) _
    refine XS.iconst X4.here hx rfl (hb hby at_103) ?_
    show Steps p.tables e below (T4.setTop (mkF m 104 #[iv p0, iv p1, iv p2, iv 2, rv w_GREATER, rv w_LESS, rv w_LESS, iv 1, .unset, .unset, .unset, .unset, .unset] [(.int 1)])) _
    refine XS.goto X4.here hx rfl (pc0 := 104) (pc' := 108) rfl (hb hby at_104) (by decide) (by decide) ?_
    show Steps p.tables e below (T4.setTop (mkF m 108 #[iv p0, iv p1, iv p2, iv 2, rv w_GREATER, rv w_LESS, rv w_LESS, iv 1, .unset, .unset, .unset, .unset, .unset] [(.int 1)])) _
    refine XS.istore X4.here hx rfl (hb hby at_108) rfl (l' := #[iv p0, iv p1, iv p2, iv 2, rv w_GREATER, rv w_LESS, rv w_LESS, iv 1, iv 1, .unset, .unset, .unset, .unset]) rfl ?_
    show Steps p.tables e below (T4.setTop (mkF m 110 #[iv p0, iv p1, iv p2, iv 2, rv w_GREATER, rv w_LESS, rv w_LESS, iv 1, iv 1, .unset, .unset, .unset, .unset] [])) _
    refine XS.iloadN X4.here hx rfl (hb hby at_110) rfl ?_
    show Steps p.tables e below (T4.setTop (mkF m 111 #[iv p0, iv p1, iv p2, iv 2, rv w_GREATER, rv w_LESS, rv w_LESS, iv 1, iv 1, .unset, .unset, .unset, .unset] [(.int p1)])) _
    refine XS.iloadN X4.here hx rfl (hb hby at_111) rfl ?_
    show Steps p.tables e below (T4.setTop (mkF m 112 #[iv p0, iv p1, iv p2, iv 2, rv w_GREATER, rv w_LESS, rv w_LESS, iv 1, iv 1, .unset, .unset, .unset, .unset] [(.int p2), (.int p1)])) _
    refine st5 _ ?_
    show Steps p.tables e below (T5.setTop (mkF m 115 #[iv p0, iv p1, iv p2, iv 2, rv w_GREATER, rv w_LESS, rv w_LESS, iv 1, iv 1, .unset, .unset, .unset, .unset] [(.int 0)])) _
    refine st6 _ ?_
    show Steps p.tables e below (T6.setTop (mkF m 118 #[iv p0, iv p1, iv p2, iv 2, rv w_GREATER, rv w_LESS, rv w_LESS, iv 1, iv 1, .unset, .unset, .unset, .unset] [(.ref w_EQUAL)])) _
    refine XS.astore X6.here hx rfl (hb hby at_118) rfl rfl (l' := #[iv p0, iv p1, iv p2, iv 2, rv w_GREATER, rv w_LESS, rv w_LESS, iv 1, iv 1, rv w_EQUAL, .unset, .unset, .unset]) rfl ?_
    show Steps p.tables e below (T6.setTop (mkF m 120 #[iv p0, iv p1, iv p2, iv 2, rv w_GREATER, rv w_LESS, rv w_LESS, iv 1, iv 1, rv w_EQUAL, .unset, .unset, .unset] [])) _
    refine XS.iloadN X6.here hx rfl (hb hby at_120) rfl ?_
    show Steps p.tables e below (T6.setTop (mkF m 121 #[iv p0, iv p1, iv p2, iv 2, rv w_GREATER, rv w_LESS, rv w_LESS, iv 1, iv 1, rv w_EQUAL, .unset, .unset, .unset] [(.int p2)])) _
    refine XS.iloadN X6.here hx rfl (hb hby at_121) rfl ?_
    show Steps p.tables e below (T6.setTop (mkF m 122 #[iv p0, iv p1, iv p2, iv 2, rv w_GREATER, rv w_LESS, rv w_LESS, iv 1, iv 1, rv w_EQUAL, .unset, .unset, .unset] [(.int p1), (.int p2)])) _
    refine st7 _ ?_
    show Steps p.tables e below (T7.setTop (mkF m 125 #[iv p0, iv p1, iv p2, iv 2, rv w_GREATER, rv w_LESS, rv w_LESS, iv 1, iv 1, rv w_EQUAL, .unset, .unset, .unset] [(.int 0)])) _
    refine st8 _ ?_
    show Steps p.tables e below (T8.setTop (mkF m 128 #[iv p0, iv p1, iv p2, iv 2, rv w_GREATER, rv w_LESS, rv w_LESS, iv 1, iv 1, rv w_EQUAL, .unset, .unset, .unset] [(.ref w_EQUAL)])) _
    refine XS.astore X8.here hx rfl (hb hby at_128) rfl rfl (l' := #[iv p0, iv p1, iv p2, iv 2, rv w_GREATER, rv w_LESS, rv w_LESS, iv 1, iv 1, rv w_EQUAL, rv w_EQUAL, .unset, .unset]) rfl ?_
    show Steps p.tables e below (T8.setTop (mkF m 130 #[iv p0, iv p1, iv p2, iv 2, rv w_GREATER, rv w_LESS, rv w_LESS, iv 1, iv 1, rv w_EQUAL, rv w_EQUAL, .unset, .unset] [])) _
    refine XS.aload X8.here hx rfl (hb hby at_130) rfl rfl ?_
    show Steps p.tables e below (T8.setTop (mkF m 132 #[iv p0, iv p1, iv p2, iv 2, rv w_GREATER, rv w_LESS, rv w_LESS, iv 1, iv 1, rv w_EQUAL, rv w_EQUAL, .unset, .unset] [(.ref w_EQUAL)])) _
    refine st9.trans ?_
    show Steps p.tables e below (T9.setTop (mkF m 135 #[iv p0, iv p1, iv p2, iv 2, rv w_GREATER, rv w_LESS, rv w_LESS, iv 1, iv 1, rv w_EQUAL, rv w_EQUAL, .unset, .unset] [(.ref w_EQUAL)])) _
    refine XS.astore X9.here hx rfl (hb hby at_135) rfl rfl (l' := #[iv p0, iv p1, iv p2, iv 2, rv w_GREATER, rv w_LESS, rv w_LESS, iv 1, iv 1, rv w_EQUAL, rv w_EQUAL, rv w_EQUAL, .unset]) rfl ?_
    show Steps p.tables e below (T9.setTop (mkF m 137 #[iv p0, iv p1, iv p2, iv 2, rv w_GREATER, rv w_LESS, rv w_LESS, iv 1, iv 1, rv w_EQUAL, rv w_EQUAL, rv w_EQUAL, .unset] [])) _
    refine XS.aload X9.here hx rfl (hb hby at_137) rfl rfl ?_
    show Steps p.tables e below (T9.setTop (mkF m 139 #[iv p0, iv p1, iv p2, iv 2, rv w_GREATER, rv w_LESS, rv w_LESS, iv 1, iv 1, rv w_EQUAL, rv w_EQUAL, rv w_EQUAL, .unset] [(.ref w_EQUAL)])) _
    refine XS.aload X9.here hx rfl (hb hby at_139) rfl rfl ?_
    show Steps p.tables e below (T9.setTop (mkF m 141 #[iv p0, iv p1, iv p2, iv 2, rv w_GREATER, rv w_LESS, rv w_LESS, iv 1, iv 1, rv w_EQUAL, rv w_EQUAL, rv w_EQUAL, .unset] [(.ref w_EQUAL), (.ref w_EQUAL)])) _
    refine Jvm.RoadKit.acmp (g := (mkF m 141 #[iv p0, iv p1, iv p2, iv 2, rv w_GREATER, rv w_LESS, rv w_LESS, iv 1, iv 1, rv w_EQUAL, rv w_EQUAL, rv w_EQUAL, .unset] [(.ref w_EQUAL), (.ref w_EQUAL)])) X9 hx rfl rfl rfl (pc0 := 141) (pc' := 144) (same := true) rfl (hb hby at_141) rfl (decide_eq_true rfl) (by decide) (by decide) ?_
    show Steps p.tables e below (T9.setTop (mkF m 144 #[iv p0, iv p1, iv p2, iv 2, rv w_GREATER, rv w_LESS, rv w_LESS, iv 1, iv 1, rv w_EQUAL, rv w_EQUAL, rv w_EQUAL, .unset] [])) _
    refine XS.iconst X9.here hx rfl (hb hby at_144) ?_
    show Steps p.tables e below (T9.setTop (mkF m 145 #[iv p0, iv p1, iv p2, iv 2, rv w_GREATER, rv w_LESS, rv w_LESS, iv 1, iv 1, rv w_EQUAL, rv w_EQUAL, rv w_EQUAL, .unset] [(.int 1)])) _
    refine XS.goto X9.here hx rfl (pc0 := 145) (pc' := 149) rfl (hb hby at_145) (by decide) (by decide) ?_
    show Steps p.tables e below (T9.setTop (mkF m 149 #[iv p0, iv p1, iv p2, iv 2, rv w_GREATER, rv w_LESS, rv w_LESS, iv 1, iv 1, rv w_EQUAL, rv w_EQUAL, rv w_EQUAL, .unset] [(.int 1)])) _
    refine XS.istore X9.here hx rfl (hb hby at_149) rfl (l' := #[iv p0, iv p1, iv p2, iv 2, rv w_GREATER, rv w_LESS, rv w_LESS, iv 1, iv 1, rv w_EQUAL, rv w_EQUAL, rv w_EQUAL, iv 1]) rfl ?_
    show Steps p.tables e below (T9.setTop (mkF m 151 #[iv p0, iv p1, iv p2, iv 2, rv w_GREATER, rv w_LESS, rv w_LESS, iv 1, iv 1, rv w_EQUAL, rv w_EQUAL, rv w_EQUAL, iv 1] [])) _
    refine XS.iload X9.here hx rfl (hb hby at_151) rfl ?_
    show Steps p.tables e below (T9.setTop (mkF m 153 #[iv p0, iv p1, iv p2, iv 2, rv w_GREATER, rv w_LESS, rv w_LESS, iv 1, iv 1, rv w_EQUAL, rv w_EQUAL, rv w_EQUAL, iv 1] [(.int 1)])) _
    refine XS.ifNo X9.here hx rfl (hb hby at_153) rfl ((if0 _ _).trans (feq (by decide)).1) ?_
    show Steps p.tables e below (T9.setTop (mkF m 156 #[iv p0, iv p1, iv p2, iv 2, rv w_GREATER, rv w_LESS, rv w_LESS, iv 1, iv 1, rv w_EQUAL, rv w_EQUAL, rv w_EQUAL, iv 1] [])) _
    refine XS.iload X9.here hx rfl (hb hby at_156) rfl ?_
    show Steps p.tables e below (T9.setTop (mkF m 158 #[iv p0, iv p1, iv p2, iv 2, rv w_GREATER, rv w_LESS, rv w_LESS, iv 1, iv 1, rv w_EQUAL, rv w_EQUAL, rv w_EQUAL, iv 1] [(.int 1)])) _
    refine XS.ifNo X9.here hx rfl (hb hby at_158) rfl ((if0 _ _).trans (feq (by decide)).1) ?_
    show Steps p.tables e below (T9.setTop (mkF m 161 #[iv p0, iv p1, iv p2, iv 2, rv w_GREATER, rv w_LESS, rv w_LESS, iv 1, iv 1, rv w_EQUAL, rv w_EQUAL, rv w_EQUAL, iv 1] [])) _
    refine XS.iload X9.here hx rfl (hb hby at_161) rfl ?_
    show Steps p.tables e below (T9.setTop (mkF m 163 #[iv p0, iv p1, iv p2, iv 2, rv w_GREATER, rv w_LESS, rv w_LESS, iv 1, iv 1, rv w_EQUAL, rv w_EQUAL, rv w_EQUAL, iv 1] [(.int 1)])) _
    refine XS.ifNo X9.here hx rfl (hb hby at_163) rfl ((if0 _ _).trans (feq (by decide)).1) ?_
    show Steps p.tables e below (T9.setTop (mkF m 166 #[iv p0, iv p1, iv p2, iv 2, rv w_GREATER, rv w_LESS, rv w_LESS, iv 1, iv 1, rv w_EQUAL, rv w_EQUAL, rv w_EQUAL, iv 1] [])) _
    refine XS.iconst X9.here hx rfl (hb hby at_166) ?_
    show Steps p.tables e below (T9.setTop (mkF m 167 #[iv p0, iv p1, iv p2, iv 2, rv w_GREATER, rv w_LESS, rv w_LESS, iv 1, iv 1, rv w_EQUAL, rv w_EQUAL, rv w_EQUAL, iv 1] [(.int 1)])) _
    refine XS.goto X9.here hx rfl (pc0 := 167) (pc' := 171) rfl (hb hby at_167) (by decide) (by decide) ?_
    show Steps p.tables e below (T9.setTop (mkF m 171 #[iv p0, iv p1, iv p2, iv 2, rv w_GREATER, rv w_LESS, rv w_LESS, iv 1, iv 1, rv w_EQUAL, rv w_EQUAL, rv w_EQUAL, iv 1] [(.int 1)])) _
    exact retN X9 hx (t := .boolean) Bd.returns (by simp) (hb hby at_171) hr
  · show own_law7_Q Z w_LESS w_EQUAL w_GREATER w_UNORDERED p0 p1 p2 h0 n0 _ T9.heap _
    rw [e9]
    exact ⟨rfl, N9, trivial⟩
theorem own_law8_ef (m : MethodId) (p0 : Int32) (p1 : Int32) (p2 : Int32) : entryFrame m #[(.int p0), (.int p1), (.int p2)] maxLocals = mkF m 0 #[iv p0, iv p1, iv p2, .unset, .unset, .unset, .unset, .unset, .unset, .unset, .unset, .unset, .unset] [] := by first | (simp [entryFrame, mkF, argsToLocals, Value.category, maxLocals]; done) | rfl
def own_law8_Q (Z : State) (w_LESS : Addr) (w_EQUAL : Addr) (w_GREATER : Addr) (w_UNORDERED : Addr) (p0 : Int32) (p1 : Int32) (p2 : Int32) (h0 : Heap) (n0 : Nat) (v : Option Value) (h : Heap) (L : List Loc) : Prop := v = some (.int 1) ∧ Fr n0 L ∧ True
set_option maxRecDepth 65536 in
set_option maxHeartbeats 40000000 in
theorem own_law8 (l : Launch) (Z : State) (a0 : Array Value) (hw : ∀ d ∈ tables_1, d.before a0 Z = true) (ws : List Jvm.Cond) (w_LESS : Addr) (w_EQUAL : Addr) (w_GREATER : Addr) (w_UNORDERED : Addr) (p0 : Int32) (p1 : Int32) (p2 : Int32) (h0 : Heap) (n0 : Nat) (O0 : Old Z n0 h0) (U_LESS : own_En Z Z.heap "com/example/bindweave/bindweave/expression/Order" "LESS" "Lcom/example/bindweave/bindweave/expression/Order;" w_LESS (0 : Int32)) (U_EQUAL : own_En Z Z.heap "com/example/bindweave/bindweave/expression/Order" "EQUAL" "Lcom/example/bindweave/bindweave/expression/Order;" w_EQUAL (1 : Int32)) (U_GREATER : own_En Z Z.heap "com/example/bindweave/bindweave/expression/Order" "GREATER" "Lcom/example/bindweave/bindweave/expression/Order;" w_GREATER (2 : Int32)) (U_UNORDERED : own_En Z Z.heap "com/example/bindweave/bindweave/expression/Order" "UNORDERED" "Lcom/example/bindweave/bindweave/expression/Order;" w_UNORDERED (3 : Int32)) (hk : (p0 &&& (3 : Int32)) = (2 : Int32) ∧ (¬ p1 < p2 ∧ p2 < p1)) :
    MetFree l x (head1 (Jvm.Cond.code x code maxLocals ret :: ws) room_1) (fun ar U => ar = #[(.int p0), (.int p1), (.int p2)] ∧ Z.Warmed39 U.vm ∧ U.heap = h0) (fun _ _ _ _ _ => True) (fun _ U oc U' => ∃ v L, oc = .returned v ∧ own_law8_Q Z w_LESS w_EQUAL w_GREATER w_UNORDERED p0 p1 p2 h0 n0 v U'.heap L ∧ FrameEnd U oc U' L 0 0) := by
  refine MetFree.of_bodySF (plainFor_of_name own_pn1) hisR ?_
  intro p e s m args below meth c s₁ Bd hml0 hP hK
  obtain ⟨rfl, hZ, hh⟩ := hP
  have hx := Bd.exec
  have hby := Bd.bytes
  have hml : c.maxLocals = 13 := hml0
  have hown : s.vm.findClass "com/example/bindweave/bindweave/expression/OrderReversedPinLaw" = some m.cls := findClass_of_methodNamed Bd.named
  have hnm := (name_of_methodNamed Bd.named Bd.method).1
  have X0 : Stand p l e room_1 s m #[(.int p0), (.int p1), (.int p2)] below meth c s₁ [] 0 0 := Stand.of_body Bd
  have e0 : s₁.heap = h0 := by rw [← hh, Bd.state]; rfl
  have N0 := Fr.nil n0
  have pre0 : ∀ t, Steps p.tables e below (s₁.setTop (mkF m 0 #[iv p0, iv p1, iv p2, .unset, .unset, .unset, .unset, .unset, .unset, .unset, .unset, .unset, .unset] [])) t → Steps p.tables e below (s₁.setTop (entryFrame m #[(.int p0), (.int p1), (.int p2)] maxLocals)) t := fun t k => castTop (own_law8_ef m p0 p1 p2) k
  obtain ⟨T1, X1, e1, st1⟩ := getS2 X0 hx hZ hown (host := "") (Or.inl (hw _ (own_m 3 rfl))) Via.refl e0 (U_GREATER.1.ext O0.2) (g := (mkF m 44 #[iv p0, iv p1, iv p2, iv 2, .unset, .unset, .unset, .unset, .unset, .unset, .unset, .unset, .unset] [])) rfl (hb hby at_44)
  obtain ⟨T2, X2, e2, st2⟩ := getS2 X1 hx hZ hown (host := "") (Or.inl (hw _ (own_m 0 rfl))) Via.refl e1 (U_LESS.1.ext O0.2) (g := (mkF m 49 #[iv p0, iv p1, iv p2, iv 2, rv w_GREATER, .unset, .unset, .unset, .unset, .unset, .unset, .unset, .unset] [])) rfl (hb hby at_49)
  obtain ⟨cq3, kq3, q3a, q3b, q3c⟩ := isOf hZ e2 (U_GREATER.2.1.ext O0.2)
  obtain ⟨_, _, ⟨T3, L3, k3, n3⟩, -, X3, ⟨Lc3, hQ3, l3, y3, z3⟩, st3⟩ := X2.virtualBack hx (y := (⟨"com/example/bindweave/bindweave/expression/Order", "reversed", "()Lcom/example/bindweave/bindweave/expression/Order;"⟩ : MethodName)) (z := (⟨"com/example/bindweave/bindweave/expression/Order", "reversed", "()Lcom/example/bindweave/bindweave/expression/Order;"⟩ : MethodName)) hown (mvT hZ (hw _ (own_m 5 rfl))) (mvT hZ (hw _ (own_m 6 rfl))) (notFace_of_selects (args := #[]) (mvT hZ (hw _ (own_m 8 rfl)))) (mvT hZ (hw _ (own_m 8 rfl))) (mvT hZ (hw _ (own_m 7 rfl))) (by decide) (backOf (W := 0) (own_rev_GREATER l Z a0 hw [] w_LESS w_EQUAL w_GREATER w_UNORDERED  h0 n0 O0 U_LESS U_EQUAL U_GREATER U_UNORDERED ) hZ (hw _ (own_m 9 rfl)) (hw _ (own_m 1 rfl)) (by decide) (by decide)) q3a q3c (g := (mkF m 69 #[iv p0, iv p1, iv p2, iv 2, rv w_GREATER, rv w_LESS, .unset, .unset, .unset, .unset, .unset, .unset, .unset] [(.ref w_GREATER)])) rfl (by rw [hml]; rfl) (Steps.refl _) (argsL := []) (rest := []) (lenOf own_pd0 rfl) rfl (by show 2 * 0 + _ ≤ _; exact Nat.le_of_eq rfl) (hb hby at_69) (fun _ _ => ⟨rfl, e2, (by decide : 0 + 0 ≤ _), (by decide : 0 + 0 ≤ _)⟩)
  dsimp only [Pt.U, Pt.locs, Pt.cells, Pt.slots] at X3 l3 y3 z3 st3 hQ3
  subst l3 y3 z3
  obtain ⟨rfl, N3q, e3⟩ := hQ3
  have N3 := Fr.app N0 N3q
  obtain ⟨cq4, kq4, q4a, q4b, q4c⟩ := isOf hZ e3 (U_LESS.2.1.ext O0.2)
  obtain ⟨_, _, ⟨T4, L4, k4, n4⟩, -, X4, ⟨Lc4, hQ4, l4, y4, z4⟩, st4⟩ := X3.virtualBack hx (y := (⟨"com/example/bindweave/bindweave/expression/Order", "reversed", "()Lcom/example/bindweave/bindweave/expression/Order;"⟩ : MethodName)) (z := (⟨"com/example/bindweave/bindweave/expression/Order", "reversed", "()Lcom/example/bindweave/bindweave/expression/Order;"⟩ : MethodName)) hown (mvT hZ (hw _ (own_m 5 rfl))) (mvT hZ (hw _ (own_m 6 rfl))) (notFace_of_selects (args := #[]) (mvT hZ (hw _ (own_m 8 rfl)))) (mvT hZ (hw _ (own_m 8 rfl))) (mvT hZ (hw _ (own_m 7 rfl))) (by decide) (backOf (W := 0) (own_rev_LESS l Z a0 hw [] w_LESS w_EQUAL w_GREATER w_UNORDERED  h0 n0 O0 U_LESS U_EQUAL U_GREATER U_UNORDERED ) hZ (hw _ (own_m 9 rfl)) (hw _ (own_m 1 rfl)) (by decide) (by decide)) q4a q4c (g := (mkF m 95 #[iv p0, iv p1, iv p2, iv 2, rv w_GREATER, rv w_LESS, rv w_LESS, iv 1, .unset, .unset, .unset, .unset, .unset] [(.ref w_LESS)])) rfl (by rw [hml]; rfl) (Steps.refl _) (argsL := []) (rest := []) (lenOf own_pd0 rfl) rfl (by show 2 * 0 + _ ≤ _; exact Nat.le_of_eq rfl) (hb hby at_95) (fun _ _ => ⟨rfl, e3, (by decide : 0 + 0 ≤ _), (by decide : 0 + 0 ≤ _)⟩)
  dsimp only [Pt.U, Pt.locs, Pt.cells, Pt.slots] at X4 l4 y4 z4 st4 hQ4
  subst l4 y4 z4
  obtain ⟨rfl, N4q, e4⟩ := hQ4
  have N4 := Fr.app N3 N4q
  obtain ⟨_, _, ⟨T5, L5, k5, n5⟩, -, X5, ⟨Lc5, hQ5, l5, y5, z5⟩, st5⟩ := Jvm.LawKit.callS X4 hx (y := (⟨"com/example/bindweave/bindweave/expression/OrderReversedPinLaw", "sign", "(II)I"⟩ : MethodName)) hown (mvT hZ (hw _ (own_m 12 rfl))) (mvT hZ (hw _ (own_m 13 rfl))) (mvT hZ (hw _ (own_m 14 rfl))) (mvT hZ (hw _ (own_m 15 rfl))) (by decide) (backOf (W := 0) (own_sg_G l Z a0 hw [] w_LESS w_EQUAL w_GREATER w_UNORDERED p1 p2 h0 n0 O0 U_LESS U_EQUAL U_GREATER U_UNORDERED hk.2.1 hk.2.2) hZ (hw _ (own_m 15 rfl)) (hw _ (own_m 14 rfl)) (by decide) (by decide)) (g := (mkF m 112 #[iv p0, iv p1, iv p2, iv 2, rv w_GREATER, rv w_LESS, rv w_LESS, iv 1, iv 1, .unset, .unset, .unset, .unset] [(.int p2), (.int p1)])) rfl (by rw [hml]; rfl) (argsL := [(.int p1), (.int p2)]) (rest := []) (lenOf own_pd1 rfl) rfl (by show 2 * 0 + _ ≤ _; exact Nat.le_of_eq rfl) (hb hby at_112) (fun _ _ => ⟨rfl, e4, (by decide : 0 + 0 ≤ _), (by decide : 0 + 0 ≤ _)⟩)
  dsimp only [Pt.U, Pt.locs, Pt.cells, Pt.slots] at X5 l5 y5 z5 st5 hQ5
  subst l5 y5 z5
  obtain ⟨rfl, N5q, e5⟩ := hQ5
  have N5 := Fr.app N4 N5q
  obtain ⟨_, _, ⟨T6, L6, k6, n6⟩, -, X6, ⟨Lc6, hQ6, l6, y6, z6⟩, st6⟩ := Jvm.LawKit.callS X5 hx (y := (⟨"com/example/bindweave/bindweave/expression/Order", "of", "(I)Lcom/example/bindweave/bindweave/expression/Order;"⟩ : MethodName)) hown (mvT hZ (hw _ (own_m 16 rfl))) (mvT hZ (hw _ (own_m 17 rfl))) (mvT hZ (hw _ (own_m 1 rfl))) (mvT hZ (hw _ (own_m 18 rfl))) (by decide) (backOf (W := 0) (own_of_G l Z a0 hw [] w_LESS w_EQUAL w_GREATER w_UNORDERED (1 : Int32) h0 n0 O0 U_LESS U_EQUAL U_GREATER U_UNORDERED (by decide) (by decide)) hZ (hw _ (own_m 18 rfl)) (hw _ (own_m 1 rfl)) (by decide) (by decide)) (g := (mkF m 115 #[iv p0, iv p1, iv p2, iv 2, rv w_GREATER, rv w_LESS, rv w_LESS, iv 1, iv 1, .unset, .unset, .unset, .unset] [(.int 1)])) rfl (by rw [hml]; rfl) (argsL := [(.int 1)]) (rest := []) (lenOf own_pd2 rfl) rfl (by show 2 * 0 + _ ≤ _; exact Nat.le_of_eq rfl) (hb hby at_115) (fun _ _ => ⟨rfl, e5, (by decide : 0 + 0 ≤ _), (by decide : 0 + 0 ≤ _)⟩)
  dsimp only [Pt.U, Pt.locs, Pt.cells, Pt.slots] at X6 l6 y6 z6 st6 hQ6
  subst l6 y6 z6
  obtain ⟨rfl, N6q, e6⟩ := hQ6
  have N6 := Fr.app N5 N6q
  obtain ⟨_, _, ⟨T7, L7, k7, n7⟩, -, X7, ⟨Lc7, hQ7, l7, y7, z7⟩, st7⟩ := Jvm.LawKit.callS X6 hx (y := (⟨"com/example/bindweave/bindweave/expression/OrderReversedPinLaw", "sign", "(II)I"⟩ : MethodName)) hown (mvT hZ (hw _ (own_m 12 rfl))) (mvT hZ (hw _ (own_m 13 rfl))) (mvT hZ (hw _ (own_m 14 rfl))) (mvT hZ (hw _ (own_m 15 rfl))) (by decide) (backOf (W := 0) (own_sg_L l Z a0 hw [] w_LESS w_EQUAL w_GREATER w_UNORDERED p2 p1 h0 n0 O0 U_LESS U_EQUAL U_GREATER U_UNORDERED hk.2.2) hZ (hw _ (own_m 15 rfl)) (hw _ (own_m 14 rfl)) (by decide) (by decide)) (g := (mkF m 122 #[iv p0, iv p1, iv p2, iv 2, rv w_GREATER, rv w_LESS, rv w_LESS, iv 1, iv 1, rv w_GREATER, .unset, .unset, .unset] [(.int p1), (.int p2)])) rfl (by rw [hml]; rfl) (argsL := [(.int p2), (.int p1)]) (rest := []) (lenOf own_pd1 rfl) rfl (by show 2 * 0 + _ ≤ _; exact Nat.le_of_eq rfl) (hb hby at_122) (fun _ _ => ⟨rfl, e6, (by decide : 0 + 0 ≤ _), (by decide : 0 + 0 ≤ _)⟩)
  dsimp only [Pt.U, Pt.locs, Pt.cells, Pt.slots] at X7 l7 y7 z7 st7 hQ7
  subst l7 y7 z7
  obtain ⟨rfl, N7q, e7⟩ := hQ7
  have N7 := Fr.app N6 N7q
  obtain ⟨_, _, ⟨T8, L8, k8, n8⟩, -, X8, ⟨Lc8, hQ8, l8, y8, z8⟩, st8⟩ := Jvm.LawKit.callS X7 hx (y := (⟨"com/example/bindweave/bindweave/expression/Order", "of", "(I)Lcom/example/bindweave/bindweave/expression/Order;"⟩ : MethodName)) hown (mvT hZ (hw _ (own_m 16 rfl))) (mvT hZ (hw _ (own_m 17 rfl))) (mvT hZ (hw _ (own_m 1 rfl))) (mvT hZ (hw _ (own_m 18 rfl))) (by decide) (backOf (W := 0) (own_of_L l Z a0 hw [] w_LESS w_EQUAL w_GREATER w_UNORDERED (-1 : Int32) h0 n0 O0 U_LESS U_EQUAL U_GREATER U_UNORDERED (by decide)) hZ (hw _ (own_m 18 rfl)) (hw _ (own_m 1 rfl)) (by decide) (by decide)) (g := (mkF m 125 #[iv p0, iv p1, iv p2, iv 2, rv w_GREATER, rv w_LESS, rv w_LESS, iv 1, iv 1, rv w_GREATER, .unset, .unset, .unset] [(.int (-1))])) rfl (by rw [hml]; rfl) (argsL := [(.int (-1))]) (rest := []) (lenOf own_pd2 rfl) rfl (by show 2 * 0 + _ ≤ _; exact Nat.le_of_eq rfl) (hb hby at_125) (fun _ _ => ⟨rfl, e7, (by decide : 0 + 0 ≤ _), (by decide : 0 + 0 ≤ _)⟩)
  dsimp only [Pt.U, Pt.locs, Pt.cells, Pt.slots] at X8 l8 y8 z8 st8 hQ8
  subst l8 y8 z8
  obtain ⟨rfl, N8q, e8⟩ := hQ8
  have N8 := Fr.app N7 N8q
  obtain ⟨cq9, kq9, q9a, q9b, q9c⟩ := isOf hZ e8 (U_GREATER.2.1.ext O0.2)
  obtain ⟨_, _, ⟨T9, L9, k9, n9⟩, -, X9, ⟨Lc9, hQ9, l9, y9, z9⟩, st9⟩ := X8.virtualBack hx (y := (⟨"com/example/bindweave/bindweave/expression/Order", "reversed", "()Lcom/example/bindweave/bindweave/expression/Order;"⟩ : MethodName)) (z := (⟨"com/example/bindweave/bindweave/expression/Order", "reversed", "()Lcom/example/bindweave/bindweave/expression/Order;"⟩ : MethodName)) hown (mvT hZ (hw _ (own_m 5 rfl))) (mvT hZ (hw _ (own_m 6 rfl))) (notFace_of_selects (args := #[]) (mvT hZ (hw _ (own_m 8 rfl)))) (mvT hZ (hw _ (own_m 8 rfl))) (mvT hZ (hw _ (own_m 7 rfl))) (by decide) (backOf (W := 0) (own_rev_GREATER l Z a0 hw [] w_LESS w_EQUAL w_GREATER w_UNORDERED  h0 n0 O0 U_LESS U_EQUAL U_GREATER U_UNORDERED ) hZ (hw _ (own_m 9 rfl)) (hw _ (own_m 1 rfl)) (by decide) (by decide)) q9a q9c (g := (mkF m 132 #[iv p0, iv p1, iv p2, iv 2, rv w_GREATER, rv w_LESS, rv w_LESS, iv 1, iv 1, rv w_GREATER, rv w_LESS, .unset, .unset] [(.ref w_GREATER)])) rfl (by rw [hml]; rfl) (Steps.refl _) (argsL := []) (rest := []) (lenOf own_pd0 rfl) rfl (by show 2 * 0 + _ ≤ _; exact Nat.le_of_eq rfl) (hb hby at_132) (fun _ _ => ⟨rfl, e8, (by decide : 0 + 0 ≤ _), (by decide : 0 + 0 ≤ _)⟩)
  dsimp only [Pt.U, Pt.locs, Pt.cells, Pt.slots] at X9 l9 y9 z9 st9 hQ9
  subst l9 y9 z9
  obtain ⟨rfl, N9q, e9⟩ := hQ9
  have N9 := Fr.app N8 N9q
  obtain ⟨fs, hr, hrun, hended, hW, hsame⟩ := X9.leave (v := some (.int 1)) (fun h => by rw [Bd.returns] at h; cases h)
  refine ⟨_, _, pre0 _ ?_, hrun, hended, _, _, rfl, ?_, ⟨_, rfl⟩, hW, hsame.mono (by decide) (by decide)⟩
  · show Steps p.tables e below (s₁.setTop (mkF m 0 #[iv p0, iv p1, iv p2, .unset, .unset, .unset, .unset, .unset, .unset, .unset, .unset, .unset, .unset] [])) _
    refine XS.iloadN X0.here hx rfl (hb hby at_0) rfl ?_
    show Steps p.tables e below (s₁.setTop (mkF m 1 #[iv p0, iv p1, iv p2, .unset, .unset, .unset, .unset, .unset, .unset, .unset, .unset, .unset, .unset] [(.int p0)])) _
    refine XS.iconst X0.here hx rfl (hb hby at_1) ?_
    show Steps p.tables e below (s₁.setTop (mkF m 2 #[iv p0, iv p1, iv p2, .unset, .unset, .unset, .unset, .unset, .unset, .unset, .unset, .unset, .unset] [(.int 3), (.int p0)])) _
    refine XS.iand X0.here hx rfl (hb hby at_2) rfl ?_
    show Steps p.tables e below (s₁.setTop (mkF m 3 #[iv p0, iv p1, iv p2, .unset, .unset, .unset, .unset, .unset, .unset, .unset, .unset, .unset, .unset] [(.int (p0 &&& (3 : Int32)))])) _
    refine own_top (v' := (.int 2)) (congrArg Value.int hk.1) ?_
    show Steps p.tables e below (s₁.setTop (mkF m 3 #[iv p0, iv p1, iv p2, .unset, .unset, .unset, .unset, .unset, .unset, .unset, .unset, .unset, .unset] [(.int 2)])) _
    refine XS.istoreN X0.here hx rfl (hb hby at_3) rfl (l' := #[iv p0, iv p1, iv p2, iv 2, .unset, .unset, .unset, .unset, .unset, .unset, .unset, .unset, .unset]) rfl ?_
    show Steps p.tables e below (s₁.setTop (mkF m 4 #[iv p0, iv p1, iv p2, iv 2, .unset, .unset, .unset, .unset, .unset, .unset, .unset, .unset, .unset] [])) _
    refine XS.iloadN X0.here hx rfl (hb hby at_4) rfl ?_
    show Steps p.tables e below (s₁.setTop (mkF m 5 #[iv p0, iv p1, iv p2, iv 2, .unset, .unset, .unset, .unset, .unset, .unset, .unset, .unset, .unset] [(.int 2)])) _
    refine XS.ifYes X0.here hx rfl (pc0 := 5) (pc' := 21) rfl (hb hby at_5) rfl ((if0 _ _).trans (feq (by decide)).2) (by decide) (by decide) ?_
    show Steps p.tables e below (s₁.setTop (mkF m 21 #[iv p0, iv p1, iv p2, iv 2, .unset, .unset, .unset, .unset, .unset, .unset, .unset, .unset, .unset] [])) _
    refine XS.iloadN X0.here hx rfl (hb hby at_21) rfl ?_
    show Steps p.tables e below (s₁.setTop (mkF m 22 #[iv p0, iv p1, iv p2, iv 2, .unset, .unset, .unset, .unset, .unset, .unset, .unset, .unset, .unset] [(.int 2)])) _
    refine XS.iconst X0.here hx rfl (hb hby at_22) ?_
    show Steps p.tables e below (s₁.setTop (mkF m 23 #[iv p0, iv p1, iv p2, iv 2, .unset, .unset, .unset, .unset, .unset, .unset, .unset, .unset, .unset] [(.int 1), (.int 2)])) _
    refine XS.icmpYes X0.here hx rfl (pc0 := 23) (pc' := 39) rfl (hb hby at_23) rfl (feq (by decide)).2 (by decide) (by decide) ?_
    show Steps p.tables e below (s₁.setTop (mkF m 39 #[iv p0, iv p1, iv p2, iv 2, .unset, .unset, .unset, .unset, .unset, .unset, .unset, .unset, .unset] [])) _
    refine XS.iloadN X0.here hx rfl (hb hby at_39) rfl ?_
    show Steps p.tables e below (s₁.setTop (mkF m 40 #[iv p0, iv p1, iv p2, iv 2, .unset, .unset, .unset, .unset, .unset, .unset, .unset, .unset, .unset] [(.int 2)])) _
    refine XS.iconst X0.here hx rfl (hb hby at_40) ?_
    show Steps p.tables e below (s₁.setTop (mkF m 41 #[iv p0, iv p1, iv p2, iv 2, .unset, .unset, .unset, .unset, .unset, .unset, .unset, .unset, .unset] [(.int 2), (.int 2)])) _
    refine XS.icmpNo X0.here hx rfl (hb hby at_41) rfl (teq (by decide)).2 ?_
    show Steps p.tables e below (s₁.setTop (mkF m 44 #[iv p0, iv p1, iv p2, iv 2, .unset, .unset, .unset, .unset, .unset, .unset, .unset, .unset, .unset] [])) _
    refine st1 _ ?_
    show Steps p.tables e below (T1.setTop (mkF m 47 #[iv p0, iv p1, iv p2, iv 2, .unset, .unset, .unset, .unset, .unset, .unset, .unset, .unset, .unset] [(.ref w_GREATER)])) _
    refine XS.astore X1.here hx rfl (hb hby at_47) rfl rfl (l' := #[iv p0, iv p1, iv p2, iv 2, rv w_GREATER, .unset, .unset, .unset, .unset, .unset, .unset, .unset, .unset]) rfl ?_
    show Steps p.tables e below (T1.setTop (mkF m 49 #[iv p0, iv p1, iv p2, iv 2, rv w_GREATER, .unset, .unset, .unset, .unset, .unset, .unset, .unset, .unset] [])) _
    refine st2 _ ?_
    show Steps p.tables e below (T2.setTop (mkF m 52 #[iv p0, iv p1, iv p2, iv 2, rv w_GREATER, .unset, .unset, .unset, .unset, .unset, .unset, .unset, .unset] [(.ref w_LESS)])) _
    refine XS.astore X2.here hx rfl (hb hby at_52) rfl rfl (l' := #[iv p0, iv p1, iv p2, iv 2, rv w_GREATER, rv w_LESS, .unset, .unset, .unset, .unset, .unset, .unset, .unset]) rfl ?_
    show Steps p.tables e below (T2.setTop (mkF m 54 #[iv p0, iv p1, iv p2, iv 2, rv w_GREATER, rv w_LESS, .unset, .unset, .unset, .unset, .unset, .unset, .unset] [])) _
    refine XS.goto X2.here hx rfl (pc0 := 54) (pc' := 67) rfl (hb hby at_54) (by decide) (by decide) ?_
    show Steps p.tables e below (T2.setTop (mkF m 67 #[iv p0, iv p1, iv p2, iv 2, rv w_GREATER, rv w_LESS, .unset, .unset, .unset, .unset, .unset, .unset, .unset] [])) _
    refine XS.aload X2.here hx rfl (hb hby at_67) rfl rfl ?_
    show Steps p.tables e below (T2.setTop (mkF m 69 #[iv p0, iv p1, iv p2, iv 2, rv w_GREATER, rv w_LESS, .unset, .unset, .unset, .unset, .unset, .unset, .unset] [(.ref w_GREATER)])) _
    refine st3.trans ?_
    show Steps p.tables e below (T3.setTop (mkF m 72 #[iv p0, iv p1, iv p2, iv 2, rv w_GREATER, rv w_LESS, .unset, .unset, .unset, .unset, .unset, .unset, .unset] [(.ref w_LESS)])) _
    refine XS.astore X3.here hx rfl (hb hby at_72) rfl rfl (l' := #[iv p0, iv p1, iv p2, iv 2, rv w_GREATER, rv w_LESS, rv w_LESS, .unset, .unset, .unset, .unset, .unset, .unset]) rfl ?_
    show Steps p.tables e below (T3.setTop (mkF m 74 #[iv p0, iv p1, iv p2, iv 2, rv w_GREATER, rv w_LESS, rv w_LESS, .unset, .unset, .unset, .unset, .unset, .unset] [])) _
    refine XS.aload X3.here hx rfl (hb hby at_74) rfl rfl ?_
    show Steps p.tables e below (T3.setTop (mkF m 76 #[iv p0, iv p1, iv p2, iv 2, rv w_GREATER, rv w_LESS, rv w_LESS, .unset, .unset, .unset, .unset, .unset, .unset] [(.ref w_LESS)])) _
    refine XS.aload X3.here hx rfl (hb hby at_76) rfl rfl ?_
    show Steps p.tables e below (T3.setTop (mkF m 78 #[iv p0, iv p1, iv p2, iv 2, rv w_GREATER, rv w_LESS, rv w_LESS, .unset, .unset, .unset, .unset, .unset, .unset] [(.ref w_LESS), (.ref w_LESS)])) _
    refine Jvm.RoadKit.acmp (g := (mkF m 78 #[iv p0, iv p1, iv p2, iv 2, rv w_GREATER, rv w_LESS, rv w_LESS, .unset, .unset, .unset, .unset, .unset, .unset] [(.ref w_LESS), (.ref w_LESS)])) X3 hx rfl rfl rfl (pc0 := 78) (pc' := 81) (same := true) rfl (hb hby at_78) rfl (decide_eq_true rfl) (by decide) (by decide) ?_
    show Steps p.tables e below (T3.setTop (mkF m 81 #[iv p0, iv p1, iv p2, iv 2, rv w_GREATER, rv w_LESS, rv w_LESS, .unset, .unset, .unset, .unset, .unset, .unset] [])) _
    refine XS.iconst X3.here hx rfl (hb hby at_81) ?_
    show Steps p.tables e below (T3.setTop (mkF m 82 #[iv p0, iv p1, iv p2, iv 2, rv w_GREATER, rv w_LESS, rv w_LESS, .unset, .unset, .unset, .unset, .unset, .unset] [(.int 1)])) _
    refine XS.goto X3.here hx rfl (pc0 := 82) (pc' := 86) rfl (hb hby at_82) (by decide) (by decide) ?_
    show Steps p.tables e below (T3.setTop (mkF m 86 #[iv p0, iv p1, iv p2, iv 2, rv w_GREATER, rv w_LESS, rv w_LESS, .unset, .unset, .unset, .unset, .unset, .unset] [(.int 1)])) _
    refine XS.istore X3.here hx rfl (hb hby at_86) rfl (l' := #[iv p0, iv p1, iv p2, iv 2, rv w_GREATER, rv w_LESS, rv w_LESS, iv 1, .unset, .unset, .unset, .unset, .unset]) rfl ?_
    show Steps p.tables e below (T3.setTop (mkF m 88 #[iv p0, iv p1, iv p2, iv 2, rv w_GREATER, rv w_LESS, rv w_LESS, iv 1, .unset, .unset, .unset, .unset, .unset] [])) _
    refine XS.aload X3.here hx rfl (hb hby at_88) rfl rfl ?_
    show Steps p.tables e below (T3.setTop (mkF m 90 #[iv p0, iv p1, iv p2, iv 2, rv w_GREATER, rv w_LESS, rv w_LESS, iv 1, .unset, .unset, .unset, .unset, .unset] [(.ref w_LESS)])) _
    refine XS.ifnullNo X3.here hx rfl (hb hby at_90) rfl ?_
    show Steps p.tables e below (T3.setTop (mkF m 93 #[iv p0, iv p1, iv p2, iv 2, rv w_GREATER, rv w_LESS, rv w_LESS, iv 1, .unset, .unset, .unset, .unset, .unset] [])) _
    refine XS.aload X3.here hx rfl (hb hby at_93) rfl rfl ?_
    show Steps p.tables e below (T3.setTop (mkF m 95 #[iv p0, iv p1, iv p2, iv 2, rv w_GREATER, rv w_LESS, rv w_LESS, iv 1, .unset, .unset, .unset, .unset, .unset] [(.ref w_LESS)])) _
    refine st4.trans ?_
    show Steps p.tables e below (T4.setTop (mkF m 98 #[iv p0, iv p1, iv p2, iv 2, rv w_GREATER, rv w_LESS, rv w_LESS, iv 1, .unset, .unset, .unset, .unset, .unset] [(.ref w_GREATER)])) _
    refine XS.aload X4.here hx rfl (hb hby at_98) rfl rfl ?_
    show Steps p.tables e below (T4.setTop (mkF m 100 #[iv p0, iv p1, iv p2, iv 2, rv w_GREATER, rv w_LESS, rv w_LESS, iv 1, .unset, .unset, .unset, .unset, .unset] [(.ref w_GREATER), (.ref w_GREATER)])) _
    refine Jvm.RoadKit.acmp (g := (mkF m 100 #[iv p0, iv p1, iv p2, iv 2, rv w_GREATER, rv w_LESS, rv w_LESS, iv 1, .unset, .unset, .unset, .unset, .unset] [(.ref w_GREATER), (.ref w_GREATER)])) X4 hx rfl rfl rfl (pc0 := 100) (pc' := 103) (same := true) rfl (hb hby at_100) rfl (decide_eq_true rfl) (by decide) (by decide) ?_
    show Steps p.tables e below (T4.setTop (mkF m 103 #[iv p0, iv p1, iv p2, iv 2, rv w_GREATER, rv w_LESS, rv w_LESS, iv 1, .unset, .unset, .unset, .unset, .unset] [])) _
    refine XS.iconst X4.here hx rfl (hb hby at_103) ?_
    show Steps p.tables e below (T4.setTop (mkF m 104 #[iv p0, iv p1, iv p2, iv 2, rv w_GREATER, rv w_LESS, rv w_LESS, iv 1, .unset, .unset, .unset, .unset, .unset] [(.int 1)])) _
    refine XS.goto X4.here hx rfl (pc0 := 104) (pc' := 108) rfl (hb hby at_104) (by decide) (by decide) ?_
    show Steps p.tables e below (T4.setTop (mkF m 108 #[iv p0, iv p1, iv p2, iv 2, rv w_GREATER, rv w_LESS, rv w_LESS, iv 1, .unset, .unset, .unset, .unset, .unset] [(.int 1)])) _
    refine XS.istore X4.here hx rfl (hb hby at_108) rfl (l' := #[iv p0, iv p1, iv p2, iv 2, rv w_GREATER, rv w_LESS, rv w_LESS, iv 1, iv 1, .unset, .unset, .unset, .unset]) rfl ?_
    show Steps p.tables e below (T4.setTop (mkF m 110 #[iv p0, iv p1, iv p2, iv 2, rv w_GREATER, rv w_LESS, rv w_LESS, iv 1, iv 1, .unset, .unset, .unset, .unset] [])) _
    refine XS.iloadN X4.here hx rfl (hb hby at_110) rfl ?_
    show Steps p.tables e below (T4.setTop (mkF m 111 #[iv p0, iv p1, iv p2, iv 2, rv w_GREATER, rv w_LESS, rv w_LESS, iv 1, iv 1, .unset, .unset, .unset, .unset] [(.int p1)])) _
    refine XS.iloadN X4.here hx rfl (hb hby at_111) rfl ?_
    show Steps p.tables e below (T4.setTop (mkF m 112 #[iv p0, iv p1, iv p2, iv 2, rv w_GREATER, rv w_LESS, rv w_LESS, iv 1, iv 1, .unset, .unset, .unset, .unset] [(.int p2), (.int p1)])) _
    refine st5 _ ?_
    show Steps p.tables e below (T5.setTop (mkF m 115 #[iv p0, iv p1, iv p2, iv 2, rv w_GREATER, rv w_LESS, rv w_LESS, iv 1, iv 1, .unset, .unset, .unset, .unset] [(.int 1)])) _
    refine st6 _ ?_
    show Steps p.tables e below (T6.setTop (mkF m 118 #[iv p0, iv p1, iv p2, iv 2, rv w_GREATER, rv w_LESS, rv w_LESS, iv 1, iv 1, .unset, .unset, .unset, .unset] [(.ref w_GREATER)])) _
    refine XS.astore X6.here hx rfl (hb hby at_118) rfl rfl (l' := #[iv p0, iv p1, iv p2, iv 2, rv w_GREATER, rv w_LESS, rv w_LESS, iv 1, iv 1, rv w_GREATER, .unset, .unset, .unset]) rfl ?_
    show Steps p.tables e below (T6.setTop (mkF m 120 #[iv p0, iv p1, iv p2, iv 2, rv w_GREATER, rv w_LESS, rv w_LESS, iv 1, iv 1, rv w_GREATER, .unset, .unset, .unset] [])) _
    refine XS.iloadN X6.here hx rfl (hb hby at_120) rfl ?_
    show Steps p.tables e below (T6.setTop (mkF m 121 #[iv p0, iv p1, iv p2, iv 2, rv w_GREATER, rv w_LESS, rv w_LESS, iv 1, iv 1, rv w_GREATER, .unset, .unset, .unset] [(.int p2)])) _
    refine XS.iloadN X6.here hx rfl (hb hby at_121) rfl ?_
    show Steps p.tables e below (T6.setTop (mkF m 122 #[iv p0, iv p1, iv p2, iv 2, rv w_GREATER, rv w_LESS, rv w_LESS, iv 1, iv 1, rv w_GREATER, .unset, .unset, .unset] [(.int p1), (.int p2)])) _
    refine st7 _ ?_
    show Steps p.tables e below (T7.setTop (mkF m 125 #[iv p0, iv p1, iv p2, iv 2, rv w_GREATER, rv w_LESS, rv w_LESS, iv 1, iv 1, rv w_GREATER, .unset, .unset, .unset] [(.int (-1))])) _
    refine st8 _ ?_
    show Steps p.tables e below (T8.setTop (mkF m 128 #[iv p0, iv p1, iv p2, iv 2, rv w_GREATER, rv w_LESS, rv w_LESS, iv 1, iv 1, rv w_GREATER, .unset, .unset, .unset] [(.ref w_LESS)])) _
    refine XS.astore X8.here hx rfl (hb hby at_128) rfl rfl (l' := #[iv p0, iv p1, iv p2, iv 2, rv w_GREATER, rv w_LESS, rv w_LESS, iv 1, iv 1, rv w_GREATER, rv w_LESS, .unset, .unset]) rfl ?_
    show Steps p.tables e below (T8.setTop (mkF m 130 #[iv p0, iv p1, iv p2, iv 2, rv w_GREATER, rv w_LESS, rv w_LESS, iv 1, iv 1, rv w_GREATER, rv w_LESS, .unset, .unset] [])) _
    refine XS.aload X8.here hx rfl (hb hby at_130) rfl rfl ?_
    show Steps p.tables e below (T8.setTop (mkF m 132 #[iv p0, iv p1, iv p2, iv 2, rv w_GREATER, rv w_LESS, rv w_LESS, iv 1, iv 1, rv w_GREATER, rv w_LESS, .unset, .unset] [(.ref w_GREATER)])) _
    refine st9.trans ?_
    show Steps p.tables e below (T9.setTop (mkF m 135 #[iv p0, iv p1, iv p2, iv 2, rv w_GREATER, rv w_LESS, rv w_LESS, iv 1, iv 1, rv w_GREATER, rv w_LESS, .unset, .unset] [(.ref w_LESS)])) _
    refine XS.astore X9.here hx rfl (hb hby at_135) rfl rfl (l' := #[iv p0, iv p1, iv p2, iv 2, rv w_GREATER, rv w_LESS, rv w_LESS, iv 1, iv 1, rv w_GREATER, rv w_LESS, rv w_LESS, .unset]) rfl ?_
    show Steps p.tables e below (T9.setTop (mkF m 137 #[iv p0, iv p1, iv p2, iv 2, rv w_GREATER, rv w_LESS, rv w_LESS, iv 1, iv 1, rv w_GREATER, rv w_LESS, rv w_LESS, .unset] [])) _
    refine XS.aload X9.here hx rfl (hb hby at_137) rfl rfl ?_
    show Steps p.tables e below (T9.setTop (mkF m 139 #[iv p0, iv p1, iv p2, iv 2, rv w_GREATER, rv w_LESS, rv w_LESS, iv 1, iv 1, rv w_GREATER, rv w_LESS, rv w_LESS, .unset] [(.ref w_LESS)])) _
    refine XS.aload X9.here hx rfl (hb hby at_139) rfl rfl ?_
    show Steps p.tables e below (T9.setTop (mkF m 141 #[iv p0, iv p1, iv p2, iv 2, rv w_GREATER, rv w_LESS, rv w_LESS, iv 1, iv 1, rv w_GREATER, rv w_LESS, rv w_LESS, .unset] [(.ref w_LESS), (.ref w_LESS)])) _
    refine Jvm.RoadKit.acmp (g := (mkF m 141 #[iv p0, iv p1, iv p2, iv 2, rv w_GREATER, rv w_LESS, rv w_LESS, iv 1, iv 1, rv w_GREATER, rv w_LESS, rv w_LESS, .unset] [(.ref w_LESS), (.ref w_LESS)])) X9 hx rfl rfl rfl (pc0 := 141) (pc' := 144) (same := true) rfl (hb hby at_141) rfl (decide_eq_true rfl) (by decide) (by decide) ?_
    show Steps p.tables e below (T9.setTop (mkF m 144 #[iv p0, iv p1, iv p2, iv 2, rv w_GREATER, rv w_LESS, rv w_LESS, iv 1, iv 1, rv w_GREATER, rv w_LESS, rv w_LESS, .unset] [])) _
    refine XS.iconst X9.here hx rfl (hb hby at_144) ?_
    show Steps p.tables e below (T9.setTop (mkF m 145 #[iv p0, iv p1, iv p2, iv 2, rv w_GREATER, rv w_LESS, rv w_LESS, iv 1, iv 1, rv w_GREATER, rv w_LESS, rv w_LESS, .unset] [(.int 1)])) _
    refine XS.goto X9.here hx rfl (pc0 := 145) (pc' := 149) rfl (hb hby at_145) (by decide) (by decide) ?_
    show Steps p.tables e below (T9.setTop (mkF m 149 #[iv p0, iv p1, iv p2, iv 2, rv w_GREATER, rv w_LESS, rv w_LESS, iv 1, iv 1, rv w_GREATER, rv w_LESS, rv w_LESS, .unset] [(.int 1)])) _
    refine XS.istore X9.here hx rfl (hb hby at_149) rfl (l' := #[iv p0, iv p1, iv p2, iv 2, rv w_GREATER, rv w_LESS, rv w_LESS, iv 1, iv 1, rv w_GREATER, rv w_LESS, rv w_LESS, iv 1]) rfl ?_
    show Steps p.tables e below (T9.setTop (mkF m 151 #[iv p0, iv p1, iv p2, iv 2, rv w_GREATER, rv w_LESS, rv w_LESS, iv 1, iv 1, rv w_GREATER, rv w_LESS, rv w_LESS, iv 1] [])) _
    refine XS.iload X9.here hx rfl (hb hby at_151) rfl ?_
    show Steps p.tables e below (T9.setTop (mkF m 153 #[iv p0, iv p1, iv p2, iv 2, rv w_GREATER, rv w_LESS, rv w_LESS, iv 1, iv 1, rv w_GREATER, rv w_LESS, rv w_LESS, iv 1] [(.int 1)])) _
    refine XS.ifNo X9.here hx rfl (hb hby at_153) rfl ((if0 _ _).trans (feq (by decide)).1) ?_
    show Steps p.tables e below (T9.setTop (mkF m 156 #[iv p0, iv p1, iv p2, iv 2, rv w_GREATER, rv w_LESS, rv w_LESS, iv 1, iv 1, rv w_GREATER, rv w_LESS, rv w_LESS, iv 1] [])) _
    refine XS.iload X9.here hx rfl (hb hby at_156) rfl ?_
    show Steps p.tables e below (T9.setTop (mkF m 158 #[iv p0, iv p1, iv p2, iv 2, rv w_GREATER, rv w_LESS, rv w_LESS, iv 1, iv 1, rv w_GREATER, rv w_LESS, rv w_LESS, iv 1] [(.int 1)])) _
    refine XS.ifNo X9.here hx rfl (hb hby at_158) rfl ((if0 _ _).trans (feq (by decide)).1) ?_
    show Steps p.tables e below (T9.setTop (mkF m 161 #[iv p0, iv p1, iv p2, iv 2, rv w_GREATER, rv w_LESS, rv w_LESS, iv 1, iv 1, rv w_GREATER, rv w_LESS, rv w_LESS, iv 1] [])) _
    refine XS.iload X9.here hx rfl (hb hby at_161) rfl ?_
    show Steps p.tables e below (T9.setTop (mkF m 163 #[iv p0, iv p1, iv p2, iv 2, rv w_GREATER, rv w_LESS, rv w_LESS, iv 1, iv 1, rv w_GREATER, rv w_LESS, rv w_LESS, iv 1] [(.int 1)])) _
    refine XS.ifNo X9.here hx rfl (hb hby at_163) rfl ((if0 _ _).trans (feq (by decide)).1) ?_
    show Steps p.tables e below (T9.setTop (mkF m 166 #[iv p0, iv p1, iv p2, iv 2, rv w_GREATER, rv w_LESS, rv w_LESS, iv 1, iv 1, rv w_GREATER, rv w_LESS, rv w_LESS, iv 1] [])) _
    refine XS.iconst X9.here hx rfl (hb hby at_166) ?_
    show Steps p.tables e below (T9.setTop (mkF m 167 #[iv p0, iv p1, iv p2, iv 2, rv w_GREATER, rv w_LESS, rv w_LESS, iv 1, iv 1, rv w_GREATER, rv w_LESS, rv w_LESS, iv 1] [(.int 1)])) _
    refine XS.goto X9.here hx rfl (pc0 := 167) (pc' := 171) rfl (hb hby at_167) (by decide) (by decide) ?_
    show Steps p.tables e below (T9.setTop (mkF m 171 #[iv p0, iv p1, iv p2, iv 2, rv w_GREATER, rv w_LESS, rv w_LESS, iv 1, iv 1, rv w_GREATER, rv w_LESS, rv w_LESS, iv 1] [(.int 1)])) _
    exact retN X9 hx (t := .boolean) Bd.returns (by simp) (hb hby at_171) hr
  · show own_law8_Q Z w_LESS w_EQUAL w_GREATER w_UNORDERED p0 p1 p2 h0 n0 _ T9.heap _
    rw [e9]
    exact ⟨rfl, N9, trivial⟩
theorem own_law9_ef (m : MethodId) (p0 : Int32) (p1 : Int32) (p2 : Int32) : entryFrame m #[(.int p0), (.int p1), (.int p2)] maxLocals = mkF m 0 #[iv p0, iv p1, iv p2, .unset, .unset, .unset, .unset, .unset, .unset, .unset, .unset, .unset, .unset] [] := by first | (simp [entryFrame, mkF, argsToLocals, Value.category, maxLocals]; done) | rfl
def own_law9_Q (Z : State) (w_LESS : Addr) (w_EQUAL : Addr) (w_GREATER : Addr) (w_UNORDERED : Addr) (p0 : Int32) (p1 : Int32) (p2 : Int32) (h0 : Heap) (n0 : Nat) (v : Option Value) (h : Heap) (L : List Loc) : Prop := v = some (.int 1) ∧ Fr n0 L ∧ True
set_option maxRecDepth 65536 in
set_option maxHeartbeats 40000000 in
theorem own_law9 (l : Launch) (Z : State) (a0 : Array Value) (hw : ∀ d ∈ tables_1, d.before a0 Z = true) (ws : List Jvm.Cond) (w_LESS : Addr) (w_EQUAL : Addr) (w_GREATER : Addr) (w_UNORDERED : Addr) (p0 : Int32) (p1 : Int32) (p2 : Int32) (h0 : Heap) (n0 : Nat) (O0 : Old Z n0 h0) (U_LESS : own_En Z Z.heap "com/example/bindweave/bindweave/expression/Order" "LESS" "Lcom/example/bindweave/bindweave/expression/Order;" w_LESS (0 : Int32)) (U_EQUAL : own_En Z Z.heap "com/example/bindweave/bindweave/expression/Order" "EQUAL" "Lcom/example/bindweave/bindweave/expression/Order;" w_EQUAL (1 : Int32)) (U_GREATER : own_En Z Z.heap "com/example/bindweave/bindweave/expression/Order" "GREATER" "Lcom/example/bindweave/bindweave/expression/Order;" w_GREATER (2 : Int32)) (U_UNORDERED : own_En Z Z.heap "com/example/bindweave/bindweave/expression/Order" "UNORDERED" "Lcom/example/bindweave/bindweave/expression/Order;" w_UNORDERED (3 : Int32)) (hk : (p0 &&& (3 : Int32)) = (3 : Int32) ∧ p1 < p2) :
    MetFree l x (head1 (Jvm.Cond.code x code maxLocals ret :: ws) room_1) (fun ar U => ar = #[(.int p0), (.int p1), (.int p2)] ∧ Z.Warmed39 U.vm ∧ U.heap = h0) (fun _ _ _ _ _ => True) (fun _ U oc U' => ∃ v L, oc = .returned v ∧ own_law9_Q Z w_LESS w_EQUAL w_GREATER w_UNORDERED p0 p1 p2 h0 n0 v U'.heap L ∧ FrameEnd U oc U' L 0 0) := by
  refine MetFree.of_bodySF (plainFor_of_name own_pn1) hisR ?_
  intro p e s m args below meth c s₁ Bd hml0 hP hK
  obtain ⟨rfl, hZ, hh⟩ := hP
  have hx := Bd.exec
  have hby := Bd.bytes
  have hml : c.maxLocals = 13 := hml0
  have hown : s.vm.findClass "com/example/bindweave/bindweave/expression/OrderReversedPinLaw" = some m.cls := findClass_of_methodNamed Bd.named
  have hnm := (name_of_methodNamed Bd.named Bd.method).1
  have X0 : Stand p l e room_1 s m #[(.int p0), (.int p1), (.int p2)] below meth c s₁ [] 0 0 := Stand.of_body Bd
  have e0 : s₁.heap = h0 := by rw [← hh, Bd.state]; rfl
  have N0 := Fr.nil n0
  have pre0 : ∀ t, Steps p.tables e below (s₁.setTop (mkF m 0 #[iv p0, iv p1, iv p2, .unset, .unset, .unset, .unset, .unset, .unset, .unset, .unset, .unset, .unset] [])) t → Steps p.tables e below (s₁.setTop (entryFrame m #[(.int p0), (.int p1), (.int p2)] maxLocals)) t := fun t k => castTop (own_law9_ef m p0 p1 p2) k
  obtain ⟨T1, X1, e1, st1⟩ := getS2 X0 hx hZ hown (host := "") (Or.inl (hw _ (own_m 21 rfl))) Via.refl e0 (U_UNORDERED.1.ext O0.2) (g := (mkF m 57 #[iv p0, iv p1, iv p2, iv 3, .unset, .unset, .unset, .unset, .unset, .unset, .unset, .unset, .unset] [])) rfl (hb hby at_57)
  obtain ⟨T2, X2, e2, st2⟩ := getS2 X1 hx hZ hown (host := "") (Or.inl (hw _ (own_m 21 rfl))) Via.refl e1 (U_UNORDERED.1.ext O0.2) (g := (mkF m 62 #[iv p0, iv p1, iv p2, iv 3, rv w_UNORDERED, .unset, .unset, .unset, .unset, .unset, .unset, .unset, .unset] [])) rfl (hb hby at_62)
  obtain ⟨cq3, kq3, q3a, q3b, q3c⟩ := isOf hZ e2 (U_UNORDERED.2.1.ext O0.2)
  obtain ⟨_, _, ⟨T3, L3, k3, n3⟩, -, X3, ⟨Lc3, hQ3, l3, y3, z3⟩, st3⟩ := X2.virtualBack hx (y := (⟨"com/example/bindweave/bindweave/expression/Order", "reversed", "()Lcom/example/bindweave/bindweave/expression/Order;"⟩ : MethodName)) (z := (⟨"com/example/bindweave/bindweave/expression/Order", "reversed", "()Lcom/example/bindweave/bindweave/expression/Order;"⟩ : MethodName)) hown (mvT hZ (hw _ (own_m 5 rfl))) (mvT hZ (hw _ (own_m 6 rfl))) (notFace_of_selects (args := #[]) (mvT hZ (hw _ (own_m 8 rfl)))) (mvT hZ (hw _ (own_m 8 rfl))) (mvT hZ (hw _ (own_m 7 rfl))) (by decide) (backOf (W := 0) (own_rev_UNORDERED l Z a0 hw [] w_LESS w_EQUAL w_GREATER w_UNORDERED  h0 n0 O0 U_LESS U_EQUAL U_GREATER U_UNORDERED ) hZ (hw _ (own_m 9 rfl)) (hw _ (own_m 1 rfl)) (by decide) (by decide)) q3a q3c (g := (mkF m 69 #[iv p0, iv p1, iv p2, iv 3, rv w_UNORDERED, rv w_UNORDERED, .unset, .unset, .unset, .unset, .unset, .unset, .unset] [(.ref w_UNORDERED)])) rfl (by rw [hml]; rfl) (Steps.refl _) (argsL := []) (rest := []) (lenOf own_pd0 rfl) rfl (by show 2 * 0 + _ ≤ _; exact Nat.le_of_eq rfl) (hb hby at_69) (fun _ _ => ⟨rfl, e2, (by decide : 0 + 0 ≤ _), (by decide : 0 + 0 ≤ _)⟩)
  dsimp only [Pt.U, Pt.locs, Pt.cells, Pt.slots] at X3 l3 y3 z3 st3 hQ3
  subst l3 y3 z3
  obtain ⟨rfl, N3q, e3⟩ := hQ3
  have N3 := Fr.app N0 N3q
  obtain ⟨cq4, kq4, q4a, q4b, q4c⟩ := isOf hZ e3 (U_UNORDERED.2.1.ext O0.2)
  obtain ⟨_, _, ⟨T4, L4, k4, n4⟩, -, X4, ⟨Lc4, hQ4, l4, y4, z4⟩, st4⟩ := X3.virtualBack hx (y := (⟨"com/example/bindweave/bindweave/expression/Order", "reversed", "()Lcom/example/bindweave/bindweave/expression/Order;"⟩ : MethodName)) (z := (⟨"com/example/bindweave/bindweave/expression/Order", "reversed", "()Lcom/example/bindweave/bindweave/expression/Order;"⟩ : MethodName)) hown (mvT hZ (hw _ (own_m 5 rfl))) (mvT hZ (hw _ (own_m 6 rfl))) (notFace_of_selects (args := #[]) (mvT hZ (hw _ (own_m 8 rfl)))) (mvT hZ (hw _ (own_m 8 rfl))) (mvT hZ (hw _ (own_m 7 rfl))) (by decide) (backOf (W := 0) (own_rev_UNORDERED l Z a0 hw [] w_LESS w_EQUAL w_GREATER w_UNORDERED  h0 n0 O0 U_LESS U_EQUAL U_GREATER U_UNORDERED ) hZ (hw _ (own_m 9 rfl)) (hw _ (own_m 1 rfl)) (by decide) (by decide)) q4a q4c (g := (mkF m 95 #[iv p0, iv p1, iv p2, iv 3, rv w_UNORDERED, rv w_UNORDERED, rv w_UNORDERED, iv 1, .unset, .unset, .unset, .unset, .unset] [(.ref w_UNORDERED)])) rfl (by rw [hml]; rfl) (Steps.refl _) (argsL := []) (rest := []) (lenOf own_pd0 rfl) rfl (by show 2 * 0 + _ ≤ _; exact Nat.le_of_eq rfl) (hb hby at_95) (fun _ _ => ⟨rfl, e3, (by decide : 0 + 0 ≤ _), (by decide : 0 + 0 ≤ _)⟩)
  dsimp only [Pt.U, Pt.locs, Pt.cells, Pt.slots] at X4 l4 y4 z4 st4 hQ4
  subst l4 y4 z4
  obtain ⟨rfl, N4q, e4⟩ := hQ4
  have N4 := Fr.app N3 N4q
  obtain ⟨_, _, ⟨T5, L5, k5, n5⟩, -, X5, ⟨Lc5, hQ5, l5, y5, z5⟩, st5⟩ := Jvm.LawKit.callS X4 hx (y := (⟨"com/example/bindweave/bindweave/expression/OrderReversedPinLaw", "sign", "(II)I"⟩ : MethodName)) hown (mvT hZ (hw _ (own_m 12 rfl))) (mvT hZ (hw _ (own_m 13 rfl))) (mvT hZ (hw _ (own_m 14 rfl))) (mvT hZ (hw _ (own_m 15 rfl))) (by decide) (backOf (W := 0) (own_sg_L l Z a0 hw [] w_LESS w_EQUAL w_GREATER w_UNORDERED p1 p2 h0 n0 O0 U_LESS U_EQUAL U_GREATER U_UNORDERED hk.2) hZ (hw _ (own_m 15 rfl)) (hw _ (own_m 14 rfl)) (by decide) (by decide)) (g := (mkF m 112 #[iv p0, iv p1, iv p2, iv 3, rv w_UNORDERED, rv w_UNORDERED, rv w_UNORDERED, iv 1, iv 1, .unset, .unset, .unset, .unset] [(.int p2), (.int p1)])) rfl (by rw [hml]; rfl) (argsL := [(.int p1), (.int p2)]) (rest := []) (lenOf own_pd1 rfl) rfl (by show 2 * 0 + _ ≤ _; exact Nat.le_of_eq rfl) (hb hby at_112) (fun _ _ => ⟨rfl, e4, (by decide : 0 + 0 ≤ _), (by decide : 0 + 0 ≤ _)⟩)
  dsimp only [Pt.U, Pt.locs, Pt.cells, Pt.slots] at X5 l5 y5 z5 st5 hQ5
  subst l5 y5 z5
  obtain ⟨rfl, N5q, e5⟩ := hQ5
  have N5 := Fr.app N4 N5q
  obtain ⟨_, _, ⟨T6, L6, k6, n6⟩, -, X6, ⟨Lc6, hQ6, l6, y6, z6⟩, st6⟩ := Jvm.LawKit.callS X5 hx (y := (⟨"com/example/bindweave/bindweave/expression/Order", "of", "(I)Lcom/example/bindweave/bindweave/expression/Order;"⟩ : MethodName)) hown (mvT hZ (hw _ (own_m 16 rfl))) (mvT hZ (hw _ (own_m 17 rfl))) (mvT hZ (hw _ (own_m 1 rfl))) (mvT hZ (hw _ (own_m 18 rfl))) (by decide) (backOf (W := 0) (own_of_L l Z a0 hw [] w_LESS w_EQUAL w_GREATER w_UNORDERED (-1 : Int32) h0 n0 O0 U_LESS U_EQUAL U_GREATER U_UNORDERED (by decide)) hZ (hw _ (own_m 18 rfl)) (hw _ (own_m 1 rfl)) (by decide) (by decide)) (g := (mkF m 115 #[iv p0, iv p1, iv p2, iv 3, rv w_UNORDERED, rv w_UNORDERED, rv w_UNORDERED, iv 1, iv 1, .unset, .unset, .unset, .unset] [(.int (-1))])) rfl (by rw [hml]; rfl) (argsL := [(.int (-1))]) (rest := []) (lenOf own_pd2 rfl) rfl (by show 2 * 0 + _ ≤ _; exact Nat.le_of_eq rfl) (hb hby at_115) (fun _ _ => ⟨rfl, e5, (by decide : 0 + 0 ≤ _), (by decide : 0 + 0 ≤ _)⟩)
  dsimp only [Pt.U, Pt.locs, Pt.cells, Pt.slots] at X6 l6 y6 z6 st6 hQ6
  subst l6 y6 z6
  obtain ⟨rfl, N6q, e6⟩ := hQ6
  have N6 := Fr.app N5 N6q
  obtain ⟨_, _, ⟨T7, L7, k7, n7⟩, -, X7, ⟨Lc7, hQ7, l7, y7, z7⟩, st7⟩ := Jvm.LawKit.callS X6 hx (y := (⟨"com/example/bindweave/bindweave/expression/OrderReversedPinLaw", "sign", "(II)I"⟩ : MethodName)) hown (mvT hZ (hw _ (own_m 12 rfl))) (mvT hZ (hw _ (own_m 13 rfl))) (mvT hZ (hw _ (own_m 14 rfl))) (mvT hZ (hw _ (own_m 15 rfl))) (by decide) (backOf (W := 0) (own_sg_G l Z a0 hw [] w_LESS w_EQUAL w_GREATER w_UNORDERED p2 p1 h0 n0 O0 U_LESS U_EQUAL U_GREATER U_UNORDERED (own_asym hk.2) hk.2) hZ (hw _ (own_m 15 rfl)) (hw _ (own_m 14 rfl)) (by decide) (by decide)) (g := (mkF m 122 #[iv p0, iv p1, iv p2, iv 3, rv w_UNORDERED, rv w_UNORDERED, rv w_UNORDERED, iv 1, iv 1, rv w_LESS, .unset, .unset, .unset] [(.int p1), (.int p2)])) rfl (by rw [hml]; rfl) (argsL := [(.int p2), (.int p1)]) (rest := []) (lenOf own_pd1 rfl) rfl (by show 2 * 0 + _ ≤ _; exact Nat.le_of_eq rfl) (hb hby at_122) (fun _ _ => ⟨rfl, e6, (by decide : 0 + 0 ≤ _), (by decide : 0 + 0 ≤ _)⟩)
  dsimp only [Pt.U, Pt.locs, Pt.cells, Pt.slots] at X7 l7 y7 z7 st7 hQ7
  subst l7 y7 z7
  obtain ⟨rfl, N7q, e7⟩ := hQ7
  have N7 := Fr.app N6 N7q
  obtain ⟨_, _, ⟨T8, L8, k8, n8⟩, -, X8, ⟨Lc8, hQ8, l8, y8, z8⟩, st8⟩ := Jvm.LawKit.callS X7 hx (y := (⟨"com/example/bindweave/bindweave/expression/Order", "of", "(I)Lcom/example/bindweave/bindweave/expression/Order;"⟩ : MethodName)) hown (mvT hZ (hw _ (own_m 16 rfl))) (mvT hZ (hw _ (own_m 17 rfl))) (mvT hZ (hw _ (own_m 1 rfl))) (mvT hZ (hw _ (own_m 18 rfl))) (by decide) (backOf (W := 0) (own_of_G l Z a0 hw [] w_LESS w_EQUAL w_GREATER w_UNORDERED (1 : Int32) h0 n0 O0 U_LESS U_EQUAL U_GREATER U_UNORDERED (by decide) (by decide)) hZ (hw _ (own_m 18 rfl)) (hw _ (own_m 1 rfl)) (by decide) (by decide)) (g := (mkF m 125 #[iv p0, iv p1, iv p2, iv 3, rv w_UNORDERED, rv w_UNORDERED, rv w_UNORDERED, iv 1, iv 1, rv w_LESS, .unset, .unset, .unset] [(.int 1)])) rfl (by rw [hml]; rfl) (argsL := [(.int 1)]) (rest := []) (lenOf own_pd2 rfl) rfl (by show 2 * 0 + _ ≤ _; exact Nat.le_of_eq rfl) (hb hby at_125) (fun _ _ => ⟨rfl, e7, (by decide : 0 + 0 ≤ _), (by decide : 0 + 0 ≤ _)⟩)
  dsimp only [Pt.U, Pt.locs, Pt.cells, Pt.slots] at X8 l8 y8 z8 st8 hQ8
  subst l8 y8 z8
  obtain ⟨rfl, N8q, e8⟩ := hQ8
  have N8 := Fr.app N7 N8q
  obtain ⟨cq9, kq9, q9a, q9b, q9c⟩ := isOf hZ e8 (U_LESS.2.1.ext O0.2)
  obtain ⟨_, _, ⟨T9, L9, k9, n9⟩, -, X9, ⟨Lc9, hQ9, l9, y9, z9⟩, st9⟩ := X8.virtualBack hx (y := (⟨"com/example/bindweave/bindweave/expression/Order", "reversed", "()Lcom/example/bindweave/bindweave/expression/Order;"⟩ : MethodName)) (z := (⟨"com/example/bindweave/bindweave/expression/Order", "reversed", "()Lcom/example/bindweave/bindweave/expression/Order;"⟩ : MethodName)) hown (mvT hZ (hw _ (own_m 5 rfl))) (mvT hZ (hw _ (own_m 6 rfl))) (notFace_of_selects (args := #[]) (mvT hZ (hw _ (own_m 8 rfl)))) (mvT hZ (hw _ (own_m 8 rfl))) (mvT hZ (hw _ (own_m 7 rfl))) (by decide) (backOf (W := 0) (own_rev_LESS l Z a0 hw [] w_LESS w_EQUAL w_GREATER w_UNORDERED  h0 n0 O0 U_LESS U_EQUAL U_GREATER U_UNORDERED ) hZ (hw _ (own_m 9 rfl)) (hw _ (own_m 1 rfl)) (by decide) (by decide)) q9a q9c (g := (mkF m 132 #[iv p0, iv p1, iv p2, iv 3, rv w_UNORDERED, rv w_UNORDERED, rv w_UNORDERED, iv 1, iv 1, rv w_LESS, rv w_GREATER, .unset, .unset] [(.ref w_LESS)])) rfl (by rw [hml]; rfl) (Steps.refl _) (argsL := []) (rest := []) (lenOf own_pd0 rfl) rfl (by show 2 * 0 + _ ≤ _; exact Nat.le_of_eq rfl) (hb hby at_132) (fun _ _ => ⟨rfl, e8, (by decide : 0 + 0 ≤ _), (by decide : 0 + 0 ≤ _)⟩)
  dsimp only [Pt.U, Pt.locs, Pt.cells, Pt.slots] at X9 l9 y9 z9 st9 hQ9
  subst l9 y9 z9
  obtain ⟨rfl, N9q, e9⟩ := hQ9
  have N9 := Fr.app N8 N9q
  obtain ⟨fs, hr, hrun, hended, hW, hsame⟩ := X9.leave (v := some (.int 1)) (fun h => by rw [Bd.returns] at h; cases h)
  refine ⟨_, _, pre0 _ ?_, hrun, hended, _, _, rfl, ?_, ⟨_, rfl⟩, hW, hsame.mono (by decide) (by decide)⟩
  · show Steps p.tables e below (s₁.setTop (mkF m 0 #[iv p0, iv p1, iv p2, .unset, .unset, .unset, .unset, .unset, .unset, .unset, .unset, .unset, .unset] [])) _
    refine XS.iloadN X0.here hx rfl (hb hby at_0) rfl ?_
    show Steps p.tables e below (s₁.setTop (mkF m 1 #[iv p0, iv p1, iv p2, .unset, .unset, .unset, .unset, .unset, .unset, .unset, .unset, .unset, .unset] [(.int p0)])) _
    refine XS.iconst X0.here hx rfl (hb hby at_1) ?_
    show Steps p.tables e below (s₁.setTop (mkF m 2 #[iv p0, iv p1, iv p2, .unset, .unset, .unset, .unset, .unset, .unset, .unset, .unset, .unset, .unset] [(.int 3), (.int p0)])) _
    refine XS.iand X0.here hx rfl (hb hby at_2) rfl ?_
    show Steps p.tables e below (s₁.setTop (mkF m 3 #[iv p0, iv p1, iv p2, .unset, .unset, .unset, .unset, .unset, .unset, .unset, .unset, .unset, .unset] [(.int (p0 &&& (3 : Int32)))])) _
    refine own_top (v' := (.int 3)) (congrArg Value.int hk.1) ?_
    show Steps p.tables e below (s₁.setTop (mkF m 3 #[iv p0, iv p1, iv p2, .unset, .unset, .unset, .unset, .unset, .unset, .unset, .unset, .unset, .unset] [(.int 3)])) _
    refine XS.istoreN X0.here hx rfl (hb hby at_3) rfl (l' := #[iv p0, iv p1, iv p2, iv 3, .unset, .unset, .unset, .unset, .unset, .unset, .unset, .unset, .unset]) rfl ?_
    show Steps p.tables e below (s₁.setTop (mkF m 4 #[iv p0, iv p1, iv p2, iv 3, .unset, .unset, .unset, .unset, .unset, .unset, .unset, .unset, .unset] [])) _
    refine XS.iloadN X0.here hx rfl (hb hby at_4) rfl ?_
    show Steps p.tables e below (s₁.setTop (mkF m 5 #[iv p0, iv p1, iv p2, iv 3, .unset, .unset, .unset, .unset, .unset, .unset, .unset, .unset, .unset] [(.int 3)])) _
    refine XS.ifYes X0.here hx rfl (pc0 := 5) (pc' := 21) rfl (hb hby at_5) rfl ((if0 _ _).trans (feq (by decide)).2) (by decide) (by decide) ?_
    show Steps p.tables e below (s₁.setTop (mkF m 21 #[iv p0, iv p1, iv p2, iv 3, .unset, .unset, .unset, .unset, .unset, .unset, .unset, .unset, .unset] [])) _
    refine XS.iloadN X0.here hx rfl (hb hby at_21) rfl ?_
    show Steps p.tables e below (s₁.setTop (mkF m 22 #[iv p0, iv p1, iv p2, iv 3, .unset, .unset, .unset, .unset, .unset, .unset, .unset, .unset, .unset] [(.int 3)])) _
    refine XS.iconst X0.here hx rfl (hb hby at_22) ?_
    show Steps p.tables e below (s₁.setTop (mkF m 23 #[iv p0, iv p1, iv p2, iv 3, .unset, .unset, .unset, .unset, .unset, .unset, .unset, .unset, .unset] [(.int 1), (.int 3)])) _
    refine XS.icmpYes X0.here hx rfl (pc0 := 23) (pc' := 39) rfl (hb hby at_23) rfl (feq (by decide)).2 (by decide) (by decide) ?_
    show Steps p.tables e below (s₁.setTop (mkF m 39 #[iv p0, iv p1, iv p2, iv 3, .unset, .unset, .unset, .unset, .unset, .unset, .unset, .unset, .unset] [])) _
    refine XS.iloadN X0.here hx rfl (hb hby at_39) rfl ?_
    show Steps p.tables e below (s₁.setTop (mkF m 40 #[iv p0, iv p1, iv p2, iv 3, .unset, .unset, .unset, .unset, .unset, .unset, .unset, .unset, .unset] [(.int 3)])) _
    refine XS.iconst X0.here hx rfl (hb hby at_40) ?_
    show Steps p.tables e below (s₁.setTop (mkF m 41 #[iv p0, iv p1, iv p2, iv 3, .unset, .unset, .unset, .unset, .unset, .unset, .unset, .unset, .unset] [(.int 2), (.int 3)])) _
    refine XS.icmpYes X0.here hx rfl (pc0 := 41) (pc' := 57) rfl (hb hby at_41) rfl (feq (by decide)).2 (by decide) (by decide) ?_
    show Steps p.tables e below (s₁.setTop (mkF m 57 #[iv p0, iv p1, iv p2, iv 3, .unset, .unset, .unset, .unset, .unset, .unset, .unset, .unset, .unset] [])) _
    refine st1 _ ?_
    show Steps p.tables e below (T1.setTop (mkF m 60 #[iv p0, iv p1, iv p2, iv 3, .unset, .unset, .unset, .unset, .unset, .unset, .unset, .unset, .unset] [(.ref w_UNORDERED)])) _
    refine XS.astore X1.here hx rfl (hb hby at_60) rfl rfl (l' := #[iv p0, iv p1, iv p2, iv 3, rv w_UNORDERED, .unset, .unset, .unset, .unset, .unset, .unset, .unset, .unset]) rfl ?_
    show Steps p.tables e below (T1.setTop (mkF m 62 #[iv p0, iv p1, iv p2, iv 3, rv w_UNORDERED, .unset, .unset, .unset, .unset, .unset, .unset, .unset, .unset] [])) _
    refine st2 _ ?_
    show Steps p.tables e below (T2.setTop (mkF m 65 #[iv p0, iv p1, iv p2, iv 3, rv w_UNORDERED, .unset, .unset, .unset, .unset, .unset, .unset, .unset, .unset] [(.ref w_UNORDERED)])) _
    refine XS.astore X2.here hx rfl (hb hby at_65) rfl rfl (l' := #[iv p0, iv p1, iv p2, iv 3, rv w_UNORDERED, rv w_UNORDERED, .unset, .unset, .unset, .unset, .unset, .unset, .unset]) rfl ?_
    show Steps p.tables e below (T2.setTop (mkF m 67 #[iv p0, iv p1, iv p2, iv 3, rv w_UNORDERED, rv w_UNORDERED, .unset, .unset, .unset, .unset, .unset, .unset, .unset] [])) _
    refine XS.aload X2.here hx rfl (hb hby at_67) rfl rfl ?_
    show Steps p.tables e below (T2.setTop (mkF m 69 #[iv p0, iv p1, iv p2, iv 3, rv w_UNORDERED, rv w_UNORDERED, .unset, .unset, .unset, .unset, .unset, .unset, .unset] [(.ref w_UNORDERED)])) _
    refine st3.trans ?_
    show Steps p.tables e below (T3.setTop (mkF m 72 #[iv p0, iv p1, iv p2, iv 3, rv w_UNORDERED, rv w_UNORDERED, .unset, .unset, .unset, .unset, .unset, .unset, .unset] [(.ref w_UNORDERED)])) _
    refine XS.astore X3.here hx rfl (hb hby at_72) rfl rfl (l' := #[iv p0, iv p1, iv p2, iv 3, rv w_UNORDERED, rv w_UNORDERED, rv w_UNORDERED, .unset, .unset, .unset, .unset, .unset, .unset]) rfl ?_
    show Steps p.tables e below (T3.setTop (mkF m 74 #[iv p0, iv p1, iv p2, iv 3, rv w_UNORDERED, rv w_UNORDERED, rv w_UNORDERED, .unset, .unset, .unset, .unset, .unset, .unset] [])) _
    refine XS.aload X3.here hx rfl (hb hby at_74) rfl rfl ?_
    show Steps p.tables e below (T3.setTop (mkF m 76 #[iv p0, iv p1, iv p2, iv 3, rv w_UNORDERED, rv w_UNORDERED, rv w_UNORDERED, .unset, .unset, .unset, .unset, .unset, .unset] [(.ref w_UNORDERED)])) _
    refine XS.aload X3.here hx rfl (hb hby at_76) rfl rfl ?_
    show Steps p.tables e below (T3.setTop (mkF m 78 #[iv p0, iv p1, iv p2, iv 3, rv w_UNORDERED, rv w_UNORDERED, rv w_UNORDERED, .unset, .unset, .unset, .unset, .unset, .unset] [(.ref w_UNORDERED), (.ref w_UNORDERED)])) _
    refine Jvm.RoadKit.acmp (g := (mkF m 78 #[iv p0, iv p1, iv p2, iv 3, rv w_UNORDERED, rv w_UNORDERED, rv w_UNORDERED, .unset, .unset, .unset, .unset, .unset, .unset] [(.ref w_UNORDERED), (.ref w_UNORDERED)])) X3 hx rfl rfl rfl (pc0 := 78) (pc' := 81) (same := true) rfl (hb hby at_78) rfl (decide_eq_true rfl) (by decide) (by decide) ?_
    show Steps p.tables e below (T3.setTop (mkF m 81 #[iv p0, iv p1, iv p2, iv 3, rv w_UNORDERED, rv w_UNORDERED, rv w_UNORDERED, .unset, .unset, .unset, .unset, .unset, .unset] [])) _
    refine XS.iconst X3.here hx rfl (hb hby at_81) ?_
    show Steps p.tables e below (T3.setTop (mkF m 82 #[iv p0, iv p1, iv p2, iv 3, rv w_UNORDERED, rv w_UNORDERED, rv w_UNORDERED, .unset, .unset, .unset, .unset, .unset, .unset] [(.int 1)])) _
    refine XS.goto X3.here hx rfl (pc0 := 82) (pc' := 86) rfl (hb hby at_82) (by decide) (by decide) ?_
    show Steps p.tables e below (T3.setTop (mkF m 86 #[iv p0, iv p1, iv p2, iv 3, rv w_UNORDERED, rv w_UNORDERED, rv w_UNORDERED, .unset, .unset, .unset, .unset, .unset, .unset] [(.int 1)])) _
    refine XS.istore X3.here hx rfl (hb hby at_86) rfl (l' := #[iv p0, iv p1, iv p2, iv 3, rv w_UNORDERED, rv w_UNORDERED, rv w_UNORDERED, iv 1, .unset, .unset, .unset, .unset, .unset]) rfl ?_
    show Steps p.tables e below (T3.setTop (mkF m 88 #[iv p0, iv p1, iv p2, iv 3, rv w_UNORDERED, rv w_UNORDERED, rv w_UNORDERED, iv 1, .unset, .unset, .unset, .unset, .unset] [])) _
    refine XS.aload X3.here hx rfl (hb hby at_88) rfl rfl ?_
    show Steps p.tables e below (T3.setTop (mkF m 90 #[iv p0, iv p1, iv p2, iv 3, rv w_UNORDERED, rv w_UNORDERED, rv w_UNORDERED, iv 1, .unset, .unset, .unset, .unset, .unset] [(.ref w_UNORDERED)])) _
    refine XS.ifnullNo X3.here hx rfl (hb hby at_90) rfl ?_
    show Steps p.tables e below (T3.setTop (mkF m 93 #[iv p0, iv p1, iv p2, iv 3, rv w_UNORDERED, rv w_UNORDERED, rv w_UNORDERED, iv 1, .unset, .unset, .unset, .unset, .unset] [])) _
    refine XS.aload X3.here hx rfl (hb hby at_93) rfl rfl ?_
    show Steps p.tables e below (T3.setTop (mkF m 95 #[iv p0, iv p1, iv p2, iv 3, rv w_UNORDERED, rv w_UNORDERED, rv w_UNORDERED, iv 1, .unset, .unset, .unset, .unset, .unset] [(.ref w_UNORDERED)])) _
    refine st4.trans ?_
    show Steps p.tables e below (T4.setTop (mkF m 98 #[iv p0, iv p1, iv p2, iv 3, rv w_UNORDERED, rv w_UNORDERED, rv w_UNORDERED, iv 1, .unset, .unset, .unset, .unset, .unset] [(.ref w_UNORDERED)])) _
    refine XS.aload X4.here hx rfl (hb hby at_98) rfl rfl ?_
    show Steps p.tables e below (T4.setTop (mkF m 100 #[iv p0, iv p1, iv p2, iv 3, rv w_UNORDERED, rv w_UNORDERED, rv w_UNORDERED, iv 1, .unset, .unset, .unset, .unset, .unset] [(.ref w_UNORDERED), (.ref w_UNORDERED)])) _
    refine Jvm.RoadKit.acmp (g := (mkF m 100 #[iv p0, iv p1, iv p2, iv 3, rv w_UNORDERED, rv w_UNORDERED, rv w_UNORDERED, iv 1, .unset, .unset, .unset, .unset, .unset] [(.ref w_UNORDERED), (.ref w_UNORDERED)])) X4 hx rfl rfl rfl (pc0 := 100) (pc' := 103) (same := true) rfl (hb hby at_100) rfl (decide_eq_true rfl) (by decide) (by decide) ?_
    show Steps p.tables e below (T4.setTop (mkF m 103 #[iv p0, iv p1, iv p2, iv 3, rv w_UNORDERED, rv w_UNORDERED, rv w_UNORDERED, iv 1, .unset, .unset, .unset, .unset, .unset] [])) _
    refine XS.iconst X4.here hx rfl (hb hby at_103) ?_
    show Steps p.tables e below (T4.setTop (mkF m 104 #[iv p0, iv p1, iv p2, iv 3, rv w_UNORDERED, rv w_UNORDERED, rv w_UNORDERED, iv 1, .unset, .unset, .unset, .unset, .unset] [(.int 1)])) _
    refine XS.goto X4.here hx rfl (pc0 := 104) (pc' := 108) rfl (hb hby at_104) (by decide) (by decide) ?_
    show Steps p.tables e below (T4.setTop (mkF m 108 #[iv p0, iv p1, iv p2, iv 3, rv w_UNORDERED, rv w_UNORDERED, rv w_UNORDERED, iv 1, .unset, .unset, .unset, .unset, .unset] [(.int 1)])) _
    refine XS.istore X4.here hx rfl (hb hby at_108) rfl (l' := #[iv p0, iv p1, iv p2, iv 3, rv w_UNORDERED, rv w_UNORDERED, rv w_UNORDERED, iv 1, iv 1, .unset, .unset, .unset, .unset]) rfl ?_
    show Steps p.tables e below (T4.setTop (mkF m 110 #[iv p0, iv p1, iv p2, iv 3, rv w_UNORDERED, rv w_UNORDERED, rv w_UNORDERED, iv 1, iv 1, .unset, .unset, .unset, .unset] [])) _
    refine XS.iloadN X4.here hx rfl (hb hby at_110) rfl ?_
    show Steps p.tables e below (T4.setTop (mkF m 111 #[iv p0, iv p1, iv p2, iv 3, rv w_UNORDERED, rv w_UNORDERED, rv w_UNORDERED, iv 1, iv 1, .unset, .unset, .unset, .unset] [(.int p1)])) _
    refine XS.iloadN X4.here hx rfl (hb hby at_111) rfl ?_
    show Steps p.tables e below (T4.setTop (mkF m 112 #[iv p0, iv p1, iv p2, iv 3, rv w_UNORDERED, rv w_UNORDERED, rv w_UNORDERED, iv 1, iv 1, .unset, .unset, .unset, .unset] [(.int p2), (.int p1)])) _
    refine st5 _ ?_
    show Steps p.tables e below (T5.setTop (mkF m 115 #[iv p0, iv p1, iv p2, iv 3, rv w_UNORDERED, rv w_UNORDERED, rv w_UNORDERED, iv 1, iv 1, .unset, .unset, .unset, .unset] [(.int (-1))])) _
    refine st6 _ ?_
    show Steps p.tables e below (T6.setTop (mkF m 118 #[iv p0, iv p1, iv p2, iv 3, rv w_UNORDERED, rv w_UNORDERED, rv w_UNORDERED, iv 1, iv 1, .unset, .unset, .unset, .unset] [(.ref w_LESS)])) _
    refine XS.astore X6.here hx rfl (hb hby at_118) rfl rfl (l' := #[iv p0, iv p1, iv p2, iv 3, rv w_UNORDERED, rv w_UNORDERED, rv w_UNORDERED, iv 1, iv 1, rv w_LESS, .unset, .unset, .unset]) rfl ?_
    show Steps p.tables e below (T6.setTop (mkF m 120 #[iv p0, iv p1, iv p2, iv 3, rv w_UNORDERED, rv w_UNORDERED, rv w_UNORDERED, iv 1, iv 1, rv w_LESS, .unset, .unset, .unset] [])) _
    refine XS.iloadN X6.here hx rfl (hb hby at_120) rfl ?_
    show Steps p.tables e below (T6.setTop (mkF m 121 #[iv p0, iv p1, iv p2, iv 3, rv w_UNORDERED, rv w_UNORDERED, rv w_UNORDERED, iv 1, iv 1, rv w_LESS, .unset, .unset, .unset] [(.int p2)])) _
    refine XS.iloadN X6.here hx rfl (hb hby at_121) rfl ?_
    show Steps p.tables e below (T6.setTop (mkF m 122 #[iv p0, iv p1, iv p2, iv 3, rv w_UNORDERED, rv w_UNORDERED, rv w_UNORDERED, iv 1, iv 1, rv w_LESS, .unset, .unset, .unset] [(.int p1), (.int p2)])) _
    refine st7 _ ?_
    show Steps p.tables e below (T7.setTop (mkF m 125 #[iv p0, iv p1, iv p2, iv 3, rv w_UNORDERED, rv w_UNORDERED, rv w_UNORDERED, iv 1, iv 1, rv w_LESS, .unset, .unset, .unset] [(.int 1)])) _
    refine st8 _ ?_
    show Steps p.tables e below (T8.setTop (mkF m 128 #[iv p0, iv p1, iv p2, iv 3, rv w_UNORDERED, rv w_UNORDERED, rv w_UNORDERED, iv 1, iv 1, rv w_LESS, .unset, .unset, .unset] [(.ref w_GREATER)])) _
    refine XS.astore X8.here hx rfl (hb hby at_128) rfl rfl (l' := #[iv p0, iv p1, iv p2, iv 3, rv w_UNORDERED, rv w_UNORDERED, rv w_UNORDERED, iv 1, iv 1, rv w_LESS, rv w_GREATER, .unset, .unset]) rfl ?_
    show Steps p.tables e below (T8.setTop (mkF m 130 #[iv p0, iv p1, iv p2, iv 3, rv w_UNORDERED, rv w_UNORDERED, rv w_UNORDERED, iv 1, iv 1, rv w_LESS, rv w_GREATER, .unset, .unset] [])) _
    refine XS.aload X8.here hx rfl (hb hby at_130) rfl rfl ?_
    show Steps p.tables e below (T8.setTop (mkF m 132 #[iv p0, iv p1, iv p2, iv 3, rv w_UNORDERED, rv w_UNORDERED, rv w_UNORDERED, iv 1, iv 1, rv w_LESS, rv w_GREATER, .unset, .unset] [(.ref w_LESS)])) _
    refine st9.trans ?_
    show Steps p.tables e below (T9.setTop (mkF m 135 #[iv p0, iv p1, iv p2, iv 3, rv w_UNORDERED, rv w_UNORDERED, rv w_UNORDERED, iv 1, iv 1, rv w_LESS, rv w_GREATER, .unset, .unset] [(.ref w_GREATER)])) _
    refine XS.astore X9.here hx rfl (hb hby at_135) rfl rfl (l' := #[iv p0, iv p1, iv p2, iv 3, rv w_UNORDERED, rv w_UNORDERED, rv w_UNORDERED, iv 1, iv 1, rv w_LESS, rv w_GREATER, rv w_GREATER, .unset]) rfl ?_
    show Steps p.tables e below (T9.setTop (mkF m 137 #[iv p0, iv p1, iv p2, iv 3, rv w_UNORDERED, rv w_UNORDERED, rv w_UNORDERED, iv 1, iv 1, rv w_LESS, rv w_GREATER, rv w_GREATER, .unset] [])) _
    refine XS.aload X9.here hx rfl (hb hby at_137) rfl rfl ?_
    show Steps p.tables e below (T9.setTop (mkF m 139 #[iv p0, iv p1, iv p2, iv 3, rv w_UNORDERED, rv w_UNORDERED, rv w_UNORDERED, iv 1, iv 1, rv w_LESS, rv w_GREATER, rv w_GREATER, .unset] [(.ref w_GREATER)])) _
    refine XS.aload X9.here hx rfl (hb hby at_139) rfl rfl ?_
    show Steps p.tables e below (T9.setTop (mkF m 141 #[iv p0, iv p1, iv p2, iv 3, rv w_UNORDERED, rv w_UNORDERED, rv w_UNORDERED, iv 1, iv 1, rv w_LESS, rv w_GREATER, rv w_GREATER, .unset] [(.ref w_GREATER), (.ref w_GREATER)])) _
    refine Jvm.RoadKit.acmp (g := (mkF m 141 #[iv p0, iv p1, iv p2, iv 3, rv w_UNORDERED, rv w_UNORDERED, rv w_UNORDERED, iv 1, iv 1, rv w_LESS, rv w_GREATER, rv w_GREATER, .unset] [(.ref w_GREATER), (.ref w_GREATER)])) X9 hx rfl rfl rfl (pc0 := 141) (pc' := 144) (same := true) rfl (hb hby at_141) rfl (decide_eq_true rfl) (by decide) (by decide) ?_
    show Steps p.tables e below (T9.setTop (mkF m 144 #[iv p0, iv p1, iv p2, iv 3, rv w_UNORDERED, rv w_UNORDERED, rv w_UNORDERED, iv 1, iv 1, rv w_LESS, rv w_GREATER, rv w_GREATER, .unset] [])) _
    refine XS.iconst X9.here hx rfl (hb hby at_144) ?_
    show Steps p.tables e below (T9.setTop (mkF m 145 #[iv p0, iv p1, iv p2, iv 3, rv w_UNORDERED, rv w_UNORDERED, rv w_UNORDERED, iv 1, iv 1, rv w_LESS, rv w_GREATER, rv w_GREATER, .unset] [(.int 1)])) _
    refine XS.goto X9.here hx rfl (pc0 := 145) (pc' := 149) rfl (hb hby at_145) (by decide) (by decide) ?_
    show Steps p.tables e below (T9.setTop (mkF m 149 #[iv p0, iv p1, iv p2, iv 3, rv w_UNORDERED, rv w_UNORDERED, rv w_UNORDERED, iv 1, iv 1, rv w_LESS, rv w_GREATER, rv w_GREATER, .unset] [(.int 1)])) _
    refine XS.istore X9.here hx rfl (hb hby at_149) rfl (l' := #[iv p0, iv p1, iv p2, iv 3, rv w_UNORDERED, rv w_UNORDERED, rv w_UNORDERED, iv 1, iv 1, rv w_LESS, rv w_GREATER, rv w_GREATER, iv 1]) rfl ?_
    show Steps p.tables e below (T9.setTop (mkF m 151 #[iv p0, iv p1, iv p2, iv 3, rv w_UNORDERED, rv w_UNORDERED, rv w_UNORDERED, iv 1, iv 1, rv w_LESS, rv w_GREATER, rv w_GREATER, iv 1] [])) _
    refine XS.iload X9.here hx rfl (hb hby at_151) rfl ?_
    show Steps p.tables e below (T9.setTop (mkF m 153 #[iv p0, iv p1, iv p2, iv 3, rv w_UNORDERED, rv w_UNORDERED, rv w_UNORDERED, iv 1, iv 1, rv w_LESS, rv w_GREATER, rv w_GREATER, iv 1] [(.int 1)])) _
    refine XS.ifNo X9.here hx rfl (hb hby at_153) rfl ((if0 _ _).trans (feq (by decide)).1) ?_
    show Steps p.tables e below (T9.setTop (mkF m 156 #[iv p0, iv p1, iv p2, iv 3, rv w_UNORDERED, rv w_UNORDERED, rv w_UNORDERED, iv 1, iv 1, rv w_LESS, rv w_GREATER, rv w_GREATER, iv 1] [])) _
    refine XS.iload X9.here hx rfl (hb hby at_156) rfl ?_
    show Steps p.tables e below (T9.setTop (mkF m 158 #[iv p0, iv p1, iv p2, iv 3, rv w_UNORDERED, rv w_UNORDERED, rv w_UNORDERED, iv 1, iv 1, rv w_LESS, rv w_GREATER, rv w_GREATER, iv 1] [(.int 1)])) _
    refine XS.ifNo X9.here hx rfl (hb hby at_158) rfl ((if0 _ _).trans (feq (by decide)).1) ?_
    show Steps p.tables e below (T9.setTop (mkF m 161 #[iv p0, iv p1, iv p2, iv 3, rv w_UNORDERED, rv w_UNORDERED, rv w_UNORDERED, iv 1, iv 1, rv w_LESS, rv w_GREATER, rv w_GREATER, iv 1] [])) _
    refine XS.iload X9.here hx rfl (hb hby at_161) rfl ?_
    show Steps p.tables e below (T9.setTop (mkF m 163 #[iv p0, iv p1, iv p2, iv 3, rv w_UNORDERED, rv w_UNORDERED, rv w_UNORDERED, iv 1, iv 1, rv w_LESS, rv w_GREATER, rv w_GREATER, iv 1] [(.int 1)])) _
    refine XS.ifNo X9.here hx rfl (hb hby at_163) rfl ((if0 _ _).trans (feq (by decide)).1) ?_
    show Steps p.tables e below (T9.setTop (mkF m 166 #[iv p0, iv p1, iv p2, iv 3, rv w_UNORDERED, rv w_UNORDERED, rv w_UNORDERED, iv 1, iv 1, rv w_LESS, rv w_GREATER, rv w_GREATER, iv 1] [])) _
    refine XS.iconst X9.here hx rfl (hb hby at_166) ?_
    show Steps p.tables e below (T9.setTop (mkF m 167 #[iv p0, iv p1, iv p2, iv 3, rv w_UNORDERED, rv w_UNORDERED, rv w_UNORDERED, iv 1, iv 1, rv w_LESS, rv w_GREATER, rv w_GREATER, iv 1] [(.int 1)])) _
    refine XS.goto X9.here hx rfl (pc0 := 167) (pc' := 171) rfl (hb hby at_167) (by decide) (by decide) ?_
    show Steps p.tables e below (T9.setTop (mkF m 171 #[iv p0, iv p1, iv p2, iv 3, rv w_UNORDERED, rv w_UNORDERED, rv w_UNORDERED, iv 1, iv 1, rv w_LESS, rv w_GREATER, rv w_GREATER, iv 1] [(.int 1)])) _
    exact retN X9 hx (t := .boolean) Bd.returns (by simp) (hb hby at_171) hr
  · show own_law9_Q Z w_LESS w_EQUAL w_GREATER w_UNORDERED p0 p1 p2 h0 n0 _ T9.heap _
    rw [e9]
    exact ⟨rfl, N9, trivial⟩
theorem own_law10_ef (m : MethodId) (p0 : Int32) (p1 : Int32) (p2 : Int32) : entryFrame m #[(.int p0), (.int p1), (.int p2)] maxLocals = mkF m 0 #[iv p0, iv p1, iv p2, .unset, .unset, .unset, .unset, .unset, .unset, .unset, .unset, .unset, .unset] [] := by first | (simp [entryFrame, mkF, argsToLocals, Value.category, maxLocals]; done) | rfl
def own_law10_Q (Z : State) (w_LESS : Addr) (w_EQUAL : Addr) (w_GREATER : Addr) (w_UNORDERED : Addr) (p0 : Int32) (p1 : Int32) (p2 : Int32) (h0 : Heap) (n0 : Nat) (v : Option Value) (h : Heap) (L : List Loc) : Prop := v = some (.int 1) ∧ Fr n0 L ∧ True
set_option maxRecDepth 65536 in
set_option maxHeartbeats 40000000 in
theorem own_law10 (l : Launch) (Z : State) (a0 : Array Value) (hw : ∀ d ∈ tables_1, d.before a0 Z = true) (ws : List Jvm.Cond) (w_LESS : Addr) (w_EQUAL : Addr) (w_GREATER : Addr) (w_UNORDERED : Addr) (p0 : Int32) (p1 : Int32) (p2 : Int32) (h0 : Heap) (n0 : Nat) (O0 : Old Z n0 h0) (U_LESS : own_En Z Z.heap "com/example/bindweave/bindweave/expression/Order" "LESS" "Lcom/example/bindweave/bindweave/expression/Order;" w_LESS (0 : Int32)) (U_EQUAL : own_En Z Z.heap "com/example/bindweave/bindweave/expression/Order" "EQUAL" "Lcom/example/bindweave/bindweave/expression/Order;" w_EQUAL (1 : Int32)) (U_GREATER : own_En Z Z.heap "com/example/bindweave/bindweave/expression/Order" "GREATER" "Lcom/example/bindweave/bindweave/expression/Order;" w_GREATER (2 : Int32)) (U_UNORDERED : own_En Z Z.heap "com/example/bindweave/bindweave/expression/Order" "UNORDERED" "Lcom/example/bindweave/bindweave/expression/Order;" w_UNORDERED (3 : Int32)) (hk : (p0 &&& (3 : Int32)) = (3 : Int32) ∧ (¬ p1 < p2 ∧ ¬ p2 < p1)) :
    MetFree l x (head1 (Jvm.Cond.code x code maxLocals ret :: ws) room_1) (fun ar U => ar = #[(.int p0), (.int p1), (.int p2)] ∧ Z.Warmed39 U.vm ∧ U.heap = h0) (fun _ _ _ _ _ => True) (fun _ U oc U' => ∃ v L, oc = .returned v ∧ own_law10_Q Z w_LESS w_EQUAL w_GREATER w_UNORDERED p0 p1 p2 h0 n0 v U'.heap L ∧ FrameEnd U oc U' L 0 0) := by
  refine MetFree.of_bodySF (plainFor_of_name own_pn1) hisR ?_
  intro p e s m args below meth c s₁ Bd hml0 hP hK
  obtain ⟨rfl, hZ, hh⟩ := hP
  have hx := Bd.exec
  have hby := Bd.bytes
  have hml : c.maxLocals = 13 := hml0
  have hown : s.vm.findClass "com/example/bindweave/bindweave/expression/OrderReversedPinLaw" = some m.cls := findClass_of_methodNamed Bd.named
  have hnm := (name_of_methodNamed Bd.named Bd.method).1
  have X0 : Stand p l e room_1 s m #[(.int p0), (.int p1), (.int p2)] below meth c s₁ [] 0 0 := Stand.of_body Bd
  have e0 : s₁.heap = h0 := by rw [← hh, Bd.state]; rfl
  have N0 := Fr.nil n0
  have pre0 : ∀ t, Steps p.tables e below (s₁.setTop (mkF m 0 #[iv p0, iv p1, iv p2, .unset, .unset, .unset, .unset, .unset, .unset, .unset, .unset, .unset, .unset] [])) t → Steps p.tables e below (s₁.setTop (entryFrame m #[(.int p0), (.int p1), (.int p2)] maxLocals)) t := fun t k => castTop (own_law10_ef m p0 p1 p2) k
  obtain ⟨T1, X1, e1, st1⟩ := getS2 X0 hx hZ hown (host := "") (Or.inl (hw _ (own_m 21 rfl))) Via.refl e0 (U_UNORDERED.1.ext O0.2) (g := (mkF m 57 #[iv p0, iv p1, iv p2, iv 3, .unset, .unset, .unset, .unset, .unset, .unset, .unset, .unset, .unset] [])) rfl (hb hby at_57)
  obtain ⟨T2, X2, e2, st2⟩ := getS2 X1 hx hZ hown (host := "") (Or.inl (hw _ (own_m 21 rfl))) Via.refl e1 (U_UNORDERED.1.ext O0.2) (g := (mkF m 62 #[iv p0, iv p1, iv p2, iv 3, rv w_UNORDERED, .unset, .unset, .unset, .unset, .unset, .unset, .unset, .unset] [])) rfl (hb hby at_62)
  obtain ⟨cq3, kq3, q3a, q3b, q3c⟩ := isOf hZ e2 (U_UNORDERED.2.1.ext O0.2)
  obtain ⟨_, _, ⟨T3, L3, k3, n3⟩, -, X3, ⟨Lc3, hQ3, l3, y3, z3⟩, st3⟩ := X2.virtualBack hx (y := (⟨"com/example/bindweave/bindweave/expression/Order", "reversed", "()Lcom/example/bindweave/bindweave/expression/Order;"⟩ : MethodName)) (z := (⟨"com/example/bindweave/bindweave/expression/Order", "reversed", "()Lcom/example/bindweave/bindweave/expression/Order;"⟩ : MethodName)) hown (mvT hZ (hw _ (own_m 5 rfl))) (mvT hZ (hw _ (own_m 6 rfl))) (notFace_of_selects (args := #[]) (mvT hZ (hw _ (own_m 8 rfl)))) (mvT hZ (hw _ (own_m 8 rfl))) (mvT hZ (hw _ (own_m 7 rfl))) (by decide) (backOf (W := 0) (own_rev_UNORDERED l Z a0 hw [] w_LESS w_EQUAL w_GREATER w_UNORDERED  h0 n0 O0 U_LESS U_EQUAL U_GREATER U_UNORDERED ) hZ (hw _ (own_m 9 rfl)) (hw _ (own_m 1 rfl)) (by decide) (by decide)) q3a q3c (g := (mkF m 69 #[iv p0, iv p1, iv p2, iv 3, rv w_UNORDERED, rv w_UNORDERED, .unset, .unset, .unset, .unset, .unset, .unset, .unset] [(.ref w_UNORDERED)])) rfl (by rw [hml]; rfl) (Steps.refl _) (argsL := []) (rest := []) (lenOf own_pd0 rfl) rfl (by show 2 * 0 + _ ≤ _; exact Nat.le_of_eq rfl) (hb hby at_69) (fun _ _ => ⟨rfl, e2, (by decide : 0 + 0 ≤ _), (by decide : 0 + 0 ≤ _)⟩)
  dsimp only [Pt.U, Pt.locs, Pt.cells, Pt.slots] at X3 l3 y3 z3 st3 hQ3
  subst l3 y3 z3
  obtain ⟨rfl, N3q, e3⟩ := hQ3
  have N3 := Fr.app N0 N3q
  obtain ⟨cq4, kq4, q4a, q4b, q4c⟩ := isOf hZ e3 (U_UNORDERED.2.1.ext O0.2)
  obtain ⟨_, _, ⟨T4, L4, k4, n4⟩, -, X4, ⟨Lc4, hQ4, l4, y4, z4⟩, st4⟩ := X3.virtualBack hx (y := (⟨"com/example/bindweave/bindweave/expression/Order", "reversed", "()Lcom/example/bindweave/bindweave/expression/Order;"⟩ : MethodName)) (z := (⟨"com/example/bindweave/bindweave/expression/Order", "reversed", "()Lcom/example/bindweave/bindweave/expression/Order;"⟩ : MethodName)) hown (mvT hZ (hw _ (own_m 5 rfl))) (mvT hZ (hw _ (own_m 6 rfl))) (notFace_of_selects (args := #[]) (mvT hZ (hw _ (own_m 8 rfl)))) (mvT hZ (hw _ (own_m 8 rfl))) (mvT hZ (hw _ (own_m 7 rfl))) (by decide) (backOf (W := 0) (own_rev_UNORDERED l Z a0 hw [] w_LESS w_EQUAL w_GREATER w_UNORDERED  h0 n0 O0 U_LESS U_EQUAL U_GREATER U_UNORDERED ) hZ (hw _ (own_m 9 rfl)) (hw _ (own_m 1 rfl)) (by decide) (by decide)) q4a q4c (g := (mkF m 95 #[iv p0, iv p1, iv p2, iv 3, rv w_UNORDERED, rv w_UNORDERED, rv w_UNORDERED, iv 1, .unset, .unset, .unset, .unset, .unset] [(.ref w_UNORDERED)])) rfl (by rw [hml]; rfl) (Steps.refl _) (argsL := []) (rest := []) (lenOf own_pd0 rfl) rfl (by show 2 * 0 + _ ≤ _; exact Nat.le_of_eq rfl) (hb hby at_95) (fun _ _ => ⟨rfl, e3, (by decide : 0 + 0 ≤ _), (by decide : 0 + 0 ≤ _)⟩)
  dsimp only [Pt.U, Pt.locs, Pt.cells, Pt.slots] at X4 l4 y4 z4 st4 hQ4
  subst l4 y4 z4
  obtain ⟨rfl, N4q, e4⟩ := hQ4
  have N4 := Fr.app N3 N4q
  obtain ⟨_, _, ⟨T5, L5, k5, n5⟩, -, X5, ⟨Lc5, hQ5, l5, y5, z5⟩, st5⟩ := Jvm.LawKit.callS X4 hx (y := (⟨"com/example/bindweave/bindweave/expression/OrderReversedPinLaw", "sign", "(II)I"⟩ : MethodName)) hown (mvT hZ (hw _ (own_m 12 rfl))) (mvT hZ (hw _ (own_m 13 rfl))) (mvT hZ (hw _ (own_m 14 rfl))) (mvT hZ (hw _ (own_m 15 rfl))) (by decide) (backOf (W := 0) (own_sg_E l Z a0 hw [] w_LESS w_EQUAL w_GREATER w_UNORDERED p1 p2 h0 n0 O0 U_LESS U_EQUAL U_GREATER U_UNORDERED hk.2.1 hk.2.2) hZ (hw _ (own_m 15 rfl)) (hw _ (own_m 14 rfl)) (by decide) (by decide)) (g := (mkF m 112 #[iv p0, iv p1, iv p2, iv 3, rv w_UNORDERED, rv w_UNORDERED, rv w_UNORDERED, iv 1, iv 1, .unset, .unset, .unset, .unset] [(.int p2), (.int p1)])) rfl (by rw [hml]; rfl) (argsL := [(.int p1), (.int p2)]) (rest := []) (lenOf own_pd1 rfl) rfl (by show 2 * 0 + _ ≤ _; exact Nat.le_of_eq rfl) (hb hby at_112) (fun _ _ => ⟨rfl, e4, (by decide : 0 + 0 ≤ _), (by decide : 0 + 0 ≤ _)⟩)
  dsimp only [Pt.U, Pt.locs, Pt.cells, Pt.slots] at X5 l5 y5 z5 st5 hQ5
  subst l5 y5 z5
  obtain ⟨rfl, N5q, e5⟩ := hQ5
  have N5 := Fr.app N4 N5q
  obtain ⟨_, _, ⟨T6, L6, k6, n6⟩, -, X6, ⟨Lc6, hQ6, l6, y6, z6⟩, st6⟩ := Jvm.LawKit.callS X5 hx (y := (⟨"com/example/bindweave/bindweave/expression/Order", "of", "(I)Lcom/example/bindweave/bindweave/expression/Order;"⟩ : MethodName)) hown (mvT hZ (hw _ (own_m 16 rfl))) (mvT hZ (hw _ (own_m 17 rfl))) (mvT hZ (hw _ (own_m 1 rfl))) (mvT hZ (hw _ (own_m 18 rfl))) (by decide) (backOf (W := 0) (own_of_E l Z a0 hw [] w_LESS w_EQUAL w_GREATER w_UNORDERED (0 : Int32) h0 n0 O0 U_LESS U_EQUAL U_GREATER U_UNORDERED (by decide) (by decide)) hZ (hw _ (own_m 18 rfl)) (hw _ (own_m 1 rfl)) (by decide) (by decide)) (g := (mkF m 115 #[iv p0, iv p1, iv p2, iv 3, rv w_UNORDERED, rv w_UNORDERED, rv w_UNORDERED, iv 1, iv 1, .unset, .unset, .unset, .unset] [(.int 0)])) rfl (by rw [hml]; rfl) (argsL := [(.int 0)]) (rest := []) (lenOf own_pd2 rfl) rfl (by show 2 * 0 + _ ≤ _; exact Nat.le_of_eq rfl) (hb hby at_115) (fun _ _ => ⟨rfl, e5, (by decide : 0 + 0 ≤ _), (by decide : 0 + 0 ≤ _)⟩)
  dsimp only [Pt.U, Pt.locs, Pt.cells, Pt.slots] at X6 l6 y6 z6 st6 hQ6
  subst l6 y6 z6
  obtain ⟨rfl, N6q, e6⟩ := hQ6
  have N6 := Fr.app N5 N6q
  obtain ⟨_, _, ⟨T7, L7, k7, n7⟩, -, X7, ⟨Lc7, hQ7, l7, y7, z7⟩, st7⟩ := Jvm.LawKit.callS X6 hx (y := (⟨"com/example/bindweave/bindweave/expression/OrderReversedPinLaw", "sign", "(II)I"⟩ : MethodName)) hown (mvT hZ (hw _ (own_m 12 rfl))) (mvT hZ (hw _ (own_m 13 rfl))) (mvT hZ (hw _ (own_m 14 rfl))) (mvT hZ (hw _ (own_m 15 rfl))) (by decide) (backOf (W := 0) (own_sg_E l Z a0 hw [] w_LESS w_EQUAL w_GREATER w_UNORDERED p2 p1 h0 n0 O0 U_LESS U_EQUAL U_GREATER U_UNORDERED hk.2.2 hk.2.1) hZ (hw _ (own_m 15 rfl)) (hw _ (own_m 14 rfl)) (by decide) (by decide)) (g := (mkF m 122 #[iv p0, iv p1, iv p2, iv 3, rv w_UNORDERED, rv w_UNORDERED, rv w_UNORDERED, iv 1, iv 1, rv w_EQUAL, .unset, .unset, .unset] [(.int p1), (.int p2)])) rfl (by rw [hml]; rfl) (argsL := [(.int p2), (.int p1)]) (rest := []) (lenOf own_pd1 rfl) rfl (by show 2 * 0 + _ ≤ _; exact Nat.le_of_eq rfl) (hb hby at_122) (fun _ _ => ⟨rfl, e6, (by decide : 0 + 0 ≤ _), (by decide : 0 + 0 ≤ _)⟩)
  dsimp only [Pt.U, Pt.locs, Pt.cells, Pt.slots] at X7 l7 y7 z7 st7 hQ7
  subst l7 y7 z7
  obtain ⟨rfl, N7q, e7⟩ := hQ7
  have N7 := Fr.app N6 N7q
  obtain ⟨_, _, ⟨T8, L8, k8, n8⟩, -, X8, ⟨Lc8, hQ8, l8, y8, z8⟩, st8⟩ := Jvm.LawKit.callS X7 hx (y := (⟨"com/example/bindweave/bindweave/expression/Order", "of", "(I)Lcom/example/bindweave/bindweave/expression/Order;"⟩ : MethodName)) hown (mvT hZ (hw _ (own_m 16 rfl))) (mvT hZ (hw _ (own_m 17 rfl))) (mvT hZ (hw _ (own_m 1 rfl))) (mvT hZ (hw _ (own_m 18 rfl))) (by decide) (backOf (W := 0) (own_of_E l Z a0 hw [] w_LESS w_EQUAL w_GREATER w_UNORDERED (0 : Int32) h0 n0 O0 U_LESS U_EQUAL U_GREATER U_UNORDERED (by decide) (by decide)) hZ (hw _ (own_m 18 rfl)) (hw _ (own_m 1 rfl)) (by decide) (by decide)) (g := (mkF m 125 #[iv p0, iv p1, iv p2, iv 3, rv w_UNORDERED, rv w_UNORDERED, rv w_UNORDERED, iv 1, iv 1, rv w_EQUAL, .unset, .unset, .unset] [(.int 0)])) rfl (by rw [hml]; rfl) (argsL := [(.int 0)]) (rest := []) (lenOf own_pd2 rfl) rfl (by show 2 * 0 + _ ≤ _; exact Nat.le_of_eq rfl) (hb hby at_125) (fun _ _ => ⟨rfl, e7, (by decide : 0 + 0 ≤ _), (by decide : 0 + 0 ≤ _)⟩)
  dsimp only [Pt.U, Pt.locs, Pt.cells, Pt.slots] at X8 l8 y8 z8 st8 hQ8
  subst l8 y8 z8
  obtain ⟨rfl, N8q, e8⟩ := hQ8
  have N8 := Fr.app N7 N8q
  obtain ⟨cq9, kq9, q9a, q9b, q9c⟩ := isOf hZ e8 (U_EQUAL.2.1.ext O0.2)
  obtain ⟨_, _, ⟨T9, L9, k9, n9⟩, -, X9, ⟨Lc9, hQ9, l9, y9, z9⟩, st9⟩ := X8.virtualBack hx (y := (⟨"com/example/bindweave/bindweave/expression/Order", "reversed", "()Lcom/example/bindweave/bindweave/expression/Order;"⟩ : MethodName)) (z := (⟨"com/example/bindweave/bindweave/expression/Order", "reversed", "()Lcom/example/bindweave/bindweave/expression/Order;"⟩ : MethodName)) hown (mvT hZ (hw _ (own_m 5 rfl))) (mvT hZ (hw _ (own_m 6 rfl))) (notFace_of_selects (args := #[]) (mvT hZ (hw _ (own_m 8 rfl)))) (mvT hZ (hw _ (own_m 8 rfl))) (mvT hZ (hw _ (own_m 7 rfl))) (by decide) (backOf (W := 0) (own_rev_EQUAL l Z a0 hw [] w_LESS w_EQUAL w_GREATER w_UNORDERED  h0 n0 O0 U_LESS U_EQUAL U_GREATER U_UNORDERED ) hZ (hw _ (own_m 9 rfl)) (hw _ (own_m 1 rfl)) (by decide) (by decide)) q9a q9c (g := (mkF m 132 #[iv p0, iv p1, iv p2, iv 3, rv w_UNORDERED, rv w_UNORDERED, rv w_UNORDERED, iv 1, iv 1, rv w_EQUAL, rv w_EQUAL, .unset, .unset] [(.ref w_EQUAL)])) rfl (by rw [hml]; rfl) (Steps.refl _) (argsL := []) (rest := []) (lenOf own_pd0 rfl) rfl (by show 2 * 0 + _ ≤ _; exact Nat.le_of_eq rfl) (hb hby at_132) (fun _ _ => ⟨rfl, e8, (by decide : 0 + 0 ≤ _), (by decide : 0 + 0 ≤ _)⟩)
  dsimp only [Pt.U, Pt.locs, Pt.cells, Pt.slots] at X9 l9 y9 z9 st9 hQ9
  subst l9 y9 z9
  obtain ⟨rfl, N9q, e9⟩ := hQ9
  have N9 := Fr.app N8 N9q
  obtain ⟨fs, hr, hrun, hended, hW, hsame⟩ := X9.leave (v := some (.int 1)) (fun h => by rw [Bd.returns] at h; cases h)
  refine ⟨_, _, pre0 _ ?_, hrun, hended, _, _, rfl, ?_, ⟨_, rfl⟩, hW, hsame.mono (by decide) (by decide)⟩
  · show Steps p.tables e below (s₁.setTop (mkF m 0 #[iv p0, iv p1, iv p2, .unset, .unset, .unset, .unset, .unset, .unset, .unset, .unset, .unset, .unset] [])) _
    refine XS.iloadN X0.here hx rfl (hb hby at_0) rfl ?_
    show Steps p.tables e below (s₁.setTop (mkF m 1 #[iv p0, iv p1, iv p2, .unset, .unset, .unset, .unset, .unset, .unset, .unset, .unset, .unset, .unset] [(.int p0)])) _
    refine XS.iconst X0.here hx rfl (hb hby at_1) ?_
    show Steps p.tables e below (s₁.setTop (mkF m 2 #[iv p0, iv p1, iv p2, .unset, .unset, .unset, .unset, .unset, .unset, .unset, .unset, .unset, .unset] [(.int 3), (.int p0)])) _
    refine XS.iand X0.here hx rfl (hb hby at_2) rfl ?_
    show Steps p.tables e below (s₁.setTop (mkF m 3 #[iv p0, iv p1, iv p2, .unset, .unset, .unset, .unset, .unset, .unset, .unset, .unset, .unset, .unset] [(.int (p0 &&& (3 : Int32)))])) _
    refine own_top (v' := (.int 3)) (congrArg Value.int hk.1) ?_
    show Steps p.tables e below (s₁.setTop (mkF m 3 #[iv p0, iv p1, iv p2, .unset, .unset, .unset, .unset, .unset, .unset, .unset, .unset, .unset, .unset] [(.int 3)])) _
    refine XS.istoreN X0.here hx rfl (hb hby at_3) rfl (l' := #[iv p0, iv p1, iv p2, iv 3, .unset, .unset, .unset, .unset, .unset, .unset, .unset, .unset, .unset]) rfl ?_
    show Steps p.tables e below (s₁.setTop (mkF m 4 #[iv p0, iv p1, iv p2, iv 3, .unset, .unset, .unset, .unset, .unset, .unset, .unset, .unset, .unset] [])) _
    refine XS.iloadN X0.here hx rfl (hb hby at_4) rfl ?_
    show Steps p.tables e below (s₁.setTop (mkF m 5 #[iv p0, iv p1, iv p2, iv 3, .unset, .unset, .unset, .unset, .unset, .unset, .unset, .unset, .unset] [(.int 3)])) _
    refine XS.ifYes X0.here hx rfl (pc0 := 5) (pc' := 21) rfl (hb hby at_5) rfl ((if0 _ _).trans (feq (by decide)).2) (by decide) (by decide) ?_
    show Steps p.tables e below (s₁.setTop (mkF m 21 #[iv p0, iv p1, iv p2, iv 3, .unset, .unset, .unset, .unset, .unset, .unset, .unset, .unset, .unset] [])) _
    refine XS.iloadN X0.here hx rfl (hb hby at_21) rfl ?_
    show Steps p.tables e below (s₁.setTop (mkF m 22 #[iv p0, iv p1, iv p2, iv 3, .unset, .unset, .unset, .unset, .unset, .unset, .unset, .unset, .unset] [(.int 3)])) _
    refine XS.iconst X0.here hx rfl (hb hby at_22) ?_
    show Steps p.tables e below (s₁.setTop (mkF m 23 #[iv p0, iv p1, iv p2, iv 3, .unset, .unset, .unset, .unset, .unset, .unset, .unset, .unset, .unset] [(.int 1), (.int 3)])) _
    refine XS.icmpYes X0.here hx rfl (pc0 := 23) (pc' := 39) rfl (hb hby at_23) rfl (feq (by decide)).2 (by decide) (by decide) ?_
    show Steps p.tables e below (s₁.setTop (mkF m 39 #[iv p0, iv p1, iv p2, iv 3, .unset, .unset, .unset, .unset, .unset, .unset, .unset, .unset, .unset] [])) _
    refine XS.iloadN X0.here hx rfl (hb hby at_39) rfl ?_
    show Steps p.tables e below (s₁.setTop (mkF m 40 #[iv p0, iv p1, iv p2, iv 3, .unset, .unset, .unset, .unset, .unset, .unset, .unset, .unset, .unset] [(.int 3)])) _
    refine XS.iconst X0.here hx rfl (hb hby at_40) ?_
    show Steps p.tables e below (s₁.setTop (mkF m 41 #[iv p0, iv p1, iv p2, iv 3, .unset, .unset, .unset, .unset, .unset, .unset, .unset, .unset, .unset] [(.int 2), (.int 3)])) _
    refine XS.icmpYes X0.here hx rfl (pc0 := 41) (pc' := 57) rfl (hb hby at_41) rfl (feq (by decide)).2 (by decide) (by decide) ?_
    show Steps p.tables e below (s₁.setTop (mkF m 57 #[iv p0, iv p1, iv p2, iv 3, .unset, .unset, .unset, .unset, .unset, .unset, .unset, .unset, .unset] [])) _
    refine st1 _ ?_
    show Steps p.tables e below (T1.setTop (mkF m 60 #[iv p0, iv p1, iv p2, iv 3, .unset, .unset, .unset, .unset, .unset, .unset, .unset, .unset, .unset] [(.ref w_UNORDERED)])) _
    refine XS.astore X1.here hx rfl (hb hby at_60) rfl rfl (l' := #[iv p0, iv p1, iv p2, iv 3, rv w_UNORDERED, .unset, .unset, .unset, .unset, .unset, .unset, .unset, .unset]) rfl ?_
    show Steps p.tables e below (T1.setTop (mkF m 62 #[iv p0, iv p1, iv p2, iv 3, rv w_UNORDERED, .unset, .unset, .unset, .unset, .unset, .unset, .unset, .unset] [])) _
    refine st2 _ ?_
    show Steps p.tables e below (T2.setTop (mkF m 65 #[iv p0, iv p1, iv p2, iv 3, rv w_UNORDERED, .unset, .unset, .unset, .unset, .unset, .unset, .unset, .unset] [(.ref w_UNORDERED)])) _
    refine XS.astore X2.here hx rfl (hb hby at_65) rfl rfl (l' := #[iv p0, iv p1, iv p2, iv 3, rv w_UNORDERED, rv w_UNORDERED, .unset, .unset, .unset, .unset, .unset, .unset, .unset]) rfl ?_
    show Steps p.tables e below (T2.setTop (mkF m 67 #[iv p0, iv p1, iv p2, iv 3, rv w_UNORDERED, rv w_UNORDERED, .unset, .unset, .unset, .unset, .unset, .unset, .unset] [])) _
    refine XS.aload X2.here hx rfl (hb hby at_67) rfl rfl ?_
    show Steps p.tables e below (T2.setTop (mkF m 69 #[iv p0, iv p1, iv p2, iv 3, rv w_UNORDERED, rv w_UNORDERED, .unset, .unset, .unset, .unset, .unset, .unset, .unset] [(.ref w_UNORDERED)])) _
    refine st3.trans ?_
    show Steps p.tables e below (T3.setTop (mkF m 72 #[iv p0, iv p1, iv p2, iv 3, rv w_UNORDERED, rv w_UNORDERED, .unset, .unset, .unset, .unset, .unset, .unset, .unset] [(.ref w_UNORDERED)])) _
    refine XS.astore X3.here hx rfl (hb hby at_72) rfl rfl (l' := #[iv p0, iv p1, iv p2, iv 3, rv w_UNORDERED, rv w_UNORDERED, rv w_UNORDERED, .unset, .unset, .unset, .unset, .unset, .unset]) rfl ?_
    show Steps p.tables e below (T3.setTop (mkF m 74 #[iv p0, iv p1, iv p2, iv 3, rv w_UNORDERED, rv w_UNORDERED, rv w_UNORDERED, .unset, .unset, .unset, .unset, .unset, .unset] [])) _
    refine XS.aload X3.here hx rfl (hb hby at_74) rfl rfl ?_
    show Steps p.tables e below (T3.setTop (mkF m 76 #[iv p0, iv p1, iv p2, iv 3, rv w_UNORDERED, rv w_UNORDERED, rv w_UNORDERED, .unset, .unset, .unset, .unset, .unset, .unset] [(.ref w_UNORDERED)])) _
    refine XS.aload X3.here hx rfl (hb hby at_76) rfl rfl ?_
    show Steps p.tables e below (T3.setTop (mkF m 78 #[iv p0, iv p1, iv p2, iv 3, rv w_UNORDERED, rv w_UNORDERED, rv w_UNORDERED, .unset, .unset, .unset, .unset, .unset, .unset] [(.ref w_UNORDERED), (.ref w_UNORDERED)])) _
    refine Jvm.RoadKit.acmp (g := (mkF m 78 #[iv p0, iv p1, iv p2, iv 3, rv w_UNORDERED, rv w_UNORDERED, rv w_UNORDERED, .unset, .unset, .unset, .unset, .unset, .unset] [(.ref w_UNORDERED), (.ref w_UNORDERED)])) X3 hx rfl rfl rfl (pc0 := 78) (pc' := 81) (same := true) rfl (hb hby at_78) rfl (decide_eq_true rfl) (by decide) (by decide) ?_
    show Steps p.tables e below (T3.setTop (mkF m 81 #[iv p0, iv p1, iv p2, iv 3, rv w_UNORDERED, rv w_UNORDERED, rv w_UNORDERED, .unset, .unset, .unset, .unset, .unset, .unset] [])) _
    refine XS.iconst X3.here hx rfl (hb hby at_81) ?_
    show Steps p.tables e below (T3.setTop (mkF m 82 #[iv p0, iv p1, iv p2, iv 3, rv w_UNORDERED, rv w_UNORDERED, rv w_UNORDERED, .unset, .unset, .unset, .unset, .unset, .unset] [(.int 1)])) _
    refine XS.goto X3.here hx rfl (pc0 := 82) (pc' := 86) rfl (hb hby at_82) (by decide) (by decide) ?_
    show Steps p.tables e below (T3.setTop (mkF m 86 #[iv p0, iv p1, iv p2, iv 3, rv w_UNORDERED, rv w_UNORDERED, rv w_UNORDERED, .unset, .unset, .unset, .unset, .unset, .unset] [(.int 1)])) _
    refine XS.istore X3.here hx rfl (hb hby at_86) rfl (l' := #[iv p0, iv p1, iv p2, iv 3, rv w_UNORDERED, rv w_UNORDERED, rv w_UNORDERED, iv 1, .unset, .unset, .unset, .unset, .unset]) rfl ?_
    show Steps p.tables e below (T3.setTop (mkF m 88 #[iv p0, iv p1, iv p2, iv 3, rv w_UNORDERED, rv w_UNORDERED, rv w_UNORDERED, iv 1, .unset, .unset, .unset, .unset, .unset] [])) _
    refine XS.aload X3.here hx rfl (hb hby at_88) rfl rfl ?_
    show Steps p.tables e below (T3.setTop (mkF m 90 #[iv p0, iv p1, iv p2, iv 3, rv w_UNORDERED, rv w_UNORDERED, rv w_UNORDERED, iv 1, .unset, .unset, .unset, .unset, .unset] [(.ref w_UNORDERED)])) _
    refine XS.ifnullNo X3.here hx rfl (hb hby at_90) rfl ?_
    show Steps p.tables e below (T3.setTop (mkF m 93 #[iv p0, iv p1, iv p2, iv 3, rv w_UNORDERED, rv w_UNORDERED, rv w_UNORDERED, iv 1, .unset, .unset, .unset, .unset, .unset] [])) _
    refine XS.aload X3.here hx rfl (hb hby at_93) rfl rfl ?_
    show Steps p.tables e below (T3.setTop (mkF m 95 #[iv p0, iv p1, iv p2, iv 3, rv w_UNORDERED, rv w_UNORDERED, rv w_UNORDERED, iv 1, .unset, .unset, .unset, .unset, .unset] [(.ref w_UNORDERED)])) _
    refine st4.trans ?_
    show Steps p.tables e below (T4.setTop (mkF m 98 #[iv p0, iv p1, iv p2, iv 3, rv w_UNORDERED, rv w_UNORDERED, rv w_UNORDERED, iv 1, .unset, .unset, .unset, .unset, .unset] [(.ref w_UNORDERED)])) _
    refine XS.aload X4.here hx rfl (hb hby at_98) rfl rfl ?_
    show Steps p.tables e below (T4.setTop (mkF m 100 #[iv p0, iv p1, iv p2, iv 3, rv w_UNORDERED, rv w_UNORDERED, rv w_UNORDERED, iv 1, .unset, .unset, .unset, .unset, .unset] [(.ref w_UNORDERED), (.ref w_UNORDERED)])) _
    refine Jvm.RoadKit.acmp (g := (mkF m 100 #[iv p0, iv p1, iv p2, iv 3, rv w_UNORDERED, rv w_UNORDERED, rv w_UNORDERED, iv 1, .unset, .unset, .unset, .unset, .unset] [(.ref w_UNORDERED), (.ref w_UNORDERED)])) X4 hx rfl rfl rfl (pc0 := 100) (pc' := 103) (same := true) rfl (hb hby at_100) rfl (decide_eq_true rfl) (by decide) (by decide) ?_
    show Steps p.tables e below (T4.setTop (mkF m 103 #[iv p0, iv p1, iv p2, iv 3, rv w_UNORDERED, rv w_UNORDERED, rv w_UNORDERED, iv 1, .unset, .unset, .unset, .unset, .unset] [])) _
    refine XS.iconst X4.here hx rfl (hb hby at_103) ?_
    show Steps p.tables e below (T4.setTop (mkF m 104 #[iv p0, iv p1, iv p2, iv 3, rv w_UNORDERED, rv w_UNORDERED, rv w_UNORDERED, iv 1, .unset, .unset, .unset, .unset, .unset] [(.int 1)])) _
    refine XS.goto X4.here hx rfl (pc0 := 104) (pc' := 108) rfl (hb hby at_104) (by decide) (by decide) ?_
    show Steps p.tables e below (T4.setTop (mkF m 108 #[iv p0, iv p1, iv p2, iv 3, rv w_UNORDERED, rv w_UNORDERED, rv w_UNORDERED, iv 1, .unset, .unset, .unset, .unset, .unset] [(.int 1)])) _
    refine XS.istore X4.here hx rfl (hb hby at_108) rfl (l' := #[iv p0, iv p1, iv p2, iv 3, rv w_UNORDERED, rv w_UNORDERED, rv w_UNORDERED, iv 1, iv 1, .unset, .unset, .unset, .unset]) rfl ?_
    show Steps p.tables e below (T4.setTop (mkF m 110 #[iv p0, iv p1, iv p2, iv 3, rv w_UNORDERED, rv w_UNORDERED, rv w_UNORDERED, iv 1, iv 1, .unset, .unset, .unset, .unset] [])) _
    refine XS.iloadN X4.here hx rfl (hb hby at_110) rfl ?_
    show Steps p.tables e below (T4.setTop (mkF m 111 #[iv p0, iv p1, iv p2, iv 3, rv w_UNORDERED, rv w_UNORDERED, rv w_UNORDERED, iv 1, iv 1, .unset, .unset, .unset, .unset] [(.int p1)])) _
    refine XS.iloadN X4.here hx rfl (hb hby at_111) rfl ?_
    show Steps p.tables e below (T4.setTop (mkF m 112 #[iv p0, iv p1, iv p2, iv 3, rv w_UNORDERED, rv w_UNORDERED, rv w_UNORDERED, iv 1, iv 1, .unset, .unset, .unset, .unset] [(.int p2), (.int p1)])) _
    refine st5 _ ?_
    show Steps p.tables e below (T5.setTop (mkF m 115 #[iv p0, iv p1, iv p2, iv 3, rv w_UNORDERED, rv w_UNORDERED, rv w_UNORDERED, iv 1, iv 1, .unset, .unset, .unset, .unset] [(.int 0)])) _
    refine st6 _ ?_
    show Steps p.tables e below (T6.setTop (mkF m 118 #[iv p0, iv p1, iv p2, iv 3, rv w_UNORDERED, rv w_UNORDERED, rv w_UNORDERED, iv 1, iv 1, .unset, .unset, .unset, .unset] [(.ref w_EQUAL)])) _
    refine XS.astore X6.here hx rfl (hb hby at_118) rfl rfl (l' := #[iv p0, iv p1, iv p2, iv 3, rv w_UNORDERED, rv w_UNORDERED, rv w_UNORDERED, iv 1, iv 1, rv w_EQUAL, .unset, .unset, .unset]) rfl ?_
    show Steps p.tables e below (T6.setTop (mkF m 120 #[iv p0, iv p1, iv p2, iv 3, rv w_UNORDERED, rv w_UNORDERED, rv w_UNORDERED, iv 1, iv 1, rv w_EQUAL, .unset, .unset, .unset] [])) _
    refine XS.iloadN X6.here hx rfl (hb hby at_120) rfl ?_
    show Steps p.tables e below (T6.setTop (mkF m 121 #[iv p0, iv p1, iv p2, iv 3, rv w_UNORDERED, rv w_UNORDERED, rv w_UNORDERED, iv 1, iv 1, rv w_EQUAL, .unset, .unset, .unset] [(.int p2)])) _
    refine XS.iloadN X6.here hx rfl (hb hby at_121) rfl ?_
    show Steps p.tables e below (T6.setTop (mkF m 122 #[iv p0, iv p1, iv p2, iv 3, rv w_UNORDERED, rv w_UNORDERED, rv w_UNORDERED, iv 1, iv 1, rv w_EQUAL, .unset, .unset, .unset] [(.int p1), (.int p2)])) _
    refine st7 _ ?_
    show Steps p.tables e below (T7.setTop (mkF m 125 #[iv p0, iv p1, iv p2, iv 3, rv w_UNORDERED, rv w_UNORDERED, rv w_UNORDERED, iv 1, iv 1, rv w_EQUAL, .unset, .unset, .unset] [(.int 0)])) _
    refine st8 _ ?_
    show Steps p.tables e below (T8.setTop (mkF m 128 #[iv p0, iv p1, iv p2, iv 3, rv w_UNORDERED, rv w_UNORDERED, rv w_UNORDERED, iv 1, iv 1, rv w_EQUAL, .unset, .unset, .unset] [(.ref w_EQUAL)])) _
    refine XS.astore X8.here hx rfl (hb hby at_128) rfl rfl (l' := #[iv p0, iv p1, iv p2, iv 3, rv w_UNORDERED, rv w_UNORDERED, rv w_UNORDERED, iv 1, iv 1, rv w_EQUAL, rv w_EQUAL, .unset, .unset]) rfl ?_
    show Steps p.tables e below (T8.setTop (mkF m 130 #[iv p0, iv p1, iv p2, iv 3, rv w_UNORDERED, rv w_UNORDERED, rv w_UNORDERED, iv 1, iv 1, rv w_EQUAL, rv w_EQUAL, .unset, .unset] [])) _
    refine XS.aload X8.here hx rfl (hb hby at_130) rfl rfl ?_
    show Steps p.tables e below (T8.setTop (mkF m 132 #[iv p0, iv p1, iv p2, iv 3, rv w_UNORDERED, rv w_UNORDERED, rv w_UNORDERED, iv 1, iv 1, rv w_EQUAL, rv w_EQUAL, .unset, .unset] [(.ref w_EQUAL)])) _
    refine st9.trans ?_
    show Steps p.tables e below (T9.setTop (mkF m 135 #[iv p0, iv p1, iv p2, iv 3, rv w_UNORDERED, rv w_UNORDERED, rv w_UNORDERED, iv 1, iv 1, rv w_EQUAL, rv w_EQUAL, .unset, .unset] [(.ref w_EQUAL)])) _
    refine XS.astore X9.here hx rfl (hb hby at_135) rfl rfl (l' := #[iv p0, iv p1, iv p2, iv 3, rv w_UNORDERED, rv w_UNORDERED, rv w_UNORDERED, iv 1, iv 1, rv w_EQUAL, rv w_EQUAL, rv w_EQUAL, .unset]) rfl ?_
    show Steps p.tables e below (T9.setTop (mkF m 137 #[iv p0, iv p1, iv p2, iv 3, rv w_UNORDERED, rv w_UNORDERED, rv w_UNORDERED, iv 1, iv 1, rv w_EQUAL, rv w_EQUAL, rv w_EQUAL, .unset] [])) _
    refine XS.aload X9.here hx rfl (hb hby at_137) rfl rfl ?_
    show Steps p.tables e below (T9.setTop (mkF m 139 #[iv p0, iv p1, iv p2, iv 3, rv w_UNORDERED, rv w_UNORDERED, rv w_UNORDERED, iv 1, iv 1, rv w_EQUAL, rv w_EQUAL, rv w_EQUAL, .unset] [(.ref w_EQUAL)])) _
    refine XS.aload X9.here hx rfl (hb hby at_139) rfl rfl ?_
    show Steps p.tables e below (T9.setTop (mkF m 141 #[iv p0, iv p1, iv p2, iv 3, rv w_UNORDERED, rv w_UNORDERED, rv w_UNORDERED, iv 1, iv 1, rv w_EQUAL, rv w_EQUAL, rv w_EQUAL, .unset] [(.ref w_EQUAL), (.ref w_EQUAL)])) _
    refine Jvm.RoadKit.acmp (g := (mkF m 141 #[iv p0, iv p1, iv p2, iv 3, rv w_UNORDERED, rv w_UNORDERED, rv w_UNORDERED, iv 1, iv 1, rv w_EQUAL, rv w_EQUAL, rv w_EQUAL, .unset] [(.ref w_EQUAL), (.ref w_EQUAL)])) X9 hx rfl rfl rfl (pc0 := 141) (pc' := 144) (same := true) rfl (hb hby at_141) rfl (decide_eq_true rfl) (by decide) (by decide) ?_
    show Steps p.tables e below (T9.setTop (mkF m 144 #[iv p0, iv p1, iv p2, iv 3, rv w_UNORDERED, rv w_UNORDERED, rv w_UNORDERED, iv 1, iv 1, rv w_EQUAL, rv w_EQUAL, rv w_EQUAL, .unset] [])) _
    refine XS.iconst X9.here hx rfl (hb hby at_144) ?_
    show Steps p.tables e below (T9.setTop (mkF m 145 #[iv p0, iv p1, iv p2, iv 3, rv w_UNORDERED, rv w_UNORDERED, rv w_UNORDERED, iv 1, iv 1, rv w_EQUAL, rv w_EQUAL, rv w_EQUAL, .unset] [(.int 1)])) _
    refine XS.goto X9.here hx rfl (pc0 := 145) (pc' := 149) rfl (hb hby at_145) (by decide) (by decide) ?_
    show Steps p.tables e below (T9.setTop (mkF m 149 #[iv p0, iv p1, iv p2, iv 3, rv w_UNORDERED, rv w_UNORDERED, rv w_UNORDERED, iv 1, iv 1, rv w_EQUAL, rv w_EQUAL, rv w_EQUAL, .unset] [(.int 1)])) _
    refine XS.istore X9.here hx rfl (hb hby at_149) rfl (l' := #[iv p0, iv p1, iv p2, iv 3, rv w_UNORDERED, rv w_UNORDERED, rv w_UNORDERED, iv 1, iv 1, rv w_EQUAL, rv w_EQUAL, rv w_EQUAL, iv 1]) rfl ?_
    show Steps p.tables e below (T9.setTop (mkF m 151 #[iv p0, iv p1, iv p2, iv 3, rv w_UNORDERED, rv w_UNORDERED, rv w_UNORDERED, iv 1, iv 1, rv w_EQUAL, rv w_EQUAL, rv w_EQUAL, iv 1] [])) _
    refine XS.iload X9.here hx rfl (hb hby at_151) rfl ?_
    show Steps p.tables e below (T9.setTop (mkF m 153 #[iv p0, iv p1, iv p2, iv 3, rv w_UNORDERED, rv w_UNORDERED, rv w_UNORDERED, iv 1, iv 1, rv w_EQUAL, rv w_EQUAL, rv w_EQUAL, iv 1] [(.int 1)])) _
    refine XS.ifNo X9.here hx rfl (hb hby at_153) rfl ((if0 _ _).trans (feq (by decide)).1) ?_
    show Steps p.tables e below (T9.setTop (mkF m 156 #[iv p0, iv p1, iv p2, iv 3, rv w_UNORDERED, rv w_UNORDERED, rv w_UNORDERED, iv 1, iv 1, rv w_EQUAL, rv w_EQUAL, rv w_EQUAL, iv 1] [])) _
    refine XS.iload X9.here hx rfl (hb hby at_156) rfl ?_
    show Steps p.tables e below (T9.setTop (mkF m 158 #[iv p0, iv p1, iv p2, iv 3, rv w_UNORDERED, rv w_UNORDERED, rv w_UNORDERED, iv 1, iv 1, rv w_EQUAL, rv w_EQUAL, rv w_EQUAL, iv 1] [(.int 1)])) _
    refine XS.ifNo X9.here hx rfl (hb hby at_158) rfl ((if0 _ _).trans (feq (by decide)).1) ?_
    show Steps p.tables e below (T9.setTop (mkF m 161 #[iv p0, iv p1, iv p2, iv 3, rv w_UNORDERED, rv w_UNORDERED, rv w_UNORDERED, iv 1, iv 1, rv w_EQUAL, rv w_EQUAL, rv w_EQUAL, iv 1] [])) _
    refine XS.iload X9.here hx rfl (hb hby at_161) rfl ?_
    show Steps p.tables e below (T9.setTop (mkF m 163 #[iv p0, iv p1, iv p2, iv 3, rv w_UNORDERED, rv w_UNORDERED, rv w_UNORDERED, iv 1, iv 1, rv w_EQUAL, rv w_EQUAL, rv w_EQUAL, iv 1] [(.int 1)])) _
    refine XS.ifNo X9.here hx rfl (hb hby at_163) rfl ((if0 _ _).trans (feq (by decide)).1) ?_
    show Steps p.tables e below (T9.setTop (mkF m 166 #[iv p0, iv p1, iv p2, iv 3, rv w_UNORDERED, rv w_UNORDERED, rv w_UNORDERED, iv 1, iv 1, rv w_EQUAL, rv w_EQUAL, rv w_EQUAL, iv 1] [])) _
    refine XS.iconst X9.here hx rfl (hb hby at_166) ?_
    show Steps p.tables e below (T9.setTop (mkF m 167 #[iv p0, iv p1, iv p2, iv 3, rv w_UNORDERED, rv w_UNORDERED, rv w_UNORDERED, iv 1, iv 1, rv w_EQUAL, rv w_EQUAL, rv w_EQUAL, iv 1] [(.int 1)])) _
    refine XS.goto X9.here hx rfl (pc0 := 167) (pc' := 171) rfl (hb hby at_167) (by decide) (by decide) ?_
    show Steps p.tables e below (T9.setTop (mkF m 171 #[iv p0, iv p1, iv p2, iv 3, rv w_UNORDERED, rv w_UNORDERED, rv w_UNORDERED, iv 1, iv 1, rv w_EQUAL, rv w_EQUAL, rv w_EQUAL, iv 1] [(.int 1)])) _
    exact retN X9 hx (t := .boolean) Bd.returns (by simp) (hb hby at_171) hr
  · show own_law10_Q Z w_LESS w_EQUAL w_GREATER w_UNORDERED p0 p1 p2 h0 n0 _ T9.heap _
    rw [e9]
    exact ⟨rfl, N9, trivial⟩
theorem own_law11_ef (m : MethodId) (p0 : Int32) (p1 : Int32) (p2 : Int32) : entryFrame m #[(.int p0), (.int p1), (.int p2)] maxLocals = mkF m 0 #[iv p0, iv p1, iv p2, .unset, .unset, .unset, .unset, .unset, .unset, .unset, .unset, .unset, .unset] [] := by first | (simp [entryFrame, mkF, argsToLocals, Value.category, maxLocals]; done) | rfl
def own_law11_Q (Z : State) (w_LESS : Addr) (w_EQUAL : Addr) (w_GREATER : Addr) (w_UNORDERED : Addr) (p0 : Int32) (p1 : Int32) (p2 : Int32) (h0 : Heap) (n0 : Nat) (v : Option Value) (h : Heap) (L : List Loc) : Prop := v = some (.int 1) ∧ Fr n0 L ∧ True
set_option maxRecDepth 65536 in
set_option maxHeartbeats 40000000 in
theorem own_law11 (l : Launch) (Z : State) (a0 : Array Value) (hw : ∀ d ∈ tables_1, d.before a0 Z = true) (ws : List Jvm.Cond) (w_LESS : Addr) (w_EQUAL : Addr) (w_GREATER : Addr) (w_UNORDERED : Addr) (p0 : Int32) (p1 : Int32) (p2 : Int32) (h0 : Heap) (n0 : Nat) (O0 : Old Z n0 h0) (U_LESS : own_En Z Z.heap "com/example/bindweave/bindweave/expression/Order" "LESS" "Lcom/example/bindweave/bindweave/expression/Order;" w_LESS (0 : Int32)) (U_EQUAL : own_En Z Z.heap "com/example/bindweave/bindweave/expression/Order" "EQUAL" "Lcom/example/bindweave/bindweave/expression/Order;" w_EQUAL (1 : Int32)) (U_GREATER : own_En Z Z.heap "com/example/bindweave/bindweave/expression/Order" "GREATER" "Lcom/example/bindweave/bindweave/expression/Order;" w_GREATER (2 : Int32)) (U_UNORDERED : own_En Z Z.heap "com/example/bindweave/bindweave/expression/Order" "UNORDERED" "Lcom/example/bindweave/bindweave/expression/Order;" w_UNORDERED (3 : Int32)) (hk : (p0 &&& (3 : Int32)) = (3 : Int32) ∧ (¬ p1 < p2 ∧ p2 < p1)) :
    MetFree l x (head1 (Jvm.Cond.code x code maxLocals ret :: ws) room_1) (fun ar U => ar = #[(.int p0), (.int p1), (.int p2)] ∧ Z.Warmed39 U.vm ∧ U.heap = h0) (fun _ _ _ _ _ => True) (fun _ U oc U' => ∃ v L, oc = .returned v ∧ own_law11_Q Z w_LESS w_EQUAL w_GREATER w_UNORDERED p0 p1 p2 h0 n0 v U'.heap L ∧ FrameEnd U oc U' L 0 0) := by
  refine MetFree.of_bodySF (plainFor_of_name own_pn1) hisR ?_
  intro p e s m args below meth c s₁ Bd hml0 hP hK
  obtain ⟨rfl, hZ, hh⟩ := hP
  have hx := Bd.exec
  have hby := Bd.bytes
  have hml : c.maxLocals = 13 := hml0
  have hown : s.vm.findClass "com/example/bindweave/bindweave/expression/OrderReversedPinLaw" = some m.cls := findClass_of_methodNamed Bd.named
  have hnm := (name_of_methodNamed Bd.named Bd.method).1
  have X0 : Stand p l e room_1 s m #[(.int p0), (.int p1), (.int p2)] below meth c s₁ [] 0 0 := Stand.of_body Bd
  have e0 : s₁.heap = h0 := by rw [← hh, Bd.state]; rfl
  have N0 := Fr.nil n0
  have pre0 : ∀ t, Steps p.tables e below (s₁.setTop (mkF m 0 #[iv p0, iv p1, iv p2, .unset, .unset, .unset, .unset, .unset, .unset, .unset, .unset, .unset, .unset] [])) t → Steps p.tables e below (s₁.setTop (entryFrame m #[(.int p0), (.int p1), (.int p2)] maxLocals)) t := fun t k => castTop (own_law11_ef m p0 p1 p2) k
  obtain ⟨T1, X1, e1, st1⟩ := getS2 X0 hx hZ hown (host := "") (Or.inl (hw _ (own_m 21 rfl))) Via.refl e0 (U_UNORDERED.1.ext O0.2) (g := (mkF m 57 #[iv p0, iv p1, iv p2, iv 3, .unset, .unset, .unset, .unset, .unset, .unset, .unset, .unset, .unset] [])) rfl (hb hby at_57)
  obtain ⟨T2, X2, e2, st2⟩ := getS2 X1 hx hZ hown (host := "") (Or.inl (hw _ (own_m 21 rfl))) Via.refl e1 (U_UNORDERED.1.ext O0.2) (g := (mkF m 62 #[iv p0, iv p1, iv p2, iv 3, rv w_UNORDERED, .unset, .unset, .unset, .unset, .unset, .unset, .unset, .unset] [])) rfl (hb hby at_62)
  obtain ⟨cq3, kq3, q3a, q3b, q3c⟩ := isOf hZ e2 (U_UNORDERED.2.1.ext O0.2)
  obtain ⟨_, _, ⟨T3, L3, k3, n3⟩, -, X3, ⟨Lc3, hQ3, l3, y3, z3⟩, st3⟩ := X2.virtualBack hx (y := (⟨"com/example/bindweave/bindweave/expression/Order", "reversed", "()Lcom/example/bindweave/bindweave/expression/Order;"⟩ : MethodName)) (z := (⟨"com/example/bindweave/bindweave/expression/Order", "reversed", "()Lcom/example/bindweave/bindweave/expression/Order;"⟩ : MethodName)) hown (mvT hZ (hw _ (own_m 5 rfl))) (mvT hZ (hw _ (own_m 6 rfl))) (notFace_of_selects (args := #[]) (mvT hZ (hw _ (own_m 8 rfl)))) (mvT hZ (hw _ (own_m 8 rfl))) (mvT hZ (hw _ (own_m 7 rfl))) (by decide) (backOf (W := 0) (own_rev_UNORDERED l Z a0 hw [] w_LESS w_EQUAL w_GREATER w_UNORDERED  h0 n0 O0 U_LESS U_EQUAL U_GREATER U_UNORDERED ) hZ (hw _ (own_m 9 rfl)) (hw _ (own_m 1 rfl)) (by decide) (by decide)) q3a q3c (g := (mkF m 69 #[iv p0, iv p1, iv p2, iv 3, rv w_UNORDERED, rv w_UNORDERED, .unset, .unset, .unset, .unset, .unset, .unset, .unset] [(.ref w_UNORDERED)])) rfl (by rw [hml]; rfl) (Steps.refl _) (argsL := []) (rest := []) (lenOf own_pd0 rfl) rfl (by show 2 * 0 + _ ≤ _; exact Nat.le_of_eq rfl) (hb hby at_69) (fun _ _ => ⟨rfl, e2, (by decide : 0 + 0 ≤ _), (by decide : 0 + 0 ≤ _)⟩)
  dsimp only [Pt.U, Pt.locs, Pt.cells, Pt.slots] at X3 l3 y3 z3 st3 hQ3
  subst l3 y3 z3
  obtain ⟨rfl, N3q, e3⟩ := hQ3
  have N3 := Fr.app N0 N3q
  obtain ⟨cq4, kq4, q4a, q4b, q4c⟩ := isOf hZ e3 (U_UNORDERED.2.1.ext O0.2)
  obtain ⟨_, _, ⟨T4, L4, k4, n4⟩, -, X4, ⟨Lc4, hQ4, l4, y4, z4⟩, st4⟩ := X3.virtualBack hx (y := (⟨"com/example/bindweave/bindweave/expression/Order", "reversed", "()Lcom/example/bindweave/bindweave/expression/Order;"⟩ : MethodName)) (z := (⟨"com/example/bindweave/bindweave/expression/Order", "reversed", "()Lcom/example/bindweave/bindweave/expression/Order;"⟩ : MethodName)) hown (mvT hZ (hw _ (own_m 5 rfl))) (mvT hZ (hw _ (own_m 6 rfl))) (notFace_of_selects (args := #[]) (mvT hZ (hw _ (own_m 8 rfl)))) (mvT hZ (hw _ (own_m 8 rfl))) (mvT hZ (hw _ (own_m 7 rfl))) (by decide) (backOf (W := 0) (own_rev_UNORDERED l Z a0 hw [] w_LESS w_EQUAL w_GREATER w_UNORDERED  h0 n0 O0 U_LESS U_EQUAL U_GREATER U_UNORDERED ) hZ (hw _ (own_m 9 rfl)) (hw _ (own_m 1 rfl)) (by decide) (by decide)) q4a q4c (g := (mkF m 95 #[iv p0, iv p1, iv p2, iv 3, rv w_UNORDERED, rv w_UNORDERED, rv w_UNORDERED, iv 1, .unset, .unset, .unset, .unset, .unset] [(.ref w_UNORDERED)])) rfl (by rw [hml]; rfl) (Steps.refl _) (argsL := []) (rest := []) (lenOf own_pd0 rfl) rfl (by show 2 * 0 + _ ≤ _; exact Nat.le_of_eq rfl) (hb hby at_95) (fun _ _ => ⟨rfl, e3, (by decide : 0 + 0 ≤ _), (by decide : 0 + 0 ≤ _)⟩)
  dsimp only [Pt.U, Pt.locs, Pt.cells, Pt.slots] at X4 l4 y4 z4 st4 hQ4
  subst l4 y4 z4
  obtain ⟨rfl, N4q, e4⟩ := hQ4
  have N4 := Fr.app N3 N4q
  obtain ⟨_, _, ⟨T5, L5, k5, n5⟩, -, X5, ⟨Lc5, hQ5, l5, y5, z5⟩, st5⟩ := Jvm.LawKit.callS X4 hx (y := (⟨"com/example/bindweave/bindweave/expression/OrderReversedPinLaw", "sign", "(II)I"⟩ : MethodName)) hown (mvT hZ (hw _ (own_m 12 rfl))) (mvT hZ (hw _ (own_m 13 rfl))) (mvT hZ (hw _ (own_m 14 rfl))) (mvT hZ (hw _ (own_m 15 rfl))) (by decide) (backOf (W := 0) (own_sg_G l Z a0 hw [] w_LESS w_EQUAL w_GREATER w_UNORDERED p1 p2 h0 n0 O0 U_LESS U_EQUAL U_GREATER U_UNORDERED hk.2.1 hk.2.2) hZ (hw _ (own_m 15 rfl)) (hw _ (own_m 14 rfl)) (by decide) (by decide)) (g := (mkF m 112 #[iv p0, iv p1, iv p2, iv 3, rv w_UNORDERED, rv w_UNORDERED, rv w_UNORDERED, iv 1, iv 1, .unset, .unset, .unset, .unset] [(.int p2), (.int p1)])) rfl (by rw [hml]; rfl) (argsL := [(.int p1), (.int p2)]) (rest := []) (lenOf own_pd1 rfl) rfl (by show 2 * 0 + _ ≤ _; exact Nat.le_of_eq rfl) (hb hby at_112) (fun _ _ => ⟨rfl, e4, (by decide : 0 + 0 ≤ _), (by decide : 0 + 0 ≤ _)⟩)
  dsimp only [Pt.U, Pt.locs, Pt.cells, Pt.slots] at X5 l5 y5 z5 st5 hQ5
  subst l5 y5 z5
  obtain ⟨rfl, N5q, e5⟩ := hQ5
  have N5 := Fr.app N4 N5q
  obtain ⟨_, _, ⟨T6, L6, k6, n6⟩, -, X6, ⟨Lc6, hQ6, l6, y6, z6⟩, st6⟩ := Jvm.LawKit.callS X5 hx (y := (⟨"com/example/bindweave/bindweave/expression/Order", "of", "(I)Lcom/example/bindweave/bindweave/expression/Order;"⟩ : MethodName)) hown (mvT hZ (hw _ (own_m 16 rfl))) (mvT hZ (hw _ (own_m 17 rfl))) (mvT hZ (hw _ (own_m 1 rfl))) (mvT hZ (hw _ (own_m 18 rfl))) (by decide) (backOf (W := 0) (own_of_G l Z a0 hw [] w_LESS w_EQUAL w_GREATER w_UNORDERED (1 : Int32) h0 n0 O0 U_LESS U_EQUAL U_GREATER U_UNORDERED (by decide) (by decide)) hZ (hw _ (own_m 18 rfl)) (hw _ (own_m 1 rfl)) (by decide) (by decide)) (g := (mkF m 115 #[iv p0, iv p1, iv p2, iv 3, rv w_UNORDERED, rv w_UNORDERED, rv w_UNORDERED, iv 1, iv 1, .unset, .unset, .unset, .unset] [(.int 1)])) rfl (by rw [hml]; rfl) (argsL := [(.int 1)]) (rest := []) (lenOf own_pd2 rfl) rfl (by show 2 * 0 + _ ≤ _; exact Nat.le_of_eq rfl) (hb hby at_115) (fun _ _ => ⟨rfl, e5, (by decide : 0 + 0 ≤ _), (by decide : 0 + 0 ≤ _)⟩)
  dsimp only [Pt.U, Pt.locs, Pt.cells, Pt.slots] at X6 l6 y6 z6 st6 hQ6
  subst l6 y6 z6
  obtain ⟨rfl, N6q, e6⟩ := hQ6
  have N6 := Fr.app N5 N6q
  obtain ⟨_, _, ⟨T7, L7, k7, n7⟩, -, X7, ⟨Lc7, hQ7, l7, y7, z7⟩, st7⟩ := Jvm.LawKit.callS X6 hx (y := (⟨"com/example/bindweave/bindweave/expression/OrderReversedPinLaw", "sign", "(II)I"⟩ : MethodName)) hown (mvT hZ (hw _ (own_m 12 rfl))) (mvT hZ (hw _ (own_m 13 rfl))) (mvT hZ (hw _ (own_m 14 rfl))) (mvT hZ (hw _ (own_m 15 rfl))) (by decide) (backOf (W := 0) (own_sg_L l Z a0 hw [] w_LESS w_EQUAL w_GREATER w_UNORDERED p2 p1 h0 n0 O0 U_LESS U_EQUAL U_GREATER U_UNORDERED hk.2.2) hZ (hw _ (own_m 15 rfl)) (hw _ (own_m 14 rfl)) (by decide) (by decide)) (g := (mkF m 122 #[iv p0, iv p1, iv p2, iv 3, rv w_UNORDERED, rv w_UNORDERED, rv w_UNORDERED, iv 1, iv 1, rv w_GREATER, .unset, .unset, .unset] [(.int p1), (.int p2)])) rfl (by rw [hml]; rfl) (argsL := [(.int p2), (.int p1)]) (rest := []) (lenOf own_pd1 rfl) rfl (by show 2 * 0 + _ ≤ _; exact Nat.le_of_eq rfl) (hb hby at_122) (fun _ _ => ⟨rfl, e6, (by decide : 0 + 0 ≤ _), (by decide : 0 + 0 ≤ _)⟩)
  dsimp only [Pt.U, Pt.locs, Pt.cells, Pt.slots] at X7 l7 y7 z7 st7 hQ7
  subst l7 y7 z7
  obtain ⟨rfl, N7q, e7⟩ := hQ7
  have N7 := Fr.app N6 N7q
  obtain ⟨_, _, ⟨T8, L8, k8, n8⟩, -, X8, ⟨Lc8, hQ8, l8, y8, z8⟩, st8⟩ := Jvm.LawKit.callS X7 hx (y := (⟨"com/example/bindweave/bindweave/expression/Order", "of", "(I)Lcom/example/bindweave/bindweave/expression/Order;"⟩ : MethodName)) hown (mvT hZ (hw _ (own_m 16 rfl))) (mvT hZ (hw _ (own_m 17 rfl))) (mvT hZ (hw _ (own_m 1 rfl))) (mvT hZ (hw _ (own_m 18 rfl))) (by decide) (backOf (W := 0) (own_of_L l Z a0 hw [] w_LESS w_EQUAL w_GREATER w_UNORDERED (-1 : Int32) h0 n0 O0 U_LESS U_EQUAL U_GREATER U_UNORDERED (by decide)) hZ (hw _ (own_m 18 rfl)) (hw _ (own_m 1 rfl)) (by decide) (by decide)) (g := (mkF m 125 #[iv p0, iv p1, iv p2, iv 3, rv w_UNORDERED, rv w_UNORDERED, rv w_UNORDERED, iv 1, iv 1, rv w_GREATER, .unset, .unset, .unset] [(.int (-1))])) rfl (by rw [hml]; rfl) (argsL := [(.int (-1))]) (rest := []) (lenOf own_pd2 rfl) rfl (by show 2 * 0 + _ ≤ _; exact Nat.le_of_eq rfl) (hb hby at_125) (fun _ _ => ⟨rfl, e7, (by decide : 0 + 0 ≤ _), (by decide : 0 + 0 ≤ _)⟩)
  dsimp only [Pt.U, Pt.locs, Pt.cells, Pt.slots] at X8 l8 y8 z8 st8 hQ8
  subst l8 y8 z8
  obtain ⟨rfl, N8q, e8⟩ := hQ8
  have N8 := Fr.app N7 N8q
  obtain ⟨cq9, kq9, q9a, q9b, q9c⟩ := isOf hZ e8 (U_GREATER.2.1.ext O0.2)
  obtain ⟨_, _, ⟨T9, L9, k9, n9⟩, -, X9, ⟨Lc9, hQ9, l9, y9, z9⟩, st9⟩ := X8.virtualBack hx (y := (⟨"com/example/bindweave/bindweave/expression/Order", "reversed", "()Lcom/example/bindweave/bindweave/expression/Order;"⟩ : MethodName)) (z := (⟨"com/example/bindweave/bindweave/expression/Order", "reversed", "()Lcom/example/bindweave/bindweave/expression/Order;"⟩ : MethodName)) hown (mvT hZ (hw _ (own_m 5 rfl))) (mvT hZ (hw _ (own_m 6 rfl))) (notFace_of_selects (args := #[]) (mvT hZ (hw _ (own_m 8 rfl)))) (mvT hZ (hw _ (own_m 8 rfl))) (mvT hZ (hw _ (own_m 7 rfl))) (by decide) (backOf (W := 0) (own_rev_GREATER l Z a0 hw [] w_LESS w_EQUAL w_GREATER w_UNORDERED  h0 n0 O0 U_LESS U_EQUAL U_GREATER U_UNORDERED ) hZ (hw _ (own_m 9 rfl)) (hw _ (own_m 1 rfl)) (by decide) (by decide)) q9a q9c (g := (mkF m 132 #[iv p0, iv p1, iv p2, iv 3, rv w_UNORDERED, rv w_UNORDERED, rv w_UNORDERED, iv 1, iv 1, rv w_GREATER, rv w_LESS, .unset, .unset] [(.ref w_GREATER)])) rfl (by rw [hml]; rfl) (Steps.refl _) (argsL := []) (rest := []) (lenOf own_pd0 rfl) rfl (by show 2 * 0 + _ ≤ _; exact Nat.le_of_eq rfl) (hb hby at_132) (fun _ _ => ⟨rfl, e8, (by decide : 0 + 0 ≤ _), (by decide : 0 + 0 ≤ _)⟩)
  dsimp only [Pt.U, Pt.locs, Pt.cells, Pt.slots] at X9 l9 y9 z9 st9 hQ9
  subst l9 y9 z9
  obtain ⟨rfl, N9q, e9⟩ := hQ9
  have N9 := Fr.app N8 N9q
  obtain ⟨fs, hr, hrun, hended, hW, hsame⟩ := X9.leave (v := some (.int 1)) (fun h => by rw [Bd.returns] at h; cases h)
  refine ⟨_, _, pre0 _ ?_, hrun, hended, _, _, rfl, ?_, ⟨_, rfl⟩, hW, hsame.mono (by decide) (by decide)⟩
  · show Steps p.tables e below (s₁.setTop (mkF m 0 #[iv p0, iv p1, iv p2, .unset, .unset, .unset, .unset, .unset, .unset, .unset, .unset, .unset, .unset] [])) _
    refine XS.iloadN X0.here hx rfl (hb hby at_0) rfl ?_
    show Steps p.tables e below (s₁.setTop (mkF m 1 #[iv p0, iv p1, iv p2, .unset, .unset, .unset, .unset, .unset, .unset, .unset, .unset, .unset, .unset] [(.int p0)])) _
    refine XS.iconst X0.here hx rfl (hb hby at_1) ?_
    show Steps p.tables e below (s₁.setTop (mkF m 2 #[iv p0, iv p1, iv p2, .unset, .unset, .unset, .unset, .unset, .unset, .unset, .unset, .unset, .unset] [(.int 3), (.int p0)])) _
    refine XS.iand X0.here hx rfl (hb hby at_2) rfl ?_
    show Steps p.tables e below (s₁.setTop (mkF m 3 #[iv p0, iv p1, iv p2, .unset, .unset, .unset, .unset, .unset, .unset, .unset, .unset, .unset, .unset] [(.int (p0 &&& (3 : Int32)))])) _
    refine own_top (v' := (.int 3)) (congrArg Value.int hk.1) ?_
    show Steps p.tables e below (s₁.setTop (mkF m 3 #[iv p0, iv p1, iv p2, .unset, .unset, .unset, .unset, .unset, .unset, .unset, .unset, .unset, .unset] [(.int 3)])) _
    refine XS.istoreN X0.here hx rfl (hb hby at_3) rfl (l' := #[iv p0, iv p1, iv p2, iv 3, .unset, .unset, .unset, .unset, .unset, .unset, .unset, .unset, .unset]) rfl ?_
    show Steps p.tables e below (s₁.setTop (mkF m 4 #[iv p0, iv p1, iv p2, iv 3, .unset, .unset, .unset, .unset, .unset, .unset, .unset, .unset, .unset] [])) _
    refine XS.iloadN X0.here hx rfl (hb hby at_4) rfl ?_
    show Steps p.tables e below (s₁.setTop (mkF m 5 #[iv p0, iv p1, iv p2, iv 3, .unset, .unset, .unset, .unset, .unset, .unset, .unset, .unset, .unset] [(.int 3)])) _
    refine XS.ifYes X0.here hx rfl (pc0 := 5) (pc' := 21) rfl (hb hby at_5) rfl ((if0 _ _).trans (feq (by decide)).2) (by decide) (by decide) ?_
    show Steps p.tables e below (s₁.setTop (mkF m 21 #[iv p0, iv p1, iv p2, iv 3, .unset, .unset, .unset, .unset, .unset, .unset, .unset, .unset, .unset] [])) _
    refine XS.iloadN X0.here hx rfl (hb hby at_21) rfl ?_
    show Steps p.tables e below (s₁.setTop (mkF m 22 #[iv p0, iv p1, iv p2, iv 3, .unset, .unset, .unset, .unset, .unset, .unset, .unset, .unset, .unset] [(.int 3)])) _
    refine XS.iconst X0.here hx rfl (hb hby at_22) ?_
    show Steps p.tables e below (s₁.setTop (mkF m 23 #[iv p0, iv p1, iv p2, iv 3, .unset, .unset, .unset, .unset, .unset, .unset, .unset, .unset, .unset] [(.int 1), (.int 3)])) _
    refine XS.icmpYes X0.here hx rfl (pc0 := 23) (pc' := 39) rfl (hb hby at_23) rfl (feq (by decide)).2 (by decide) (by decide) ?_
    show Steps p.tables e below (s₁.setTop (mkF m 39 #[iv p0, iv p1, iv p2, iv 3, .unset, .unset, .unset, .unset, .unset, .unset, .unset, .unset, .unset] [])) _
    refine XS.iloadN X0.here hx rfl (hb hby at_39) rfl ?_
    show Steps p.tables e below (s₁.setTop (mkF m 40 #[iv p0, iv p1, iv p2, iv 3, .unset, .unset, .unset, .unset, .unset, .unset, .unset, .unset, .unset] [(.int 3)])) _
    refine XS.iconst X0.here hx rfl (hb hby at_40) ?_
    show Steps p.tables e below (s₁.setTop (mkF m 41 #[iv p0, iv p1, iv p2, iv 3, .unset, .unset, .unset, .unset, .unset, .unset, .unset, .unset, .unset] [(.int 2), (.int 3)])) _
    refine XS.icmpYes X0.here hx rfl (pc0 := 41) (pc' := 57) rfl (hb hby at_41) rfl (feq (by decide)).2 (by decide) (by decide) ?_
    show Steps p.tables e below (s₁.setTop (mkF m 57 #[iv p0, iv p1, iv p2, iv 3, .unset, .unset, .unset, .unset, .unset, .unset, .unset, .unset, .unset] [])) _
    refine st1 _ ?_
    show Steps p.tables e below (T1.setTop (mkF m 60 #[iv p0, iv p1, iv p2, iv 3, .unset, .unset, .unset, .unset, .unset, .unset, .unset, .unset, .unset] [(.ref w_UNORDERED)])) _
    refine XS.astore X1.here hx rfl (hb hby at_60) rfl rfl (l' := #[iv p0, iv p1, iv p2, iv 3, rv w_UNORDERED, .unset, .unset, .unset, .unset, .unset, .unset, .unset, .unset]) rfl ?_
    show Steps p.tables e below (T1.setTop (mkF m 62 #[iv p0, iv p1, iv p2, iv 3, rv w_UNORDERED, .unset, .unset, .unset, .unset, .unset, .unset, .unset, .unset] [])) _
    refine st2 _ ?_
    show Steps p.tables e below (T2.setTop (mkF m 65 #[iv p0, iv p1, iv p2, iv 3, rv w_UNORDERED, .unset, .unset, .unset, .unset, .unset, .unset, .unset, .unset] [(.ref w_UNORDERED)])) _
    refine XS.astore X2.here hx rfl (hb hby at_65) rfl rfl (l' := #[iv p0, iv p1, iv p2, iv 3, rv w_UNORDERED, rv w_UNORDERED, .unset, .unset, .unset, .unset, .unset, .unset, .unset]) rfl ?_
    show Steps p.tables e below (T2.setTop (mkF m 67 #[iv p0, iv p1, iv p2, iv 3, rv w_UNORDERED, rv w_UNORDERED, .unset, .unset, .unset, .unset, .unset, .unset, .unset] [])) _
    refine XS.aload X2.here hx rfl (hb hby at_67) rfl rfl ?_
    show Steps p.tables e below (T2.setTop (mkF m 69 #[iv p0, iv p1, iv p2, iv 3, rv w_UNORDERED, rv w_UNORDERED, .unset, .unset, .unset, .unset, .unset, .unset, .unset] [(.ref w_UNORDERED)])) _
    refine st3.trans ?_
    show Steps p.tables e below (T3.setTop (mkF m 72 #[iv p0, iv p1, iv p2, iv 3, rv w_UNORDERED, rv w_UNORDERED, .unset, .unset, .unset, .unset, .unset, .unset, .unset] [(.ref w_UNORDERED)])) _
    refine XS.astore X3.here hx rfl (hb hby at_72) rfl rfl (l' := #[iv p0, iv p1, iv p2, iv 3, rv w_UNORDERED, rv w_UNORDERED, rv w_UNORDERED, .unset, .unset, .unset, .unset, .unset, .unset]) rfl ?_
    show Steps p.tables e below (T3.setTop (mkF m 74 #[iv p0, iv p1, iv p2, iv 3, rv w_UNORDERED, rv w_UNORDERED, rv w_UNORDERED, .unset, .unset, .unset, .unset, .unset, .unset] [])) _
    refine XS.aload X3.here hx rfl (hb hby at_74) rfl rfl ?_
    show Steps p.tables e below (T3.setTop (mkF m 76 #[iv p0, iv p1, iv p2, iv 3, rv w_UNORDERED, rv w_UNORDERED, rv w_UNORDERED, .unset, .unset, .unset, .unset, .unset, .unset] [(.ref w_UNORDERED)])) _
    refine XS.aload X3.here hx rfl (hb hby at_76) rfl rfl ?_
    show Steps p.tables e below (T3.setTop (mkF m 78 #[iv p0, iv p1, iv p2, iv 3, rv w_UNORDERED, rv w_UNORDERED, rv w_UNORDERED, .unset, .unset, .unset, .unset, .unset, .unset] [(.ref w_UNORDERED), (.ref w_UNORDERED)])) _
    refine Jvm.RoadKit.acmp (g := (mkF m 78 #[iv p0, iv p1, iv p2, iv 3, rv w_UNORDERED, rv w_UNORDERED, rv w_UNORDERED, .unset, .unset, .unset, .unset, .unset, .unset] [(.ref w_UNORDERED), (.ref w_UNORDERED)])) X3 hx rfl rfl rfl (pc0 := 78) (pc' := 81) (same := true) rfl (hb hby at_78) rfl (decide_eq_true rfl) (by decide) (by decide) ?_
    show Steps p.tables e below (T3.setTop (mkF m 81 #[iv p0, iv p1, iv p2, iv 3, rv w_UNORDERED, rv w_UNORDERED, rv w_UNORDERED, .unset, .unset, .unset, .unset, .unset, .unset] [])) _
    refine XS.iconst X3.here hx rfl (hb hby at_81) ?_
    show Steps p.tables e below (T3.setTop (mkF m 82 #[iv p0, iv p1, iv p2, iv 3, rv w_UNORDERED, rv w_UNORDERED, rv w_UNORDERED, .unset, .unset, .unset, .unset, .unset, .unset] [(.int 1)])) _
    refine XS.goto X3.here hx rfl (pc0 := 82) (pc' := 86) rfl (hb hby at_82) (by decide) (by decide) ?_
    show Steps p.tables e below (T3.setTop (mkF m 86 #[iv p0, iv p1, iv p2, iv 3, rv w_UNORDERED, rv w_UNORDERED, rv w_UNORDERED, .unset, .unset, .unset, .unset, .unset, .unset] [(.int 1)])) _
    refine XS.istore X3.here hx rfl (hb hby at_86) rfl (l' := #[iv p0, iv p1, iv p2, iv 3, rv w_UNORDERED, rv w_UNORDERED, rv w_UNORDERED, iv 1, .unset, .unset, .unset, .unset, .unset]) rfl ?_
    show Steps p.tables e below (T3.setTop (mkF m 88 #[iv p0, iv p1, iv p2, iv 3, rv w_UNORDERED, rv w_UNORDERED, rv w_UNORDERED, iv 1, .unset, .unset, .unset, .unset, .unset] [])) _
    refine XS.aload X3.here hx rfl (hb hby at_88) rfl rfl ?_
    show Steps p.tables e below (T3.setTop (mkF m 90 #[iv p0, iv p1, iv p2, iv 3, rv w_UNORDERED, rv w_UNORDERED, rv w_UNORDERED, iv 1, .unset, .unset, .unset, .unset, .unset] [(.ref w_UNORDERED)])) _
    refine XS.ifnullNo X3.here hx rfl (hb hby at_90) rfl ?_
    show Steps p.tables e below (T3.setTop (mkF m 93 #[iv p0, iv p1, iv p2, iv 3, rv w_UNORDERED, rv w_UNORDERED, rv w_UNORDERED, iv 1, .unset, .unset, .unset, .unset, .unset] [])) _
    refine XS.aload X3.here hx rfl (hb hby at_93) rfl rfl ?_
    show Steps p.tables e below (T3.setTop (mkF m 95 #[iv p0, iv p1, iv p2, iv 3, rv w_UNORDERED, rv w_UNORDERED, rv w_UNORDERED, iv 1, .unset, .unset, .unset, .unset, .unset] [(.ref w_UNORDERED)])) _
    refine st4.trans ?_
    show Steps p.tables e below (T4.setTop (mkF m 98 #[iv p0, iv p1, iv p2, iv 3, rv w_UNORDERED, rv w_UNORDERED, rv w_UNORDERED, iv 1, .unset, .unset, .unset, .unset, .unset] [(.ref w_UNORDERED)])) _
    refine XS.aload X4.here hx rfl (hb hby at_98) rfl rfl ?_
    show Steps p.tables e below (T4.setTop (mkF m 100 #[iv p0, iv p1, iv p2, iv 3, rv w_UNORDERED, rv w_UNORDERED, rv w_UNORDERED, iv 1, .unset, .unset, .unset, .unset, .unset] [(.ref w_UNORDERED), (.ref w_UNORDERED)])) _
    refine Jvm.RoadKit.acmp (g := (mkF m 100 #[iv p0, iv p1, iv p2, iv 3, rv w_UNORDERED, rv w_UNORDERED, rv w_UNORDERED, iv 1, .unset, .unset, .unset, .unset, .unset] [(.ref w_UNORDERED), (.ref w_UNORDERED)])) X4 hx rfl rfl rfl (pc0 := 100) (pc' := 103) (same := true) rfl (hb hby at_100) rfl (decide_eq_true rfl) (by decide) (by decide) ?_
    show Steps p.tables e below (T4.setTop (mkF m 103 #[iv p0, iv p1, iv p2, iv 3, rv w_UNORDERED, rv w_UNORDERED, rv w_UNORDERED, iv 1, .unset, .unset, .unset, .unset, .unset] [])) _
    refine XS.iconst X4.here hx rfl (hb hby at_103) ?_
    show Steps p.tables e below (T4.setTop (mkF m 104 #[iv p0, iv p1, iv p2, iv 3, rv w_UNORDERED, rv w_UNORDERED, rv w_UNORDERED, iv 1, .unset, .unset, .unset, .unset, .unset] [(.int 1)])) _
    refine XS.goto X4.here hx rfl (pc0 := 104) (pc' := 108) rfl (hb hby at_104) (by decide) (by decide) ?_
    show Steps p.tables e below (T4.setTop (mkF m 108 #[iv p0, iv p1, iv p2, iv 3, rv w_UNORDERED, rv w_UNORDERED, rv w_UNORDERED, iv 1, .unset, .unset, .unset, .unset, .unset] [(.int 1)])) _
    refine XS.istore X4.here hx rfl (hb hby at_108) rfl (l' := #[iv p0, iv p1, iv p2, iv 3, rv w_UNORDERED, rv w_UNORDERED, rv w_UNORDERED, iv 1, iv 1, .unset, .unset, .unset, .unset]) rfl ?_
    show Steps p.tables e below (T4.setTop (mkF m 110 #[iv p0, iv p1, iv p2, iv 3, rv w_UNORDERED, rv w_UNORDERED, rv w_UNORDERED, iv 1, iv 1, .unset, .unset, .unset, .unset] [])) _
    refine XS.iloadN X4.here hx rfl (hb hby at_110) rfl ?_
    show Steps p.tables e below (T4.setTop (mkF m 111 #[iv p0, iv p1, iv p2, iv 3, rv w_UNORDERED, rv w_UNORDERED, rv w_UNORDERED, iv 1, iv 1, .unset, .unset, .unset, .unset] [(.int p1)])) _
    refine XS.iloadN X4.here hx rfl (hb hby at_111) rfl ?_
    show Steps p.tables e below (T4.setTop (mkF m 112 #[iv p0, iv p1, iv p2, iv 3, rv w_UNORDERED, rv w_UNORDERED, rv w_UNORDERED, iv 1, iv 1, .unset, .unset, .unset, .unset] [(.int p2), (.int p1)])) _
    refine st5 _ ?_
    show Steps p.tables e below (T5.setTop (mkF m 115 #[iv p0, iv p1, iv p2, iv 3, rv w_UNORDERED, rv w_UNORDERED, rv w_UNORDERED, iv 1, iv 1, .unset, .unset, .unset, .unset] [(.int 1)])) _
    refine st6 _ ?_
    show Steps p.tables e below (T6.setTop (mkF m 118 #[iv p0, iv p1, iv p2, iv 3, rv w_UNORDERED, rv w_UNORDERED, rv w_UNORDERED, iv 1, iv 1, .unset, .unset, .unset, .unset] [(.ref w_GREATER)])) _
    refine XS.astore X6.here hx rfl (hb hby at_118) rfl rfl (l' := #[iv p0, iv p1, iv p2, iv 3, rv w_UNORDERED, rv w_UNORDERED, rv w_UNORDERED, iv 1, iv 1, rv w_GREATER, .unset, .unset, .unset]) rfl ?_
    show Steps p.tables e below (T6.setTop (mkF m 120 #[iv p0, iv p1, iv p2, iv 3, rv w_UNORDERED, rv w_UNORDERED, rv w_UNORDERED, iv 1, iv 1, rv w_GREATER, .unset, .unset, .unset] [])) _
    refine XS.iloadN X6.here hx rfl (hb hby at_120) rfl ?_
    show Steps p.tables e below (T6.setTop (mkF m 121 #[iv p0, iv p1, iv p2, iv 3, rv w_UNORDERED, rv w_UNORDERED, rv w_UNORDERED, iv 1, iv 1, rv w_GREATER, .unset, .unset, .unset] [(.int p2)])) _
    refine XS.iloadN X6.here hx rfl (hb hby at_121) rfl ?_
    show Steps p.tables e below (T6.setTop (mkF m 122 #[iv p0, iv p1, iv p2, iv 3, rv w_UNORDERED, rv w_UNORDERED, rv w_UNORDERED, iv 1, iv 1, rv w_GREATER, .unset, .unset, .unset] [(.int p1), (.int p2)])) _
    refine st7 _ ?_
    show Steps p.tables e below (T7.setTop (mkF m 125 #[iv p0, iv p1, iv p2, iv 3, rv w_UNORDERED, rv w_UNORDERED, rv w_UNORDERED, iv 1, iv 1, rv w_GREATER, .unset, .unset, .unset] [(.int (-1))])) _
    refine st8 _ ?_
    show Steps p.tables e below (T8.setTop (mkF m 128 #[iv p0, iv p1, iv p2, iv 3, rv w_UNORDERED, rv w_UNORDERED, rv w_UNORDERED, iv 1, iv 1, rv w_GREATER, .unset, .unset, .unset] [(.ref w_LESS)])) _
    refine XS.astore X8.here hx rfl (hb hby at_128) rfl rfl (l' := #[iv p0, iv p1, iv p2, iv 3, rv w_UNORDERED, rv w_UNORDERED, rv w_UNORDERED, iv 1, iv 1, rv w_GREATER, rv w_LESS, .unset, .unset]) rfl ?_
    show Steps p.tables e below (T8.setTop (mkF m 130 #[iv p0, iv p1, iv p2, iv 3, rv w_UNORDERED, rv w_UNORDERED, rv w_UNORDERED, iv 1, iv 1, rv w_GREATER, rv w_LESS, .unset, .unset] [])) _
    refine XS.aload X8.here hx rfl (hb hby at_130) rfl rfl ?_
    show Steps p.tables e below (T8.setTop (mkF m 132 #[iv p0, iv p1, iv p2, iv 3, rv w_UNORDERED, rv w_UNORDERED, rv w_UNORDERED, iv 1, iv 1, rv w_GREATER, rv w_LESS, .unset, .unset] [(.ref w_GREATER)])) _
    refine st9.trans ?_
    show Steps p.tables e below (T9.setTop (mkF m 135 #[iv p0, iv p1, iv p2, iv 3, rv w_UNORDERED, rv w_UNORDERED, rv w_UNORDERED, iv 1, iv 1, rv w_GREATER, rv w_LESS, .unset, .unset] [(.ref w_LESS)])) _
    refine XS.astore X9.here hx rfl (hb hby at_135) rfl rfl (l' := #[iv p0, iv p1, iv p2, iv 3, rv w_UNORDERED, rv w_UNORDERED, rv w_UNORDERED, iv 1, iv 1, rv w_GREATER, rv w_LESS, rv w_LESS, .unset]) rfl ?_
    show Steps p.tables e below (T9.setTop (mkF m 137 #[iv p0, iv p1, iv p2, iv 3, rv w_UNORDERED, rv w_UNORDERED, rv w_UNORDERED, iv 1, iv 1, rv w_GREATER, rv w_LESS, rv w_LESS, .unset] [])) _
    refine XS.aload X9.here hx rfl (hb hby at_137) rfl rfl ?_
    show Steps p.tables e below (T9.setTop (mkF m 139 #[iv p0, iv p1, iv p2, iv 3, rv w_UNORDERED, rv w_UNORDERED, rv w_UNORDERED, iv 1, iv 1, rv w_GREATER, rv w_LESS, rv w_LESS, .unset] [(.ref w_LESS)])) _
    refine XS.aload X9.here hx rfl (hb hby at_139) rfl rfl ?_
    show Steps p.tables e below (T9.setTop (mkF m 141 #[iv p0, iv p1, iv p2, iv 3, rv w_UNORDERED, rv w_UNORDERED, rv w_UNORDERED, iv 1, iv 1, rv w_GREATER, rv w_LESS, rv w_LESS, .unset] [(.ref w_LESS), (.ref w_LESS)])) _
    refine Jvm.RoadKit.acmp (g := (mkF m 141 #[iv p0, iv p1, iv p2, iv 3, rv w_UNORDERED, rv w_UNORDERED, rv w_UNORDERED, iv 1, iv 1, rv w_GREATER, rv w_LESS, rv w_LESS, .unset] [(.ref w_LESS), (.ref w_LESS)])) X9 hx rfl rfl rfl (pc0 := 141) (pc' := 144) (same := true) rfl (hb hby at_141) rfl (decide_eq_true rfl) (by decide) (by decide) ?_
    show Steps p.tables e below (T9.setTop (mkF m 144 #[iv p0, iv p1, iv p2, iv 3, rv w_UNORDERED, rv w_UNORDERED, rv w_UNORDERED, iv 1, iv 1, rv w_GREATER, rv w_LESS, rv w_LESS, .unset] [])) _
    refine XS.iconst X9.here hx rfl (hb hby at_144) ?_
    show Steps p.tables e below (T9.setTop (mkF m 145 #[iv p0, iv p1, iv p2, iv 3, rv w_UNORDERED, rv w_UNORDERED, rv w_UNORDERED, iv 1, iv 1, rv w_GREATER, rv w_LESS, rv w_LESS, .unset] [(.int 1)])) _
    refine XS.goto X9.here hx rfl (pc0 := 145) (pc' := 149) rfl (hb hby at_145) (by decide) (by decide) ?_
    show Steps p.tables e below (T9.setTop (mkF m 149 #[iv p0, iv p1, iv p2, iv 3, rv w_UNORDERED, rv w_UNORDERED, rv w_UNORDERED, iv 1, iv 1, rv w_GREATER, rv w_LESS, rv w_LESS, .unset] [(.int 1)])) _
    refine XS.istore X9.here hx rfl (hb hby at_149) rfl (l' := #[iv p0, iv p1, iv p2, iv 3, rv w_UNORDERED, rv w_UNORDERED, rv w_UNORDERED, iv 1, iv 1, rv w_GREATER, rv w_LESS, rv w_LESS, iv 1]) rfl ?_
    show Steps p.tables e below (T9.setTop (mkF m 151 #[iv p0, iv p1, iv p2, iv 3, rv w_UNORDERED, rv w_UNORDERED, rv w_UNORDERED, iv 1, iv 1, rv w_GREATER, rv w_LESS, rv w_LESS, iv 1] [])) _
    refine XS.iload X9.here hx rfl (hb hby at_151) rfl ?_
    show Steps p.tables e below (T9.setTop (mkF m 153 #[iv p0, iv p1, iv p2, iv 3, rv w_UNORDERED, rv w_UNORDERED, rv w_UNORDERED, iv 1, iv 1, rv w_GREATER, rv w_LESS, rv w_LESS, iv 1] [(.int 1)])) _
    refine XS.ifNo X9.here hx rfl (hb hby at_153) rfl ((if0 _ _).trans (feq (by decide)).1) ?_
    show Steps p.tables e below (T9.setTop (mkF m 156 #[iv p0, iv p1, iv p2, iv 3, rv w_UNORDERED, rv w_UNORDERED, rv w_UNORDERED, iv 1, iv 1, rv w_GREATER, rv w_LESS, rv w_LESS, iv 1] [])) _
    refine XS.iload X9.here hx rfl (hb hby at_156) rfl ?_
    show Steps p.tables e below (T9.setTop (mkF m 158 #[iv p0, iv p1, iv p2, iv 3, rv w_UNORDERED, rv w_UNORDERED, rv w_UNORDERED, iv 1, iv 1, rv w_GREATER, rv w_LESS, rv w_LESS, iv 1] [(.int 1)])) _
    refine XS.ifNo X9.here hx rfl (hb hby at_158) rfl ((if0 _ _).trans (feq (by decide)).1) ?_
    show Steps p.tables e below (T9.setTop (mkF m 161 #[iv p0, iv p1, iv p2, iv 3, rv w_UNORDERED, rv w_UNORDERED, rv w_UNORDERED, iv 1, iv 1, rv w_GREATER, rv w_LESS, rv w_LESS, iv 1] [])) _
    refine XS.iload X9.here hx rfl (hb hby at_161) rfl ?_
    show Steps p.tables e below (T9.setTop (mkF m 163 #[iv p0, iv p1, iv p2, iv 3, rv w_UNORDERED, rv w_UNORDERED, rv w_UNORDERED, iv 1, iv 1, rv w_GREATER, rv w_LESS, rv w_LESS, iv 1] [(.int 1)])) _
    refine XS.ifNo X9.here hx rfl (hb hby at_163) rfl ((if0 _ _).trans (feq (by decide)).1) ?_
    show Steps p.tables e below (T9.setTop (mkF m 166 #[iv p0, iv p1, iv p2, iv 3, rv w_UNORDERED, rv w_UNORDERED, rv w_UNORDERED, iv 1, iv 1, rv w_GREATER, rv w_LESS, rv w_LESS, iv 1] [])) _
    refine XS.iconst X9.here hx rfl (hb hby at_166) ?_
    show Steps p.tables e below (T9.setTop (mkF m 167 #[iv p0, iv p1, iv p2, iv 3, rv w_UNORDERED, rv w_UNORDERED, rv w_UNORDERED, iv 1, iv 1, rv w_GREATER, rv w_LESS, rv w_LESS, iv 1] [(.int 1)])) _
    refine XS.goto X9.here hx rfl (pc0 := 167) (pc' := 171) rfl (hb hby at_167) (by decide) (by decide) ?_
    show Steps p.tables e below (T9.setTop (mkF m 171 #[iv p0, iv p1, iv p2, iv 3, rv w_UNORDERED, rv w_UNORDERED, rv w_UNORDERED, iv 1, iv 1, rv w_GREATER, rv w_LESS, rv w_LESS, iv 1] [(.int 1)])) _
    exact retN X9 hx (t := .boolean) Bd.returns (by simp) (hb hby at_171) hr
  · show own_law11_Q Z w_LESS w_EQUAL w_GREATER w_UNORDERED p0 p1 p2 h0 n0 _ T9.heap _
    rw [e9]
    exact ⟨rfl, N9, trivial⟩
def own_law_Q (h0 : Heap) (n0 : Nat) (v : Option Value) (h : Heap) (L : List Loc) : Prop := v = some (.int 1) ∧ Fr n0 L
theorem own_law (l : Launch) (Z : State) (a0 : Array Value) (hw : ∀ d ∈ tables_1, d.before a0 Z = true) (ws : List Jvm.Cond) (w_LESS : Addr) (w_EQUAL : Addr) (w_GREATER : Addr) (w_UNORDERED : Addr) (p0 : Int32) (p1 : Int32) (p2 : Int32) (h0 : Heap) (n0 : Nat) (O0 : Old Z n0 h0) (U_LESS : own_En Z Z.heap "com/example/bindweave/bindweave/expression/Order" "LESS" "Lcom/example/bindweave/bindweave/expression/Order;" w_LESS (0 : Int32)) (U_EQUAL : own_En Z Z.heap "com/example/bindweave/bindweave/expression/Order" "EQUAL" "Lcom/example/bindweave/bindweave/expression/Order;" w_EQUAL (1 : Int32)) (U_GREATER : own_En Z Z.heap "com/example/bindweave/bindweave/expression/Order" "GREATER" "Lcom/example/bindweave/bindweave/expression/Order;" w_GREATER (2 : Int32)) (U_UNORDERED : own_En Z Z.heap "com/example/bindweave/bindweave/expression/Order" "UNORDERED" "Lcom/example/bindweave/bindweave/expression/Order;" w_UNORDERED (3 : Int32)) :
    MetFree l x (head1 (Jvm.Cond.code x code maxLocals ret :: ws) room_1) (fun a U => a = #[(.int p0), (.int p1), (.int p2)] ∧ Z.Warmed39 U.vm ∧ U.heap = h0) (fun _ _ _ _ _ => True) (fun _ U o U' => ∃ v L, o = .returned v ∧ own_law_Q h0 n0 v U'.heap L ∧ FrameEnd U o U' L 0 0) := by
  have weak : ∀ {P Q : Option Value → Heap → List Loc → Prop}, (∀ v h L, P v h L → Q v h L) → MetFree l x (head1 (Jvm.Cond.code x code maxLocals ret :: ws) room_1) (fun a U => a = #[(.int p0), (.int p1), (.int p2)] ∧ Z.Warmed39 U.vm ∧ U.heap = h0) (fun _ _ _ _ _ => True) (fun _ U o U' => ∃ v L, o = .returned v ∧ P v U'.heap L ∧ FrameEnd U o U' L 0 0) → MetFree l x (head1 (Jvm.Cond.code x code maxLocals ret :: ws) room_1) (fun a U => a = #[(.int p0), (.int p1), (.int p2)] ∧ Z.Warmed39 U.vm ∧ U.heap = h0) (fun _ _ _ _ _ => True) (fun _ U o U' => ∃ v L, o = .returned v ∧ Q v U'.heap L ∧ FrameEnd U o U' L 0 0) := by
    intro P Q hPQ hM p e ha hc hk s m args below hf happ hP hK
    obtain ⟨n, o, h1, h2, h3, v, L, h4, h5, h6⟩ := hM p e ha hc hk s m args below hf happ hP hK
    exact ⟨n, o, h1, h2, h3, v, L, h4, hPQ _ _ _ h5, h6⟩
  rcases own_both p0 p1 p2 with hk | hk | hk | hk | hk | hk | hk | hk | hk | hk | hk | hk
  · exact weak (fun _ _ _ q => ⟨q.1, q.2.1⟩) (own_law0 l Z a0 hw ws w_LESS w_EQUAL w_GREATER w_UNORDERED p0 p1 p2 h0 n0 O0 U_LESS U_EQUAL U_GREATER U_UNORDERED hk)
  · exact weak (fun _ _ _ q => ⟨q.1, q.2.1⟩) (own_law1 l Z a0 hw ws w_LESS w_EQUAL w_GREATER w_UNORDERED p0 p1 p2 h0 n0 O0 U_LESS U_EQUAL U_GREATER U_UNORDERED hk)
  · exact weak (fun _ _ _ q => ⟨q.1, q.2.1⟩) (own_law2 l Z a0 hw ws w_LESS w_EQUAL w_GREATER w_UNORDERED p0 p1 p2 h0 n0 O0 U_LESS U_EQUAL U_GREATER U_UNORDERED hk)
  · exact weak (fun _ _ _ q => ⟨q.1, q.2.1⟩) (own_law3 l Z a0 hw ws w_LESS w_EQUAL w_GREATER w_UNORDERED p0 p1 p2 h0 n0 O0 U_LESS U_EQUAL U_GREATER U_UNORDERED hk)
  · exact weak (fun _ _ _ q => ⟨q.1, q.2.1⟩) (own_law4 l Z a0 hw ws w_LESS w_EQUAL w_GREATER w_UNORDERED p0 p1 p2 h0 n0 O0 U_LESS U_EQUAL U_GREATER U_UNORDERED hk)
  · exact weak (fun _ _ _ q => ⟨q.1, q.2.1⟩) (own_law5 l Z a0 hw ws w_LESS w_EQUAL w_GREATER w_UNORDERED p0 p1 p2 h0 n0 O0 U_LESS U_EQUAL U_GREATER U_UNORDERED hk)
  · exact weak (fun _ _ _ q => ⟨q.1, q.2.1⟩) (own_law6 l Z a0 hw ws w_LESS w_EQUAL w_GREATER w_UNORDERED p0 p1 p2 h0 n0 O0 U_LESS U_EQUAL U_GREATER U_UNORDERED hk)
  · exact weak (fun _ _ _ q => ⟨q.1, q.2.1⟩) (own_law7 l Z a0 hw ws w_LESS w_EQUAL w_GREATER w_UNORDERED p0 p1 p2 h0 n0 O0 U_LESS U_EQUAL U_GREATER U_UNORDERED hk)
  · exact weak (fun _ _ _ q => ⟨q.1, q.2.1⟩) (own_law8 l Z a0 hw ws w_LESS w_EQUAL w_GREATER w_UNORDERED p0 p1 p2 h0 n0 O0 U_LESS U_EQUAL U_GREATER U_UNORDERED hk)
  · exact weak (fun _ _ _ q => ⟨q.1, q.2.1⟩) (own_law9 l Z a0 hw ws w_LESS w_EQUAL w_GREATER w_UNORDERED p0 p1 p2 h0 n0 O0 U_LESS U_EQUAL U_GREATER U_UNORDERED hk)
  · exact weak (fun _ _ _ q => ⟨q.1, q.2.1⟩) (own_law10 l Z a0 hw ws w_LESS w_EQUAL w_GREATER w_UNORDERED p0 p1 p2 h0 n0 O0 U_LESS U_EQUAL U_GREATER U_UNORDERED hk)
  · exact weak (fun _ _ _ q => ⟨q.1, q.2.1⟩) (own_law11 l Z a0 hw ws w_LESS w_EQUAL w_GREATER w_UNORDERED p0 p1 p2 h0 n0 O0 U_LESS U_EQUAL U_GREATER U_UNORDERED hk)
set_option maxRecDepth 65536 in
set_option maxHeartbeats 40000000 in
theorem comes_1 {Post : Tables → Env → Array Value → State → Outcome → State → Prop} (hpost : ∀ tb e args s v u, (limb_1_1.after args s (.returned v) u = true ∧ limb_1_2.after args s (.returned v) u = true ∧ True) → FrameEnd s (.returned v) u (Jvm.fieldLocs frame_1_writes args s ++ Jvm.arrayLocs frame_1_arrays args s ++ Jvm.staticLocs frame_1_statics s) 0 0 → Post tb e args s (.returned v) u) :
    ArmFor flags0 classFile x code maxLocals ret World_1 tables_1 room_1 Calls_1 rest_1 Pre_1 Post := by
  intro l hfl _ _ p e ha hc hk s m args below hf hA hF happ hP
  obtain ⟨hcalls, hrest, hpre⟩ := hP
  obtain ⟨-, -, -, hnamed, -, -, -, hat⟩ := (Spec.applies_iff hf).mp happ
  obtain ⟨hg, hn⟩ := and_e (Cond.before_iff.mp (show (Jvm.Cond.and given_1 narrow_1).before args s = true from hpre))
  obtain ⟨hq1, hq2⟩ := and_e hg
  obtain ⟨hq3, hq4⟩ := and_e hq2
  obtain ⟨hq5, hq6⟩ := and_e hq4
  obtain ⟨w0, w1, w2, rfl⟩ : ∃ w0 w1 w2 : Value, args = #[w0, w1, w2] := by
    have hs : args.size = 3 := by simpa [Cond.value, given_1] using hq1
    obtain ⟨L⟩ := args
    match L, hs with
    | [w0, w1, w2], _ => exact ⟨w0, w1, w2, rfl⟩
  have hw := fun d (hd : d ∈ tables_1) => atoms_spec (ws := Jvm.Cond.code x code maxLocals ret :: tables_1) hat d (List.mem_cons_of_mem _ hd)
  have hfit : Fit s := fun {y c} hc i hi => by
    obtain ⟨ha, rfl⟩ := Array.getElem?_eq_some_iff.mp hc
    have q := List.all_eq_true.mp ((Array.all_eq_true_iff_forall_mem.mp hF) _ (Array.getElem_mem ha)) i (List.mem_range.mpr hi)
    simpa [Array.getElem?_eq_getElem hi] using q
  obtain ⟨i0, ei0⟩ := is_v hq3
  obtain rfl : w0 = (.int i0) := Option.some.inj ei0
  obtain ⟨i1, ei1⟩ := is_v hq5
  obtain rfl : w1 = (.int i1) := Option.some.inj ei1
  obtain ⟨i2, ei2⟩ := is_v hq6
  obtain rfl : w2 = (.int i2) := Option.some.inj ei2
  obtain ⟨hq7, hq8⟩ := and_e hn
  obtain ⟨hq9, hq10⟩ := and_e hq8
  obtain ⟨hq11, hq12⟩ := and_e hq10
  obtain ⟨hq13, hq14⟩ := and_e hq12
  obtain ⟨hq15, hq16⟩ := and_e hq14
  obtain ⟨hq17, hq18⟩ := and_e hq16
  obtain ⟨hq19, hq20⟩ := and_e hq18
  obtain ⟨w_LESS, ev_LESS⟩ := exa_v hq7
  have S_LESS : Sta s s.heap "com/example/bindweave/bindweave/expression/Order" "LESS" "Lcom/example/bindweave/bindweave/expression/Order;" (.ref w_LESS) := Sta.start ev_LESS (Or.inr ⟨(hw _ (own_m 1 rfl)), (hw _ (own_m 2 rfl))⟩)
  have E_LESS : Exa s s.heap w_LESS "com/example/bindweave/bindweave/expression/Order" := Exa.start ev_LESS hq7
  have R_LESS : Fld s s.heap w_LESS "java/lang/Enum" "ordinal" "I" (.int (0 : Int32)) := Fld.start ((fld_at ev_LESS).symm.trans (own_eqI hq13))
  have U_LESS := And.intro S_LESS (And.intro E_LESS R_LESS)
  obtain ⟨w_EQUAL, ev_EQUAL⟩ := exa_v hq15
  have S_EQUAL : Sta s s.heap "com/example/bindweave/bindweave/expression/Order" "EQUAL" "Lcom/example/bindweave/bindweave/expression/Order;" (.ref w_EQUAL) := Sta.start ev_EQUAL (Or.inr ⟨(hw _ (own_m 1 rfl)), (hw _ (own_m 20 rfl))⟩)
  have E_EQUAL : Exa s s.heap w_EQUAL "com/example/bindweave/bindweave/expression/Order" := Exa.start ev_EQUAL hq15
  have R_EQUAL : Fld s s.heap w_EQUAL "java/lang/Enum" "ordinal" "I" (.int (1 : Int32)) := Fld.start ((fld_at ev_EQUAL).symm.trans (own_eqI hq17))
  have U_EQUAL := And.intro S_EQUAL (And.intro E_EQUAL R_EQUAL)
  obtain ⟨w_GREATER, ev_GREATER⟩ := exa_v hq9
  have S_GREATER : Sta s s.heap "com/example/bindweave/bindweave/expression/Order" "GREATER" "Lcom/example/bindweave/bindweave/expression/Order;" (.ref w_GREATER) := Sta.start ev_GREATER (Or.inr ⟨(hw _ (own_m 1 rfl)), (hw _ (own_m 4 rfl))⟩)
  have E_GREATER : Exa s s.heap w_GREATER "com/example/bindweave/bindweave/expression/Order" := Exa.start ev_GREATER hq9
  have R_GREATER : Fld s s.heap w_GREATER "java/lang/Enum" "ordinal" "I" (.int (2 : Int32)) := Fld.start ((fld_at ev_GREATER).symm.trans (own_eqI hq11))
  have U_GREATER := And.intro S_GREATER (And.intro E_GREATER R_GREATER)
  obtain ⟨w_UNORDERED, ev_UNORDERED⟩ := exa_v hq19
  have S_UNORDERED : Sta s s.heap "com/example/bindweave/bindweave/expression/Order" "UNORDERED" "Lcom/example/bindweave/bindweave/expression/Order;" (.ref w_UNORDERED) := Sta.start ev_UNORDERED (Or.inr ⟨(hw _ (own_m 1 rfl)), (hw _ (own_m 22 rfl))⟩)
  have E_UNORDERED : Exa s s.heap w_UNORDERED "com/example/bindweave/bindweave/expression/Order" := Exa.start ev_UNORDERED hq19
  have R_UNORDERED : Fld s s.heap w_UNORDERED "java/lang/Enum" "ordinal" "I" (.int (3 : Int32)) := Fld.start ((fld_at ev_UNORDERED).symm.trans (own_eqI hq20))
  have U_UNORDERED := And.intro S_UNORDERED (And.intro E_UNORDERED R_UNORDERED)
  obtain ⟨n, o, h1, h2, h3, _, L, rfl, ⟨rfl, N⟩, hq⟩ := own_law l s _ hw tables_1 w_LESS w_EQUAL w_GREATER w_UNORDERED i0 i1 i2 s.heap s.heap.size (Old.start s) U_LESS U_EQUAL U_GREATER U_UNORDERED p e ha hc hk s m _ below hf ((Spec.applies_iff_loose hf).mp happ).1 ⟨rfl, State.Warmed39.refl s, rfl⟩ trivial
  refine ⟨n, _, h1, h2, h3, hpost _ _ _ _ _ _ ⟨Cond.after_iff.mpr rfl, Cond.after_iff.mpr (eq_i res_at (Term.int_eval (1)) rfl), trivial⟩ ⟨hq.1, hq.2.1, (hq.2.2.sift fun y hy => Or.inr (N y hy)).mono (by decide) (by decide)⟩⟩
theorem main_1_1 : Claimed_1_1 := comes_1 fun _ _ _ _ _ _ h hF => ⟨h.1, hF⟩
theorem main_1_2 : Claimed_1_2 := comes_1 fun _ _ _ _ _ _ h hF => ⟨h.2.1, hF⟩
end Jvm.Pilot.@@N@@
namespace Jvm.Pilot.@@N@@
open Jvm Jvm.ClassFile Sem Op Lib Jvm.Free Jvm.Stand Jvm.Pilot.@@N@@.Jvm.D
/-! MADE BY PROGRAM (witnessworld.py) out of the Statement's table words and the real class files: 10 classes; the members and pool entries that the words name. The judged class is class 1, her method 1. -/
namespace start1
open Jvm.ClassFile
def u (s : String) : CpInfo := .utf8 (stringToUtf16 s)
/-- a pool by its gaps: so many unusable entries, then the entry; so many at the end -/
def gap : Nat → List CpInfo → List CpInfo
  | 0, r => r
  | n + 1, r => .unusable :: gap n r
def poolList (es : List (Nat × CpInfo)) (last : Nat) : List CpInfo := es.foldr (fun e r => gap e.1 (e.2 :: r)) (gap last [])
def pool (es : List (Nat × CpInfo)) (last : Nat) : Array CpInfo := ⟨poolList es last⟩
def fileOf (pool : Array CpInfo) (this : Nat) (attrs : Array Attribute := #[]) (ms : Array MethodInfo := #[]) (fl : Nat := 33) (sup : Nat := 0) (ifs : Array Nat := #[]) (fds : Array FieldInfo := #[]) : ClassFile where
  minorVersion := 0
  majorVersion := 65
  constantPool := pool
  accessFlags := fl
  thisClass := this
  superClass := sup
  interfaces := ifs
  fields := fds
  methods := ms
  attributes := attrs
def plain (name : String) (sup : Option ClassId) : Class where
  name := name
  kind := .ordinary
  loader := none
  accessFlags := 33
  super := sup
  interfaces := #[]
  cf := none
  fields := #[]
  methods := #[]
  instanceTypes := #[]
  staticTypes := #[]
  resolved := #[]
  callSites := []
  init := .initialized
  statics := none
  mirror := none

def pool0 : Array CpInfo := pool [(5, u "<init>"), (0, u "()V"), (1, .class_ 10), (1, u "java/lang/Object")] 113

def k0m0 : Method := { name := "<init>", desc := "()V", sig := { parameters := [], returnType := none }, accessFlags := 1, code := none }
/-- java/lang/Object -/
def k0 : Class := { plain "java/lang/Object" none with
  accessFlags := 33
  interfaces := #[]
  cf := some (fileOf pool0 8 #[] #[{ accessFlags := 1, nameIndex := 5, descriptorIndex := 6, attributes := #[] }] 33 0 #[] #[])
  fields := #[]
  methods := #[k0m0]
  instanceTypes := #[]
  staticTypes := #[]
  resolved := Array.replicate 124 none
  statics := none }

def pool1 : Array CpInfo := pool [(2, .class_ 4), (1, u "java/lang/Object"), (0, u "<init>"), (0, u "()V"), (0, .fieldref 8 9), (0, .class_ 10), (0, .nameAndType 11 12), (0, u "com/example/bindweave/bindweave/expression/Order"), (0, u "LESS"), (0, u "Lcom/example/bindweave/bindweave/expression/Order;"), (0, .fieldref 8 14), (0, .nameAndType 15 12), (0, u "GREATER"), (0, .fieldref 8 17), (0, .nameAndType 18 12), (0, u "EQUAL"), (0, .fieldref 8 20), (0, .nameAndType 21 12), (0, u "UNORDERED"), (0, .methodref 8 23), (0, .nameAndType 24 25), (0, u "reversed"), (0, u "()Lcom/example/bindweave/bindweave/expression/Order;"), (0, .methodref 27 28), (0, .class_ 29), (0, .nameAndType 30 31), (0, u "com/example/bindweave/bindweave/expression/OrderReversedPinLaw"), (0, u "sign"), (0, u "(II)I"), (0, .methodref 8 33), (0, .nameAndType 34 35), (0, u "of"), (0, u "(I)Lcom/example/bindweave/bindweave/expression/Order;"), (2, u "law"), (0, u "(III)Z")] 3

def k1m0 : Method := { name := "<init>", desc := "()V", sig := { parameters := [], returnType := none }, accessFlags := 1, code := none }
def k1c1 : Code := { maxStack := 2, maxLocals := 13, code := code, exceptionTable := #[], attributes := #[] }
def k1m1 : Method := { name := "law", desc := "(III)Z", sig := { parameters := [.int, .int, .int], returnType := some .boolean }, accessFlags := 9, code := some k1c1 }
def k1c2 : Code := { maxStack := 2, maxLocals := 2, code := method_3_code, exceptionTable := #[], attributes := #[] }
def k1m2 : Method := { name := "sign", desc := "(II)I", sig := { parameters := [.int, .int], returnType := some .int }, accessFlags := 10, code := some k1c2 }
/-- com/example/bindweave/bindweave/expression/OrderReversedPinLaw -/
def k1 : Class := { plain "com/example/bindweave/bindweave/expression/OrderReversedPinLaw" (some 0) with
  accessFlags := 49
  interfaces := #[]
  cf := some (fileOf pool1 27 #[] #[{ accessFlags := 1, nameIndex := 5, descriptorIndex := 6, attributes := #[] }, { accessFlags := 9, nameIndex := 38, descriptorIndex := 39, attributes := #[] }, { accessFlags := 10, nameIndex := 30, descriptorIndex := 31, attributes := #[] }] 49 2 #[] #[])
  fields := #[]
  methods := #[k1m0, k1m1, k1m2]
  instanceTypes := #[]
  staticTypes := #[]
  resolved := Array.replicate 43 none
  statics := none }

def pool2 : Array CpInfo := pool [(1, .class_ 2), (0, u "java/lang/constant/Constable"), (0, .class_ 4), (0, u "java/lang/Object")] 6

/-- java/lang/constant/Constable -/
def k2 : Class := { plain "java/lang/constant/Constable" (some 0) with
  accessFlags := 1537
  interfaces := #[]
  cf := some (fileOf pool2 1 #[] #[] 1537 3 #[] #[])
  fields := #[]
  methods := #[]
  instanceTypes := #[]
  staticTypes := #[]
  resolved := Array.replicate 11 none
  statics := none }

def pool3 : Array CpInfo := pool [(1, .class_ 2), (0, u "java/lang/Comparable"), (0, .class_ 4), (0, u "java/lang/Object")] 7

/-- java/lang/Comparable -/
def k3 : Class := { plain "java/lang/Comparable" (some 0) with
  accessFlags := 1537
  interfaces := #[]
  cf := some (fileOf pool3 1 #[] #[] 1537 3 #[] #[])
  fields := #[]
  methods := #[]
  instanceTypes := #[]
  staticTypes := #[]
  resolved := Array.replicate 12 none
  statics := none }

def pool4 : Array CpInfo := pool [(1, .class_ 2), (0, u "java/io/Serializable"), (0, .class_ 4), (0, u "java/lang/Object")] 2

/-- java/io/Serializable -/
def k4 : Class := { plain "java/io/Serializable" (some 0) with
  accessFlags := 1537
  interfaces := #[]
  cf := some (fileOf pool4 1 #[] #[] 1537 3 #[] #[])
  fields := #[]
  methods := #[]
  instanceTypes := #[]
  staticTypes := #[]
  resolved := Array.replicate 7 none
  statics := none }

def pool5 : Array CpInfo := pool [(2, .class_ 4), (1, u "java/lang/Enum"), (0, u "name"), (0, u "Ljava/lang/String;"), (2, u "ordinal"), (0, u "I"), (1, .class_ 14), (1, u "java/lang/Object"), (4, u "hash"), (86, .class_ 108), (1, u "java/lang/Enum$EnumDesc"), (2, .class_ 112), (0, u "java/lang/constant/Constable"), (0, .class_ 114), (0, u "java/lang/Comparable"), (0, .class_ 116), (0, u "java/io/Serializable")] 87

/-- java/lang/Enum -/
def k5 : Class := { plain "java/lang/Enum" (some 0) with
  accessFlags := 1057
  interfaces := #[2, 3, 4]
  cf := some (fileOf pool5 2 #[.nestMembers #[106]] #[] 1057 12 #[111, 113, 115] #[{ accessFlags := 18, nameIndex := 5, descriptorIndex := 6, attributes := #[] }, { accessFlags := 18, nameIndex := 9, descriptorIndex := 10, attributes := #[] }, { accessFlags := 2, nameIndex := 19, descriptorIndex := 10, attributes := #[] }])
  fields := #[{ name := "name", type := (.object "java/lang/String"), accessFlags := 18, slot := 0, constantValue := 0 }, { name := "ordinal", type := .int, accessFlags := 18, slot := 1, constantValue := 0 }, { name := "hash", type := .int, accessFlags := 2, slot := 2, constantValue := 0 }]
  methods := #[]
  instanceTypes := #[(.object "java/lang/String"), .int, .int]
  staticTypes := #[]
  resolved := Array.replicate 204 none
  statics := none }

def pool6 : Array CpInfo := pool [(1, .class_ 2), (0, u "com/example/bindweave/bindweave/expression/Order"), (0, .fieldref 1 4), (0, .nameAndType 5 6), (0, u "LESS"), (0, u "Lcom/example/bindweave/bindweave/expression/Order;"), (0, .fieldref 1 8), (0, .nameAndType 9 6), (0, u "EQUAL"), (0, .fieldref 1 11), (0, .nameAndType 12 6), (0, u "GREATER"), (2, u "UNORDERED"), (2, u "$VALUES"), (0, u "[Lcom/example/bindweave/bindweave/expression/Order;"), (6, .class_ 28), (1, u "java/lang/Enum"), (22, u "of"), (0, u "(I)Lcom/example/bindweave/bindweave/expression/Order;"), (1, u "reversed"), (0, u "()Lcom/example/bindweave/bindweave/expression/Order;")] 4

def k6c0 : Code := { maxStack := 1, maxLocals := 2, code := prog_50_method_4_code, exceptionTable := #[], attributes := #[] }
def k6m0 : Method := { name := "of", desc := "(I)Lcom/example/bindweave/bindweave/expression/Order;", sig := { parameters := [.int], returnType := some (.object "com/example/bindweave/bindweave/expression/Order") }, accessFlags := 8, code := some k6c0 }
def k6c1 : Code := { maxStack := 2, maxLocals := 2, code := prog_50_method_5_code, exceptionTable := #[], attributes := #[] }
def k6m1 : Method := { name := "reversed", desc := "()Lcom/example/bindweave/bindweave/expression/Order;", sig := { parameters := [], returnType := some (.object "com/example/bindweave/bindweave/expression/Order") }, accessFlags := 0, code := some k6c1 }
/-- com/example/bindweave/bindweave/expression/Order -/
def k6 : Class := { plain "com/example/bindweave/bindweave/expression/Order" (some 5) with
  accessFlags := 16432
  interfaces := #[]
  cf := some (fileOf pool6 1 #[] #[{ accessFlags := 8, nameIndex := 51, descriptorIndex := 52, attributes := #[] }, { accessFlags := 0, nameIndex := 54, descriptorIndex := 55, attributes := #[] }] 16432 26 #[] #[{ accessFlags := 16409, nameIndex := 5, descriptorIndex := 6, attributes := #[] }, { accessFlags := 16409, nameIndex := 9, descriptorIndex := 6, attributes := #[] }, { accessFlags := 16409, nameIndex := 12, descriptorIndex := 6, attributes := #[] }, { accessFlags := 16409, nameIndex := 15, descriptorIndex := 6, attributes := #[] }, { accessFlags := 4122, nameIndex := 18, descriptorIndex := 19, attributes := #[] }])
  fields := #[{ name := "LESS", type := (.object "com/example/bindweave/bindweave/expression/Order"), accessFlags := 16409, slot := 0, constantValue := 0 }, { name := "EQUAL", type := (.object "com/example/bindweave/bindweave/expression/Order"), accessFlags := 16409, slot := 1, constantValue := 0 }, { name := "GREATER", type := (.object "com/example/bindweave/bindweave/expression/Order"), accessFlags := 16409, slot := 2, constantValue := 0 }, { name := "UNORDERED", type := (.object "com/example/bindweave/bindweave/expression/Order"), accessFlags := 16409, slot := 3, constantValue := 0 }, { name := "$VALUES", type := (.array (.object "com/example/bindweave/bindweave/expression/Order")), accessFlags := 4122, slot := 4, constantValue := 0 }]
  methods := #[k6m0, k6m1]
  instanceTypes := #[(.object "java/lang/String"), .int, .int]
  staticTypes := #[(.object "com/example/bindweave/bindweave/expression/Order"), (.object "com/example/bindweave/bindweave/expression/Order"), (.object "com/example/bindweave/bindweave/expression/Order"), (.object "com/example/bindweave/bindweave/expression/Order"), (.array (.object "com/example/bindweave/bindweave/expression/Order"))]
  resolved := Array.replicate 60 none
  statics := some 0 }

def pool7 : Array CpInfo := pool [(1, u "java/lang/Cloneable"), (0, .class_ 1), (0, u "java/lang/Object"), (0, .class_ 3)] 3

/-- java/lang/Cloneable -/
def k7 : Class := { plain "java/lang/Cloneable" (some 0) with
  accessFlags := 1537
  interfaces := #[]
  cf := some (fileOf pool7 2 #[] #[] 1537 4 #[] #[])
  fields := #[]
  methods := #[]
  instanceTypes := #[]
  staticTypes := #[]
  resolved := Array.replicate 8 none
  statics := none }

/-- the primitive byte -/
def k8 : Class := { plain "byte" none with kind := .primitive 'B', accessFlags := 0x411 }
/-- [B -/
def k9 : Class := { plain "[B" (some 0) with kind := .array 8 .byte, interfaces := #[7, 4], accessFlags := 1041 }

def heap : Heap := #[{ cls := 6, slots := #[.ref 1, .ref 3, .ref 2, .ref 4, .null], vm := .statics 6 },
  { cls := 6, slots := #[.null, .int 0, .int 0], vm := .none },
  { cls := 6, slots := #[.null, .int 2, .int 0], vm := .none },
  { cls := 6, slots := #[.null, .int 1, .int 0], vm := .none },
  { cls := 6, slots := #[.null, .int 3, .int 0], vm := .none }]
def classes : Array Class := #[k0, k1, k2, k3, k4, k5, k6, k7, k8, k9]
def interned : List (Array UInt16 × Addr) := []
def slotsUsed : Nat := 17
def theMethod : MethodId := ⟨1, 1⟩
def args0 : Array Value := #[.int 5, .int 6, .int 7]
def aboutOver (below : List Frame) : State where
  vm := { classes := classes, interned := interned.toArray }
  heap := heap
  slotsUsed := slotsUsed
  threads := #[{ frames := .invoking theMethod args0 :: below }]
def below0 : List Frame := [.native { method := ⟨0, 0⟩, args := #[] }]
def about1 : State := aboutOver below0
def p0 : Program := .bare "" "" ""
def e0 : Env := launch0.env 0 0 0
theorem w_frames : about1.frames = Frame.invoking theMethod args0 :: below0 := rfl
set_option maxRecDepth 65536 in
theorem w_args : argsFit about1.vm theMethod args0 = true := by decide +kernel
set_option maxRecDepth 65536 in
theorem w_heap : heapFits about1 = true := by decide +kernel
set_option maxRecDepth 65536 in
theorem w_runnable : about1.curStatus? = some .runnable := by decide +kernel
set_option maxRecDepth 65536 in
theorem w_alone : about1.alone = true := by decide +kernel
set_option maxRecDepth 65536 in
theorem w_named : about1.methodNamed? x = some theMethod := by decide +kernel
set_option maxRecDepth 65536 in
theorem w_hears : about1.hears theMethod below0 = true := by decide +kernel
set_option maxRecDepth 65536 in
theorem w_ripe : about1.ripe theMethod args0 below0 = true := by decide +kernel
theorem w_running : about1.status = .running := rfl
set_option maxRecDepth 65536 in
theorem w_room : about1.hasRoom e0.platform room_1 = true :=
  launch0.hasRoom_least _ room_1 (by decide +kernel) (by decide +kernel) (by decide +kernel) (by decide +kernel) (by decide +kernel) (by decide +kernel)
theorem allAtoms_all (ts : List Jvm.Cond) (a : Array Jvm.Value) (st : Jvm.State) : (allAtoms ts).before a st = ts.all (fun c => c.before a st) := by
  induction ts with
  | nil => rfl
  | cons c t ih =>
    show (Jvm.Cond.and c (allAtoms t)).before a st = _
    rw [Jvm.Cond.before_and, ih, List.all_cons]
def words1 : List Jvm.Cond := Jvm.Cond.code x code maxLocals ret :: tables_1
/-- a 'code' word, met by the world's own term for the bytes: nothing is compared byte by byte -/
theorem code_word {y : MethodName} {bytes : ByteArray} {mx : Nat} {rt : Option FieldType} {a : Array Value} {s : State} {m : MethodId} {meth : Method} {c : Code} (h1 : s.methodNamed? y = some m) (h2 : s.vm.method? m = some meth) (h3 : meth.code = some c) (h4 : c.code = bytes)
    (h5 : (c.maxLocals == mx && c.exceptionTable.isEmpty && decide (c.maxStack ≤ mostOperands) && decide (meth.sig.returnType = rt) && !meth.locks && decide (parseMethodDescriptor y.desc = some meth.sig)) = true) : (Jvm.Cond.code y bytes mx rt).before a s = true := by
  simp only [Bool.and_eq_true, beq_iff_eq, Bool.not_eq_true', decide_eq_true_eq] at h5
  obtain ⟨⟨⟨⟨⟨g1, g2⟩, g3⟩, g4⟩, g5⟩, g6⟩ := h5
  simp [Cond.before, Cond.holds, Cond.value, h1, h2, h3, h4, g1, g2, g3, g4, g5, g6]
def isCode : Jvm.Cond → Bool
  | .code _ _ _ _ => true
  | _ => false
theorem all_split {L : List Jvm.Cond} {P : Jvm.Cond → Bool} (h1 : L.all (fun c => isCode c || P c) = true) (h2 : ∀ c ∈ L.filter isCode, P c = true) : L.all P = true := by
  refine List.all_eq_true.mpr fun c hc => ?_
  have h := List.all_eq_true.mp h1 c hc
  rcases Bool.eq_false_or_eq_true (isCode c) with hi | hi
  · exact h2 c (List.mem_filter.mpr ⟨hc, hi⟩)
  · simpa [hi] using h
set_option maxRecDepth 65536 in
theorem w_c0 : (Jvm.Cond.code x code maxLocals ret).before args0 about1 = true := code_word (m := ⟨1, 1⟩) (meth := k1m1) (c := k1c1) (by decide +kernel) rfl rfl rfl (by decide +kernel)
set_option maxRecDepth 65536 in
theorem w_c1 : (Jvm.Cond.code ({ cls := "com/example/bindweave/bindweave/expression/Order", name := "reversed", desc := "()Lcom/example/bindweave/bindweave/expression/Order;" } : Jvm.MethodName) prog_50_method_5_code (2 : Nat) (Option.some (Jvm.ClassFile.FieldType.object "com/example/bindweave/bindweave/expression/Order"))).before args0 about1 = true := code_word (m := ⟨6, 1⟩) (meth := k6m1) (c := k6c1) (by decide +kernel) rfl rfl rfl (by decide +kernel)
set_option maxRecDepth 65536 in
theorem w_c2 : (Jvm.Cond.code ({ cls := "com/example/bindweave/bindweave/expression/OrderReversedPinLaw", name := "sign", desc := "(II)I" } : Jvm.MethodName) method_3_code (2 : Nat) (Option.some Jvm.ClassFile.FieldType.int)).before args0 about1 = true := code_word (m := ⟨1, 2⟩) (meth := k1m2) (c := k1c2) (by decide +kernel) rfl rfl rfl (by decide +kernel)
set_option maxRecDepth 65536 in
theorem w_c3 : (Jvm.Cond.code ({ cls := "com/example/bindweave/bindweave/expression/Order", name := "of", desc := "(I)Lcom/example/bindweave/bindweave/expression/Order;" } : Jvm.MethodName) prog_50_method_4_code (2 : Nat) (Option.some (Jvm.ClassFile.FieldType.object "com/example/bindweave/bindweave/expression/Order"))).before args0 about1 = true := code_word (m := ⟨6, 0⟩) (meth := k6m0) (c := k6c0) (by decide +kernel) rfl rfl rfl (by decide +kernel)
def codes1 : List Jvm.Cond := [Jvm.Cond.code x code maxLocals ret, Jvm.Cond.code ({ cls := "com/example/bindweave/bindweave/expression/Order", name := "reversed", desc := "()Lcom/example/bindweave/bindweave/expression/Order;" } : Jvm.MethodName) prog_50_method_5_code (2 : Nat) (Option.some (Jvm.ClassFile.FieldType.object "com/example/bindweave/bindweave/expression/Order")), Jvm.Cond.code ({ cls := "com/example/bindweave/bindweave/expression/OrderReversedPinLaw", name := "sign", desc := "(II)I" } : Jvm.MethodName) method_3_code (2 : Nat) (Option.some Jvm.ClassFile.FieldType.int), Jvm.Cond.code ({ cls := "com/example/bindweave/bindweave/expression/Order", name := "of", desc := "(I)Lcom/example/bindweave/bindweave/expression/Order;" } : Jvm.MethodName) prog_50_method_4_code (2 : Nat) (Option.some (Jvm.ClassFile.FieldType.object "com/example/bindweave/bindweave/expression/Order"))]
set_option maxRecDepth 65536 in
theorem codes_eq : words1.filter isCode = codes1 := rfl
theorem w_codes : ∀ c ∈ words1.filter isCode, c.before args0 about1 = true := by
  rw [codes_eq]
  intro c hc
  simp only [codes1, List.mem_cons, List.not_mem_nil, or_false] at hc
  rcases hc with rfl | rfl | rfl | rfl
  · exact w_c0
  · exact w_c1
  · exact w_c2
  · exact w_c3
set_option maxRecDepth 65536 in
theorem w_t1 : (words1.take 24).all (fun c => isCode c || c.before args0 about1) = true := by decide +kernel
set_option maxRecDepth 65536 in
theorem w_t2 : (words1.drop 24).all (fun c => isCode c || c.before args0 about1) = true := by decide +kernel
theorem w_tables : (allAtoms (Jvm.Cond.code x code maxLocals ret :: tables_1)).before args0 about1 = true := by
  rw [allAtoms_all]
  show words1.all (fun c => c.before args0 about1) = true
  refine all_split ?_ w_codes
  rw [← List.take_append_drop 24 words1, List.all_append, w_t1, w_t2]
  rfl
set_option maxRecDepth 65536 in
theorem w_case : (Jvm.Cond.and given_1 narrow_1).before args0 about1 = true := by decide +kernel
theorem w_applies : (headSpec (Jvm.Cond.code x code maxLocals ret :: tables_1) room_1).applies x e0.platform about1 = true :=
  (Spec.applies_iff w_frames).mpr ⟨w_running, w_runnable, w_alone, w_named, w_hears, w_ripe, w_room, w_tables⟩
theorem atStart : AtStart classFile x code maxLocals ret World_1 tables_1 room_1 Calls_1 rest_1 Pre_1 launch0 p0 e0 about1 theMethod args0 below0 :=
  ⟨lists_1, trivial, launch0.admits_env _ _ _, launch0.least_env, fairChoices_fair.cas, fairChoices_fair.clock, w_frames, w_args, w_heap, w_applies, trivial, trivial, w_case⟩
end start1
theorem witness_1 : WitnessClaimed_1 := ⟨start1.p0, start1.e0, start1.about1, start1.theMethod, start1.args0, start1.below0, start1.atStart⟩
end Jvm.Pilot.@@N@@
