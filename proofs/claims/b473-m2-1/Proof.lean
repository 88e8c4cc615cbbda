import JvmDerived
import JvmDerived.Pilot.@@N@@Statement
import JvmDerived.Pilot.@@N@@Code
set_option linter.unusedVariables false
set_option linter.unusedSimpArgs false
namespace Jvm.RoadKit
open Sem ClassFile Op Lib Jvm.Stand Jvm.Free Jvm.LawKit
section New
variable {p : Program} {l : Launch} {e : Env} {R : Room} {s : State} {m : MethodId} {args : Array Value} {below : List Frame} {meth : Method} {c : Code} {T : State} {locs : List Loc} {cells slots : Nat}
theorem retI (X : Stand p l e R s m args below meth c T locs cells slots) (hx : p.tables.exec = Jvm.exec) {pc : Nat} {Ls : Array Slot} {z : Int32} {rest : List Value} (hret : meth.sig.returnType = some .int) (hd : decode c.code pc = .ok (.ireturn, 1)) {fs : List Frame}
    (hl : ∀ (f : JFrame) (acts : List Action), f.method = m → f.locked = none → f.entered = [] → (doReturn e (T.setTop f) acts (some (.int z))).1 = T.setFrames fs) : Steps p.tables e below (T.setTop (mkF m pc Ls (.int z :: rest))) (T.setFrames fs) := by
  have hm' : T.vm.method? m = some meth := X.method'
  have hn : narrow .int (.int z) = .int z := rfl
  show Steps p.tables e below (T.setTop { method := m, pc := pc, locals := Ls, stack := _ :: rest, locked := none }) _
  jvm_step X.here [X.here.top, hx, hd, hm', hret, hn]
  first | (intro acts; rw [hl _ acts rfl rfl rfl]) | rw [hl _ _ rfl rfl rfl]
  exact Steps.refl _
end New
end Jvm.RoadKit
namespace Jvm.Pilot.@@N@@
open Jvm Jvm.ClassFile Sem Op Lib Jvm.Free Jvm.Stand Jvm.LawKit Jvm.RoadKit Bundle Jvm.Pilot.@@N@@.Jvm.D
theorem own_top {tb : Tables} {e : Env} {below : List Frame} {T t : State} {m : MethodId} {pc : Nat} {Ls : Array Slot} {v v' : Value} {rest : List Value} (q : v = v') (k : Steps tb e below (T.setTop (mkF m pc Ls (v' :: rest))) t) : Steps tb e below (T.setTop (mkF m pc Ls (v :: rest))) t := q ▸ k
theorem own_le {Z : State} {n0 : Nat} {h : Heap} (O : Old Z n0 h) : n0 ≤ h.size := O.1 ▸ O.2.1
theorem own_eqI {args : Array Value} {first s : State} {o : Option Outcome} {idx : List Nat} {t : Term} {k : Int32} (h : (Jvm.Cond.eq t (.int k)).value args first o s idx = some true) : t.eval args first o idx s = some (.int k) := by
  cases ht : t.eval args first o idx s with
  | none => simp [Cond.value, Term.eval, ht] at h
  | some x => cases x <;> simp [Cond.value, Term.eval, ht] at h ⊢; exact h
theorem own_eqJ {args : Array Value} {first s : State} {o : Option Outcome} {idx : List Nat} {t : Term} {k : Int64} (h : (Jvm.Cond.eq t (.long k)).value args first o s idx = some true) : t.eval args first o idx s = some (.long k) := by
  cases ht : t.eval args first o idx s with
  | none => simp [Cond.value, Term.eval, ht] at h
  | some x => cases x <;> simp [Cond.value, Term.eval, ht] at h ⊢; exact h
theorem own_eqR {args : Array Value} {first s : State} {o : Option Outcome} {idx : List Nat} {t u : Term} {b : Addr} (h : (Jvm.Cond.eq t u).value args first o s idx = some true) (hu : u.eval args first o idx s = some (.ref b)) : t.eval args first o idx s = some (.ref b) := by
  cases ht : t.eval args first o idx s with
  | none => simp [Cond.value, ht] at h
  | some x => cases x <;> simp [Cond.value, ht, hu] at h ⊢; exact h
def own_En (Z : State) (h : Heap) (C f d : String) (w : Addr) (k : Int32) : Prop := Sta Z h C f d (.ref w) ∧ Exa Z h w C ∧ Fld Z h w "java/lang/Enum" "ordinal" "I" (.int k)
theorem own_d1_0 : decode prog_75_method_4_code 0 = .ok (.aload_n 0, 1) := by decide +kernel
theorem own_d1_1 : decode prog_75_method_4_code 1 = .ok (.getstatic 7, 3) := by decide +kernel
theorem own_d1_4 : decode prog_75_method_4_code 4 = .ok (.if_acmp .eq 7, 3) := by decide +kernel
theorem own_d1_7 : decode prog_75_method_4_code 7 = .ok (.iconst 1, 1) := by decide +kernel
theorem own_d1_8 : decode prog_75_method_4_code 8 = .ok (.goto 4, 3) := by decide +kernel
theorem own_d1_11 : decode prog_75_method_4_code 11 = .ok (.iconst 0, 1) := by decide +kernel
theorem own_d1_12 : decode prog_75_method_4_code 12 = .ok (.ireturn, 1) := by decide +kernel
theorem own_pn0 : plainName "com/example/vaxwire/vaxwire/cdsi/ConditionalSkip$Context" = true := by first | (simp [plainName, overriddenIn]; done) | decide +kernel
theorem own_pn1 : plainName "com/example/vaxwire/vaxwire/cdsi/ContextEvaluationPinLaw" = true := by first | (simp [plainName, overriddenIn]; done) | decide +kernel
theorem own_pd0 : parseMethodDescriptor "()Z" = some ⟨[], some .boolean⟩ := by decide +kernel
theorem own_rem3 (x : Int32) : ((x &&& (2147483647 : Int32)) % (3 : Int32)) = (0 : Int32) ∨ ((x &&& (2147483647 : Int32)) % (3 : Int32)) = (1 : Int32) ∨ ((x &&& (2147483647 : Int32)) % (3 : Int32)) = (2 : Int32) := by
  have h1 : (x &&& (2147483647 : Int32)).toInt = x.toInt % (2 ^ 31 : Nat) := c_mask x 2147483647 31 (by decide) (by decide)
  have h2 := (c_irem (x &&& (2147483647 : Int32)) (3 : Int32) 3 (by decide)).1 (by omega)
  generalize ((x &&& (2147483647 : Int32)) % (3 : Int32)) = k at h2 ⊢
  simp only [← Int32.toInt_inj, show (0 : Int32).toInt = 0 from by decide, show (1 : Int32).toInt = 1 from by decide, show (2 : Int32).toInt = 2 from by decide]
  omega
theorem own_m_EVALUATION_ef (m : MethodId) (w_EVALUATION : Addr) : entryFrame m #[(.ref w_EVALUATION)] 1 = mkF m 0 #[rv w_EVALUATION] [] := by first | (simp [entryFrame, mkF, argsToLocals, Value.category]; done) | rfl
def own_m_EVALUATION_Q (Z : State) (w_EVALUATION : Addr) (w_FORECAST : Addr) (w_BOTH : Addr) (h0 : Heap) (n0 : Nat) (v : Option Value) (h : Heap) (L : List Loc) : Prop := v = some (.int 1) ∧ Fr n0 L ∧ h = h0
set_option maxRecDepth 65536 in
set_option maxHeartbeats 40000000 in
theorem own_m_EVALUATION (l : Launch) (Z : State) (a0 : Array Value) (hw : ∀ d ∈ tables_1, d.before a0 Z = true) (ws : List Jvm.Cond) (w_EVALUATION : Addr) (w_FORECAST : Addr) (w_BOTH : Addr) (h0 : Heap) (n0 : Nat) (O0 : Old Z n0 h0) (U_EVALUATION : own_En Z Z.heap "com/example/vaxwire/vaxwire/cdsi/ConditionalSkip$Context" "EVALUATION" "Lcom/example/vaxwire/vaxwire/cdsi/ConditionalSkip$Context;" w_EVALUATION (0 : Int32)) (U_FORECAST : own_En Z Z.heap "com/example/vaxwire/vaxwire/cdsi/ConditionalSkip$Context" "FORECAST" "Lcom/example/vaxwire/vaxwire/cdsi/ConditionalSkip$Context;" w_FORECAST (1 : Int32)) (U_BOTH : own_En Z Z.heap "com/example/vaxwire/vaxwire/cdsi/ConditionalSkip$Context" "BOTH" "Lcom/example/vaxwire/vaxwire/cdsi/ConditionalSkip$Context;" w_BOTH (2 : Int32)) :
    MetFree l (⟨"com/example/vaxwire/vaxwire/cdsi/ConditionalSkip$Context", "evaluation", "()Z"⟩ : MethodName) (head1 (Jvm.Cond.code (⟨"com/example/vaxwire/vaxwire/cdsi/ConditionalSkip$Context", "evaluation", "()Z"⟩ : MethodName) prog_75_method_4_code 1 (some .boolean) :: ws) ({ frames := 0, cells := 0, slots := 0, locals := 0 } : Room)) (fun a U => a = #[(.ref w_EVALUATION)] ∧ Z.Warmed39 U.vm ∧ U.heap = h0) (fun _ _ _ _ _ => True) (fun _ U o U' => ∃ v L, o = .returned v ∧ own_m_EVALUATION_Q Z w_EVALUATION w_FORECAST w_BOTH h0 n0 v U'.heap L ∧ FrameEnd U o U' L ({ frames := 0, cells := 0, slots := 0, locals := 0 } : Room).cells ({ frames := 0, cells := 0, slots := 0, locals := 0 } : Room).slots) := by
  refine MetFree.of_bodySF (plainFor_of_name own_pn0) hisR ?_
  intro p e s m args below meth c s₁ Bd hml0 hP hK
  obtain ⟨rfl, hZ, hh⟩ := hP
  have hx := Bd.exec
  have hby := Bd.bytes
  have hml : c.maxLocals = 1 := hml0
  have hown : s.vm.findClass "com/example/vaxwire/vaxwire/cdsi/ConditionalSkip$Context" = some m.cls := findClass_of_methodNamed Bd.named
  have hnm := (name_of_methodNamed Bd.named Bd.method).1
  have X0 : Stand p l e ({ frames := 0, cells := 0, slots := 0, locals := 0 } : Room) s m #[(.ref w_EVALUATION)] below meth c s₁ [] 0 0 := Stand.of_body Bd
  have e0 : s₁.heap = h0 := by rw [← hh, Bd.state]; rfl
  have N0 := Fr.nil n0
  have pre0 : ∀ t, Steps p.tables e below (s₁.setTop (mkF m 0 #[rv w_EVALUATION] [])) t → Steps p.tables e below (s₁.setTop (entryFrame m #[(.ref w_EVALUATION)] 1)) t := fun t k => castTop (own_m_EVALUATION_ef m w_EVALUATION) k
  obtain ⟨T1, X1, e1, st1⟩ := getS2 X0 hx hZ hown (host := "") (Or.inl (hw _ (List.mem_of_getElem? (i := 9) rfl))) Via.refl e0 (U_FORECAST.1.ext O0.2) (g := (mkF m 1 #[rv w_EVALUATION] [(.ref w_EVALUATION)])) rfl (hb hby own_d1_1)
  obtain ⟨fs, hr, hrun, hended, hW, hsame⟩ := X1.leave (v := some (.int 1)) (fun h => by rw [Bd.returns] at h; cases h)
  refine ⟨_, _, pre0 _ ?_, hrun, hended, _, _, rfl, ?_, ⟨_, rfl⟩, hW, hsame.mono (by decide) (by decide)⟩
  · show Steps p.tables e below (s₁.setTop (mkF m 0 #[rv w_EVALUATION] [])) _
    refine XS.aloadN X0.here hx rfl (hb hby own_d1_0) rfl rfl ?_
    show Steps p.tables e below (s₁.setTop (mkF m 1 #[rv w_EVALUATION] [(.ref w_EVALUATION)])) _
    refine st1 _ ?_
    show Steps p.tables e below (T1.setTop (mkF m 4 #[rv w_EVALUATION] [(.ref w_FORECAST), (.ref w_EVALUATION)])) _
    refine Jvm.RoadKit.acmp (g := (mkF m 4 #[rv w_EVALUATION] [(.ref w_FORECAST), (.ref w_EVALUATION)])) X1 hx rfl rfl rfl (pc0 := 4) (pc' := 7) (same := false) rfl (hb hby own_d1_4) rfl (decide_eq_false fun q => (Fld.ne U_EVALUATION.2.2 U_FORECAST.2.2 (by decide)) (Value.ref.inj q)) (by decide) (by decide) ?_
    show Steps p.tables e below (T1.setTop (mkF m 7 #[rv w_EVALUATION] [])) _
    refine XS.iconst X1.here hx rfl (hb hby own_d1_7) ?_
    show Steps p.tables e below (T1.setTop (mkF m 8 #[rv w_EVALUATION] [(.int 1)])) _
    refine XS.goto X1.here hx rfl (pc0 := 8) (pc' := 12) rfl (hb hby own_d1_8) (by decide) (by decide) ?_
    show Steps p.tables e below (T1.setTop (mkF m 12 #[rv w_EVALUATION] [(.int 1)])) _
    exact retN X1 hx (t := .boolean) Bd.returns (by simp) (hb hby own_d1_12) hr
  · show own_m_EVALUATION_Q Z w_EVALUATION w_FORECAST w_BOTH h0 n0 _ T1.heap _
    rw [e1]
    exact ⟨rfl, N0, rfl⟩
theorem own_m_FORECAST_ef (m : MethodId) (w_FORECAST : Addr) : entryFrame m #[(.ref w_FORECAST)] 1 = mkF m 0 #[rv w_FORECAST] [] := by first | (simp [entryFrame, mkF, argsToLocals, Value.category]; done) | rfl
def own_m_FORECAST_Q (Z : State) (w_EVALUATION : Addr) (w_FORECAST : Addr) (w_BOTH : Addr) (h0 : Heap) (n0 : Nat) (v : Option Value) (h : Heap) (L : List Loc) : Prop := v = some (.int 0) ∧ Fr n0 L ∧ h = h0
set_option maxRecDepth 65536 in
set_option maxHeartbeats 40000000 in
theorem own_m_FORECAST (l : Launch) (Z : State) (a0 : Array Value) (hw : ∀ d ∈ tables_1, d.before a0 Z = true) (ws : List Jvm.Cond) (w_EVALUATION : Addr) (w_FORECAST : Addr) (w_BOTH : Addr) (h0 : Heap) (n0 : Nat) (O0 : Old Z n0 h0) (U_EVALUATION : own_En Z Z.heap "com/example/vaxwire/vaxwire/cdsi/ConditionalSkip$Context" "EVALUATION" "Lcom/example/vaxwire/vaxwire/cdsi/ConditionalSkip$Context;" w_EVALUATION (0 : Int32)) (U_FORECAST : own_En Z Z.heap "com/example/vaxwire/vaxwire/cdsi/ConditionalSkip$Context" "FORECAST" "Lcom/example/vaxwire/vaxwire/cdsi/ConditionalSkip$Context;" w_FORECAST (1 : Int32)) (U_BOTH : own_En Z Z.heap "com/example/vaxwire/vaxwire/cdsi/ConditionalSkip$Context" "BOTH" "Lcom/example/vaxwire/vaxwire/cdsi/ConditionalSkip$Context;" w_BOTH (2 : Int32)) :
    MetFree l (⟨"com/example/vaxwire/vaxwire/cdsi/ConditionalSkip$Context", "evaluation", "()Z"⟩ : MethodName) (head1 (Jvm.Cond.code (⟨"com/example/vaxwire/vaxwire/cdsi/ConditionalSkip$Context", "evaluation", "()Z"⟩ : MethodName) prog_75_method_4_code 1 (some .boolean) :: ws) ({ frames := 0, cells := 0, slots := 0, locals := 0 } : Room)) (fun a U => a = #[(.ref w_FORECAST)] ∧ Z.Warmed39 U.vm ∧ U.heap = h0) (fun _ _ _ _ _ => True) (fun _ U o U' => ∃ v L, o = .returned v ∧ own_m_FORECAST_Q Z w_EVALUATION w_FORECAST w_BOTH h0 n0 v U'.heap L ∧ FrameEnd U o U' L ({ frames := 0, cells := 0, slots := 0, locals := 0 } : Room).cells ({ frames := 0, cells := 0, slots := 0, locals := 0 } : Room).slots) := by
  refine MetFree.of_bodySF (plainFor_of_name own_pn0) hisR ?_
  intro p e s m args below meth c s₁ Bd hml0 hP hK
  obtain ⟨rfl, hZ, hh⟩ := hP
  have hx := Bd.exec
  have hby := Bd.bytes
  have hml : c.maxLocals = 1 := hml0
  have hown : s.vm.findClass "com/example/vaxwire/vaxwire/cdsi/ConditionalSkip$Context" = some m.cls := findClass_of_methodNamed Bd.named
  have hnm := (name_of_methodNamed Bd.named Bd.method).1
  have X0 : Stand p l e ({ frames := 0, cells := 0, slots := 0, locals := 0 } : Room) s m #[(.ref w_FORECAST)] below meth c s₁ [] 0 0 := Stand.of_body Bd
  have e0 : s₁.heap = h0 := by rw [← hh, Bd.state]; rfl
  have N0 := Fr.nil n0
  have pre0 : ∀ t, Steps p.tables e below (s₁.setTop (mkF m 0 #[rv w_FORECAST] [])) t → Steps p.tables e below (s₁.setTop (entryFrame m #[(.ref w_FORECAST)] 1)) t := fun t k => castTop (own_m_FORECAST_ef m w_FORECAST) k
  obtain ⟨T1, X1, e1, st1⟩ := getS2 X0 hx hZ hown (host := "") (Or.inl (hw _ (List.mem_of_getElem? (i := 9) rfl))) Via.refl e0 (U_FORECAST.1.ext O0.2) (g := (mkF m 1 #[rv w_FORECAST] [(.ref w_FORECAST)])) rfl (hb hby own_d1_1)
  obtain ⟨fs, hr, hrun, hended, hW, hsame⟩ := X1.leave (v := some (.int 0)) (fun h => by rw [Bd.returns] at h; cases h)
  refine ⟨_, _, pre0 _ ?_, hrun, hended, _, _, rfl, ?_, ⟨_, rfl⟩, hW, hsame.mono (by decide) (by decide)⟩
  · show Steps p.tables e below (s₁.setTop (mkF m 0 #[rv w_FORECAST] [])) _
    refine XS.aloadN X0.here hx rfl (hb hby own_d1_0) rfl rfl ?_
    show Steps p.tables e below (s₁.setTop (mkF m 1 #[rv w_FORECAST] [(.ref w_FORECAST)])) _
    refine st1 _ ?_
    show Steps p.tables e below (T1.setTop (mkF m 4 #[rv w_FORECAST] [(.ref w_FORECAST), (.ref w_FORECAST)])) _
    refine Jvm.RoadKit.acmp (g := (mkF m 4 #[rv w_FORECAST] [(.ref w_FORECAST), (.ref w_FORECAST)])) X1 hx rfl rfl rfl (pc0 := 4) (pc' := 11) (same := true) rfl (hb hby own_d1_4) rfl (decide_eq_true rfl) (by decide) (by decide) ?_
    show Steps p.tables e below (T1.setTop (mkF m 11 #[rv w_FORECAST] [])) _
    refine XS.iconst X1.here hx rfl (hb hby own_d1_11) ?_
    show Steps p.tables e below (T1.setTop (mkF m 12 #[rv w_FORECAST] [(.int 0)])) _
    exact retN X1 hx (t := .boolean) Bd.returns (by simp) (hb hby own_d1_12) hr
  · show own_m_FORECAST_Q Z w_EVALUATION w_FORECAST w_BOTH h0 n0 _ T1.heap _
    rw [e1]
    exact ⟨rfl, N0, rfl⟩
theorem own_m_BOTH_ef (m : MethodId) (w_BOTH : Addr) : entryFrame m #[(.ref w_BOTH)] 1 = mkF m 0 #[rv w_BOTH] [] := by first | (simp [entryFrame, mkF, argsToLocals, Value.category]; done) | rfl
def own_m_BOTH_Q (Z : State) (w_EVALUATION : Addr) (w_FORECAST : Addr) (w_BOTH : Addr) (h0 : Heap) (n0 : Nat) (v : Option Value) (h : Heap) (L : List Loc) : Prop := v = some (.int 1) ∧ Fr n0 L ∧ h = h0
set_option maxRecDepth 65536 in
set_option maxHeartbeats 40000000 in
theorem own_m_BOTH (l : Launch) (Z : State) (a0 : Array Value) (hw : ∀ d ∈ tables_1, d.before a0 Z = true) (ws : List Jvm.Cond) (w_EVALUATION : Addr) (w_FORECAST : Addr) (w_BOTH : Addr) (h0 : Heap) (n0 : Nat) (O0 : Old Z n0 h0) (U_EVALUATION : own_En Z Z.heap "com/example/vaxwire/vaxwire/cdsi/ConditionalSkip$Context" "EVALUATION" "Lcom/example/vaxwire/vaxwire/cdsi/ConditionalSkip$Context;" w_EVALUATION (0 : Int32)) (U_FORECAST : own_En Z Z.heap "com/example/vaxwire/vaxwire/cdsi/ConditionalSkip$Context" "FORECAST" "Lcom/example/vaxwire/vaxwire/cdsi/ConditionalSkip$Context;" w_FORECAST (1 : Int32)) (U_BOTH : own_En Z Z.heap "com/example/vaxwire/vaxwire/cdsi/ConditionalSkip$Context" "BOTH" "Lcom/example/vaxwire/vaxwire/cdsi/ConditionalSkip$Context;" w_BOTH (2 : Int32)) :
    MetFree l (⟨"com/example/vaxwire/vaxwire/cdsi/ConditionalSkip$Context", "evaluation", "()Z"⟩ : MethodName) (head1 (Jvm.Cond.code (⟨"com/example/vaxwire/vaxwire/cdsi/ConditionalSkip$Context", "evaluation", "()Z"⟩ : MethodName) prog_75_method_4_code 1 (some .boolean) :: ws) ({ frames := 0, cells := 0, slots := 0, locals := 0 } : Room)) (fun a U => a = #[(.ref w_BOTH)] ∧ Z.Warmed39 U.vm ∧ U.heap = h0) (fun _ _ _ _ _ => True) (fun _ U o U' => ∃ v L, o = .returned v ∧ own_m_BOTH_Q Z w_EVALUATION w_FORECAST w_BOTH h0 n0 v U'.heap L ∧ FrameEnd U o U' L ({ frames := 0, cells := 0, slots := 0, locals := 0 } : Room).cells ({ frames := 0, cells := 0, slots := 0, locals := 0 } : Room).slots) := by
  refine MetFree.of_bodySF (plainFor_of_name own_pn0) hisR ?_
  intro p e s m args below meth c s₁ Bd hml0 hP hK
  obtain ⟨rfl, hZ, hh⟩ := hP
  have hx := Bd.exec
  have hby := Bd.bytes
  have hml : c.maxLocals = 1 := hml0
  have hown : s.vm.findClass "com/example/vaxwire/vaxwire/cdsi/ConditionalSkip$Context" = some m.cls := findClass_of_methodNamed Bd.named
  have hnm := (name_of_methodNamed Bd.named Bd.method).1
  have X0 : Stand p l e ({ frames := 0, cells := 0, slots := 0, locals := 0 } : Room) s m #[(.ref w_BOTH)] below meth c s₁ [] 0 0 := Stand.of_body Bd
  have e0 : s₁.heap = h0 := by rw [← hh, Bd.state]; rfl
  have N0 := Fr.nil n0
  have pre0 : ∀ t, Steps p.tables e below (s₁.setTop (mkF m 0 #[rv w_BOTH] [])) t → Steps p.tables e below (s₁.setTop (entryFrame m #[(.ref w_BOTH)] 1)) t := fun t k => castTop (own_m_BOTH_ef m w_BOTH) k
  obtain ⟨T1, X1, e1, st1⟩ := getS2 X0 hx hZ hown (host := "") (Or.inl (hw _ (List.mem_of_getElem? (i := 9) rfl))) Via.refl e0 (U_FORECAST.1.ext O0.2) (g := (mkF m 1 #[rv w_BOTH] [(.ref w_BOTH)])) rfl (hb hby own_d1_1)
  obtain ⟨fs, hr, hrun, hended, hW, hsame⟩ := X1.leave (v := some (.int 1)) (fun h => by rw [Bd.returns] at h; cases h)
  refine ⟨_, _, pre0 _ ?_, hrun, hended, _, _, rfl, ?_, ⟨_, rfl⟩, hW, hsame.mono (by decide) (by decide)⟩
  · show Steps p.tables e below (s₁.setTop (mkF m 0 #[rv w_BOTH] [])) _
    refine XS.aloadN X0.here hx rfl (hb hby own_d1_0) rfl rfl ?_
    show Steps p.tables e below (s₁.setTop (mkF m 1 #[rv w_BOTH] [(.ref w_BOTH)])) _
    refine st1 _ ?_
    show Steps p.tables e below (T1.setTop (mkF m 4 #[rv w_BOTH] [(.ref w_FORECAST), (.ref w_BOTH)])) _
    refine Jvm.RoadKit.acmp (g := (mkF m 4 #[rv w_BOTH] [(.ref w_FORECAST), (.ref w_BOTH)])) X1 hx rfl rfl rfl (pc0 := 4) (pc' := 7) (same := false) rfl (hb hby own_d1_4) rfl (decide_eq_false fun q => (Ne.symm (Fld.ne U_FORECAST.2.2 U_BOTH.2.2 (by decide))) (Value.ref.inj q)) (by decide) (by decide) ?_
    show Steps p.tables e below (T1.setTop (mkF m 7 #[rv w_BOTH] [])) _
    refine XS.iconst X1.here hx rfl (hb hby own_d1_7) ?_
    show Steps p.tables e below (T1.setTop (mkF m 8 #[rv w_BOTH] [(.int 1)])) _
    refine XS.goto X1.here hx rfl (pc0 := 8) (pc' := 12) rfl (hb hby own_d1_8) (by decide) (by decide) ?_
    show Steps p.tables e below (T1.setTop (mkF m 12 #[rv w_BOTH] [(.int 1)])) _
    exact retN X1 hx (t := .boolean) Bd.returns (by simp) (hb hby own_d1_12) hr
  · show own_m_BOTH_Q Z w_EVALUATION w_FORECAST w_BOTH h0 n0 _ T1.heap _
    rw [e1]
    exact ⟨rfl, N0, rfl⟩
theorem own_law0_ef (m : MethodId) (p0 : Int32) : entryFrame m #[(.int p0)] maxLocals = mkF m 0 #[iv p0, .unset, .unset, .unset] [] := by first | (simp [entryFrame, mkF, argsToLocals, Value.category, maxLocals]; done) | rfl
def own_law0_Q (Z : State) (w_EVALUATION : Addr) (w_FORECAST : Addr) (w_BOTH : Addr) (p0 : Int32) (h0 : Heap) (n0 : Nat) (v : Option Value) (h : Heap) (L : List Loc) : Prop := v = some (.int 1) ∧ Fr n0 L ∧ True
set_option maxRecDepth 65536 in
set_option maxHeartbeats 40000000 in
theorem own_law0 (l : Launch) (Z : State) (a0 : Array Value) (hw : ∀ d ∈ tables_1, d.before a0 Z = true) (ws : List Jvm.Cond) (w_EVALUATION : Addr) (w_FORECAST : Addr) (w_BOTH : Addr) (p0 : Int32) (h0 : Heap) (n0 : Nat) (O0 : Old Z n0 h0) (U_EVALUATION : own_En Z Z.heap "com/example/vaxwire/vaxwire/cdsi/ConditionalSkip$Context" "EVALUATION" "Lcom/example/vaxwire/vaxwire/cdsi/ConditionalSkip$Context;" w_EVALUATION (0 : Int32)) (U_FORECAST : own_En Z Z.heap "com/example/vaxwire/vaxwire/cdsi/ConditionalSkip$Context" "FORECAST" "Lcom/example/vaxwire/vaxwire/cdsi/ConditionalSkip$Context;" w_FORECAST (1 : Int32)) (U_BOTH : own_En Z Z.heap "com/example/vaxwire/vaxwire/cdsi/ConditionalSkip$Context" "BOTH" "Lcom/example/vaxwire/vaxwire/cdsi/ConditionalSkip$Context;" w_BOTH (2 : Int32)) (hk : (p0 &&& (2147483647 : Int32)) % (3 : Int32) = (0 : Int32)) :
    MetFree l x (head1 (Jvm.Cond.code x code maxLocals ret :: ws) room_1) (fun a U => a = #[(.int p0)] ∧ Z.Warmed39 U.vm ∧ U.heap = h0) (fun _ _ _ _ _ => True) (fun _ U o U' => ∃ v L, o = .returned v ∧ own_law0_Q Z w_EVALUATION w_FORECAST w_BOTH p0 h0 n0 v U'.heap L ∧ FrameEnd U o U' L 0 0) := by
  refine MetFree.of_bodySF (plainFor_of_name own_pn1) hisR ?_
  intro p e s m args below meth c s₁ Bd hml0 hP hK
  obtain ⟨rfl, hZ, hh⟩ := hP
  have hx := Bd.exec
  have hby := Bd.bytes
  have hml : c.maxLocals = 4 := hml0
  have hown : s.vm.findClass "com/example/vaxwire/vaxwire/cdsi/ContextEvaluationPinLaw" = some m.cls := findClass_of_methodNamed Bd.named
  have hnm := (name_of_methodNamed Bd.named Bd.method).1
  have X0 : Stand p l e room_1 s m #[(.int p0)] below meth c s₁ [] 0 0 := Stand.of_body Bd
  have e0 : s₁.heap = h0 := by rw [← hh, Bd.state]; rfl
  have N0 := Fr.nil n0
  have pre0 : ∀ t, Steps p.tables e below (s₁.setTop (mkF m 0 #[iv p0, .unset, .unset, .unset] [])) t → Steps p.tables e below (s₁.setTop (entryFrame m #[(.int p0)] maxLocals)) t := fun t k => castTop (own_law0_ef m p0) k
  obtain ⟨T1, X1, e1, st1⟩ := getS2 X0 hx hZ hown (host := "") (Or.inl (hw _ (List.mem_of_getElem? (i := 1) rfl))) Via.refl e0 (U_EVALUATION.1.ext O0.2) (g := (mkF m 11 #[iv p0, iv 0, .unset, .unset] [])) rfl (hb hby at_11)
  obtain ⟨cq2, kq2, q2a, q2b, q2c⟩ := isOf hZ e1 (U_EVALUATION.2.1.ext O0.2)
  obtain ⟨_, _, ⟨T2, L2, k2, n2⟩, -, X2, ⟨Lc2, hQ2, l2, y2, z2⟩, st2⟩ := X1.virtualBack hx (y := (⟨"com/example/vaxwire/vaxwire/cdsi/ConditionalSkip$Context", "evaluation", "()Z"⟩ : MethodName)) (z := (⟨"com/example/vaxwire/vaxwire/cdsi/ConditionalSkip$Context", "evaluation", "()Z"⟩ : MethodName)) hown (mvT hZ (hw _ (List.mem_of_getElem? (i := 4) rfl))) (mvT hZ (hw _ (List.mem_of_getElem? (i := 5) rfl))) (notFace_of_selects (args := #[]) (mvT hZ (hw _ (List.mem_of_getElem? (i := 7) rfl)))) (mvT hZ (hw _ (List.mem_of_getElem? (i := 7) rfl))) (mvT hZ (hw _ (List.mem_of_getElem? (i := 6) rfl))) (by decide) (backOf (W := 0) (own_m_EVALUATION l Z a0 hw [] w_EVALUATION w_FORECAST w_BOTH  h0 n0 O0 U_EVALUATION U_FORECAST U_BOTH ) hZ (hw _ (List.mem_of_getElem? (i := 8) rfl)) (hw _ (List.mem_of_getElem? (i := 2) rfl)) (by decide) (by decide)) q2a q2c (g := (mkF m 41 #[iv p0, iv 0, rv w_EVALUATION, iv 1] [(.ref w_EVALUATION)])) rfl (by rw [hml]; rfl) (Steps.refl _) (argsL := []) (rest := []) (lenOf own_pd0 rfl) rfl (by show 2 * 0 + _ ≤ _; exact Nat.le_of_eq rfl) (hb hby at_41) (fun _ _ => ⟨rfl, e1, (by decide : 0 + 0 ≤ _), (by decide : 0 + 0 ≤ _)⟩)
  dsimp only [Pt.U, Pt.locs, Pt.cells, Pt.slots] at X2 l2 y2 z2 st2 hQ2
  subst l2 y2 z2
  obtain ⟨rfl, N2q, e2⟩ := hQ2
  have N2 := Fr.app N0 N2q
  obtain ⟨fs, hr, hrun, hended, hW, hsame⟩ := X2.leave (v := some (.int 1)) (fun h => by rw [Bd.returns] at h; cases h)
  refine ⟨_, _, pre0 _ ?_, hrun, hended, _, _, rfl, ?_, ⟨_, rfl⟩, hW, hsame.mono (by decide) (by decide)⟩
  · show Steps p.tables e below (s₁.setTop (mkF m 0 #[iv p0, .unset, .unset, .unset] [])) _
    refine XS.iloadN X0.here hx rfl (hb hby at_0) rfl ?_
    show Steps p.tables e below (s₁.setTop (mkF m 1 #[iv p0, .unset, .unset, .unset] [(.int p0)])) _
    refine X0.ldcInt hx hown (mvT hZ (hw _ (List.mem_of_getElem? (i := 0) rfl))) (g := (mkF m 1 #[iv p0, .unset, .unset, .unset] [(.int p0)])) rfl (hb hby at_1) _ ?_
    show Steps p.tables e below (s₁.setTop (mkF m 3 #[iv p0, .unset, .unset, .unset] [(.int 2147483647), (.int p0)])) _
    refine XS.iand X0.here hx rfl (hb hby at_3) rfl ?_
    show Steps p.tables e below (s₁.setTop (mkF m 4 #[iv p0, .unset, .unset, .unset] [(.int (p0 &&& (2147483647 : Int32)))])) _
    refine XS.iconst X0.here hx rfl (hb hby at_4) ?_
    show Steps p.tables e below (s₁.setTop (mkF m 5 #[iv p0, .unset, .unset, .unset] [(.int 3), (.int (p0 &&& (2147483647 : Int32)))])) _
    refine iremM X0 hx rfl (hb hby at_5) rfl (by decide) ?_
    show Steps p.tables e below (s₁.setTop (mkF m 6 #[iv p0, .unset, .unset, .unset] [(.int ((p0 &&& (2147483647 : Int32)) % (3 : Int32)))])) _
    refine own_top (v' := (.int 0)) (congrArg Value.int hk) ?_
    show Steps p.tables e below (s₁.setTop (mkF m 6 #[iv p0, .unset, .unset, .unset] [(.int 0)])) _
    refine XS.istoreN X0.here hx rfl (hb hby at_6) rfl (l' := #[iv p0, iv 0, .unset, .unset]) rfl ?_
    show Steps p.tables e below (s₁.setTop (mkF m 7 #[iv p0, iv 0, .unset, .unset] [])) _
    refine XS.iloadN X0.here hx rfl (hb hby at_7) rfl ?_
    show Steps p.tables e below (s₁.setTop (mkF m 8 #[iv p0, iv 0, .unset, .unset] [(.int 0)])) _
    refine XS.ifNo X0.here hx rfl (hb hby at_8) rfl ((if0 _ _).trans (teq (by decide)).2) ?_
    show Steps p.tables e below (s₁.setTop (mkF m 11 #[iv p0, iv 0, .unset, .unset] [])) _
    refine st1 _ ?_
    show Steps p.tables e below (T1.setTop (mkF m 14 #[iv p0, iv 0, .unset, .unset] [(.ref w_EVALUATION)])) _
    refine XS.astoreN X1.here hx rfl (hb hby at_14) rfl rfl (l' := #[iv p0, iv 0, rv w_EVALUATION, .unset]) rfl ?_
    show Steps p.tables e below (T1.setTop (mkF m 15 #[iv p0, iv 0, rv w_EVALUATION, .unset] [])) _
    refine XS.iconst X1.here hx rfl (hb hby at_15) ?_
    show Steps p.tables e below (T1.setTop (mkF m 16 #[iv p0, iv 0, rv w_EVALUATION, .unset] [(.int 1)])) _
    refine XS.istoreN X1.here hx rfl (hb hby at_16) rfl (l' := #[iv p0, iv 0, rv w_EVALUATION, iv 1]) rfl ?_
    show Steps p.tables e below (T1.setTop (mkF m 17 #[iv p0, iv 0, rv w_EVALUATION, iv 1] [])) _
    refine XS.goto X1.here hx rfl (pc0 := 17) (pc' := 40) rfl (hb hby at_17) (by decide) (by decide) ?_
    show Steps p.tables e below (T1.setTop (mkF m 40 #[iv p0, iv 0, rv w_EVALUATION, iv 1] [])) _
    refine XS.aloadN X1.here hx rfl (hb hby at_40) rfl rfl ?_
    show Steps p.tables e below (T1.setTop (mkF m 41 #[iv p0, iv 0, rv w_EVALUATION, iv 1] [(.ref w_EVALUATION)])) _
    refine st2.trans ?_
    show Steps p.tables e below (T2.setTop (mkF m 44 #[iv p0, iv 0, rv w_EVALUATION, iv 1] [(.int 1)])) _
    refine XS.iloadN X2.here hx rfl (hb hby at_44) rfl ?_
    show Steps p.tables e below (T2.setTop (mkF m 45 #[iv p0, iv 0, rv w_EVALUATION, iv 1] [(.int 1), (.int 1)])) _
    refine XS.icmpNo X2.here hx rfl (hb hby at_45) rfl (teq (by decide)).2 ?_
    show Steps p.tables e below (T2.setTop (mkF m 48 #[iv p0, iv 0, rv w_EVALUATION, iv 1] [])) _
    refine XS.iconst X2.here hx rfl (hb hby at_48) ?_
    show Steps p.tables e below (T2.setTop (mkF m 49 #[iv p0, iv 0, rv w_EVALUATION, iv 1] [(.int 1)])) _
    refine XS.goto X2.here hx rfl (pc0 := 49) (pc' := 53) rfl (hb hby at_49) (by decide) (by decide) ?_
    show Steps p.tables e below (T2.setTop (mkF m 53 #[iv p0, iv 0, rv w_EVALUATION, iv 1] [(.int 1)])) _
    exact retN X2 hx (t := .boolean) Bd.returns (by simp) (hb hby at_53) hr
  · show own_law0_Q Z w_EVALUATION w_FORECAST w_BOTH p0 h0 n0 _ T2.heap _
    rw [e2]
    exact ⟨rfl, N2, trivial⟩
theorem own_law1_ef (m : MethodId) (p0 : Int32) : entryFrame m #[(.int p0)] maxLocals = mkF m 0 #[iv p0, .unset, .unset, .unset] [] := by first | (simp [entryFrame, mkF, argsToLocals, Value.category, maxLocals]; done) | rfl
def own_law1_Q (Z : State) (w_EVALUATION : Addr) (w_FORECAST : Addr) (w_BOTH : Addr) (p0 : Int32) (h0 : Heap) (n0 : Nat) (v : Option Value) (h : Heap) (L : List Loc) : Prop := v = some (.int 1) ∧ Fr n0 L ∧ True
set_option maxRecDepth 65536 in
set_option maxHeartbeats 40000000 in
theorem own_law1 (l : Launch) (Z : State) (a0 : Array Value) (hw : ∀ d ∈ tables_1, d.before a0 Z = true) (ws : List Jvm.Cond) (w_EVALUATION : Addr) (w_FORECAST : Addr) (w_BOTH : Addr) (p0 : Int32) (h0 : Heap) (n0 : Nat) (O0 : Old Z n0 h0) (U_EVALUATION : own_En Z Z.heap "com/example/vaxwire/vaxwire/cdsi/ConditionalSkip$Context" "EVALUATION" "Lcom/example/vaxwire/vaxwire/cdsi/ConditionalSkip$Context;" w_EVALUATION (0 : Int32)) (U_FORECAST : own_En Z Z.heap "com/example/vaxwire/vaxwire/cdsi/ConditionalSkip$Context" "FORECAST" "Lcom/example/vaxwire/vaxwire/cdsi/ConditionalSkip$Context;" w_FORECAST (1 : Int32)) (U_BOTH : own_En Z Z.heap "com/example/vaxwire/vaxwire/cdsi/ConditionalSkip$Context" "BOTH" "Lcom/example/vaxwire/vaxwire/cdsi/ConditionalSkip$Context;" w_BOTH (2 : Int32)) (hk : (p0 &&& (2147483647 : Int32)) % (3 : Int32) = (1 : Int32)) :
    MetFree l x (head1 (Jvm.Cond.code x code maxLocals ret :: ws) room_1) (fun a U => a = #[(.int p0)] ∧ Z.Warmed39 U.vm ∧ U.heap = h0) (fun _ _ _ _ _ => True) (fun _ U o U' => ∃ v L, o = .returned v ∧ own_law1_Q Z w_EVALUATION w_FORECAST w_BOTH p0 h0 n0 v U'.heap L ∧ FrameEnd U o U' L 0 0) := by
  refine MetFree.of_bodySF (plainFor_of_name own_pn1) hisR ?_
  intro p e s m args below meth c s₁ Bd hml0 hP hK
  obtain ⟨rfl, hZ, hh⟩ := hP
  have hx := Bd.exec
  have hby := Bd.bytes
  have hml : c.maxLocals = 4 := hml0
  have hown : s.vm.findClass "com/example/vaxwire/vaxwire/cdsi/ContextEvaluationPinLaw" = some m.cls := findClass_of_methodNamed Bd.named
  have hnm := (name_of_methodNamed Bd.named Bd.method).1
  have X0 : Stand p l e room_1 s m #[(.int p0)] below meth c s₁ [] 0 0 := Stand.of_body Bd
  have e0 : s₁.heap = h0 := by rw [← hh, Bd.state]; rfl
  have N0 := Fr.nil n0
  have pre0 : ∀ t, Steps p.tables e below (s₁.setTop (mkF m 0 #[iv p0, .unset, .unset, .unset] [])) t → Steps p.tables e below (s₁.setTop (entryFrame m #[(.int p0)] maxLocals)) t := fun t k => castTop (own_law1_ef m p0) k
  obtain ⟨T1, X1, e1, st1⟩ := getS2 X0 hx hZ hown (host := "") (Or.inl (hw _ (List.mem_of_getElem? (i := 13) rfl))) Via.refl e0 (U_FORECAST.1.ext O0.2) (g := (mkF m 25 #[iv p0, iv 1, .unset, .unset] [])) rfl (hb hby at_25)
  obtain ⟨cq2, kq2, q2a, q2b, q2c⟩ := isOf hZ e1 (U_FORECAST.2.1.ext O0.2)
  obtain ⟨_, _, ⟨T2, L2, k2, n2⟩, -, X2, ⟨Lc2, hQ2, l2, y2, z2⟩, st2⟩ := X1.virtualBack hx (y := (⟨"com/example/vaxwire/vaxwire/cdsi/ConditionalSkip$Context", "evaluation", "()Z"⟩ : MethodName)) (z := (⟨"com/example/vaxwire/vaxwire/cdsi/ConditionalSkip$Context", "evaluation", "()Z"⟩ : MethodName)) hown (mvT hZ (hw _ (List.mem_of_getElem? (i := 4) rfl))) (mvT hZ (hw _ (List.mem_of_getElem? (i := 5) rfl))) (notFace_of_selects (args := #[]) (mvT hZ (hw _ (List.mem_of_getElem? (i := 7) rfl)))) (mvT hZ (hw _ (List.mem_of_getElem? (i := 7) rfl))) (mvT hZ (hw _ (List.mem_of_getElem? (i := 6) rfl))) (by decide) (backOf (W := 0) (own_m_FORECAST l Z a0 hw [] w_EVALUATION w_FORECAST w_BOTH  h0 n0 O0 U_EVALUATION U_FORECAST U_BOTH ) hZ (hw _ (List.mem_of_getElem? (i := 8) rfl)) (hw _ (List.mem_of_getElem? (i := 2) rfl)) (by decide) (by decide)) q2a q2c (g := (mkF m 41 #[iv p0, iv 1, rv w_FORECAST, iv 0] [(.ref w_FORECAST)])) rfl (by rw [hml]; rfl) (Steps.refl _) (argsL := []) (rest := []) (lenOf own_pd0 rfl) rfl (by show 2 * 0 + _ ≤ _; exact Nat.le_of_eq rfl) (hb hby at_41) (fun _ _ => ⟨rfl, e1, (by decide : 0 + 0 ≤ _), (by decide : 0 + 0 ≤ _)⟩)
  dsimp only [Pt.U, Pt.locs, Pt.cells, Pt.slots] at X2 l2 y2 z2 st2 hQ2
  subst l2 y2 z2
  obtain ⟨rfl, N2q, e2⟩ := hQ2
  have N2 := Fr.app N0 N2q
  obtain ⟨fs, hr, hrun, hended, hW, hsame⟩ := X2.leave (v := some (.int 1)) (fun h => by rw [Bd.returns] at h; cases h)
  refine ⟨_, _, pre0 _ ?_, hrun, hended, _, _, rfl, ?_, ⟨_, rfl⟩, hW, hsame.mono (by decide) (by decide)⟩
  · show Steps p.tables e below (s₁.setTop (mkF m 0 #[iv p0, .unset, .unset, .unset] [])) _
    refine XS.iloadN X0.here hx rfl (hb hby at_0) rfl ?_
    show Steps p.tables e below (s₁.setTop (mkF m 1 #[iv p0, .unset, .unset, .unset] [(.int p0)])) _
    refine X0.ldcInt hx hown (mvT hZ (hw _ (List.mem_of_getElem? (i := 0) rfl))) (g := (mkF m 1 #[iv p0, .unset, .unset, .unset] [(.int p0)])) rfl (hb hby at_1) _ ?_
    show Steps p.tables e below (s₁.setTop (mkF m 3 #[iv p0, .unset, .unset, .unset] [(.int 2147483647), (.int p0)])) _
    refine XS.iand X0.here hx rfl (hb hby at_3) rfl ?_
    show Steps p.tables e below (s₁.setTop (mkF m 4 #[iv p0, .unset, .unset, .unset] [(.int (p0 &&& (2147483647 : Int32)))])) _
    refine XS.iconst X0.here hx rfl (hb hby at_4) ?_
    show Steps p.tables e below (s₁.setTop (mkF m 5 #[iv p0, .unset, .unset, .unset] [(.int 3), (.int (p0 &&& (2147483647 : Int32)))])) _
    refine iremM X0 hx rfl (hb hby at_5) rfl (by decide) ?_
    show Steps p.tables e below (s₁.setTop (mkF m 6 #[iv p0, .unset, .unset, .unset] [(.int ((p0 &&& (2147483647 : Int32)) % (3 : Int32)))])) _
    refine own_top (v' := (.int 1)) (congrArg Value.int hk) ?_
    show Steps p.tables e below (s₁.setTop (mkF m 6 #[iv p0, .unset, .unset, .unset] [(.int 1)])) _
    refine XS.istoreN X0.here hx rfl (hb hby at_6) rfl (l' := #[iv p0, iv 1, .unset, .unset]) rfl ?_
    show Steps p.tables e below (s₁.setTop (mkF m 7 #[iv p0, iv 1, .unset, .unset] [])) _
    refine XS.iloadN X0.here hx rfl (hb hby at_7) rfl ?_
    show Steps p.tables e below (s₁.setTop (mkF m 8 #[iv p0, iv 1, .unset, .unset] [(.int 1)])) _
    refine XS.ifYes X0.here hx rfl (pc0 := 8) (pc' := 20) rfl (hb hby at_8) rfl ((if0 _ _).trans (feq (by decide)).2) (by decide) (by decide) ?_
    show Steps p.tables e below (s₁.setTop (mkF m 20 #[iv p0, iv 1, .unset, .unset] [])) _
    refine XS.iloadN X0.here hx rfl (hb hby at_20) rfl ?_
    show Steps p.tables e below (s₁.setTop (mkF m 21 #[iv p0, iv 1, .unset, .unset] [(.int 1)])) _
    refine XS.iconst X0.here hx rfl (hb hby at_21) ?_
    show Steps p.tables e below (s₁.setTop (mkF m 22 #[iv p0, iv 1, .unset, .unset] [(.int 1), (.int 1)])) _
    refine XS.icmpNo X0.here hx rfl (hb hby at_22) rfl (teq (by decide)).2 ?_
    show Steps p.tables e below (s₁.setTop (mkF m 25 #[iv p0, iv 1, .unset, .unset] [])) _
    refine st1 _ ?_
    show Steps p.tables e below (T1.setTop (mkF m 28 #[iv p0, iv 1, .unset, .unset] [(.ref w_FORECAST)])) _
    refine XS.astoreN X1.here hx rfl (hb hby at_28) rfl rfl (l' := #[iv p0, iv 1, rv w_FORECAST, .unset]) rfl ?_
    show Steps p.tables e below (T1.setTop (mkF m 29 #[iv p0, iv 1, rv w_FORECAST, .unset] [])) _
    refine XS.iconst X1.here hx rfl (hb hby at_29) ?_
    show Steps p.tables e below (T1.setTop (mkF m 30 #[iv p0, iv 1, rv w_FORECAST, .unset] [(.int 0)])) _
    refine XS.istoreN X1.here hx rfl (hb hby at_30) rfl (l' := #[iv p0, iv 1, rv w_FORECAST, iv 0]) rfl ?_
    show Steps p.tables e below (T1.setTop (mkF m 31 #[iv p0, iv 1, rv w_FORECAST, iv 0] [])) _
    refine XS.goto X1.here hx rfl (pc0 := 31) (pc' := 40) rfl (hb hby at_31) (by decide) (by decide) ?_
    show Steps p.tables e below (T1.setTop (mkF m 40 #[iv p0, iv 1, rv w_FORECAST, iv 0] [])) _
    refine XS.aloadN X1.here hx rfl (hb hby at_40) rfl rfl ?_
    show Steps p.tables e below (T1.setTop (mkF m 41 #[iv p0, iv 1, rv w_FORECAST, iv 0] [(.ref w_FORECAST)])) _
    refine st2.trans ?_
    show Steps p.tables e below (T2.setTop (mkF m 44 #[iv p0, iv 1, rv w_FORECAST, iv 0] [(.int 0)])) _
    refine XS.iloadN X2.here hx rfl (hb hby at_44) rfl ?_
    show Steps p.tables e below (T2.setTop (mkF m 45 #[iv p0, iv 1, rv w_FORECAST, iv 0] [(.int 0), (.int 0)])) _
    refine XS.icmpNo X2.here hx rfl (hb hby at_45) rfl (teq (by decide)).2 ?_
    show Steps p.tables e below (T2.setTop (mkF m 48 #[iv p0, iv 1, rv w_FORECAST, iv 0] [])) _
    refine XS.iconst X2.here hx rfl (hb hby at_48) ?_
    show Steps p.tables e below (T2.setTop (mkF m 49 #[iv p0, iv 1, rv w_FORECAST, iv 0] [(.int 1)])) _
    refine XS.goto X2.here hx rfl (pc0 := 49) (pc' := 53) rfl (hb hby at_49) (by decide) (by decide) ?_
    show Steps p.tables e below (T2.setTop (mkF m 53 #[iv p0, iv 1, rv w_FORECAST, iv 0] [(.int 1)])) _
    exact retN X2 hx (t := .boolean) Bd.returns (by simp) (hb hby at_53) hr
  · show own_law1_Q Z w_EVALUATION w_FORECAST w_BOTH p0 h0 n0 _ T2.heap _
    rw [e2]
    exact ⟨rfl, N2, trivial⟩
theorem own_law2_ef (m : MethodId) (p0 : Int32) : entryFrame m #[(.int p0)] maxLocals = mkF m 0 #[iv p0, .unset, .unset, .unset] [] := by first | (simp [entryFrame, mkF, argsToLocals, Value.category, maxLocals]; done) | rfl
def own_law2_Q (Z : State) (w_EVALUATION : Addr) (w_FORECAST : Addr) (w_BOTH : Addr) (p0 : Int32) (h0 : Heap) (n0 : Nat) (v : Option Value) (h : Heap) (L : List Loc) : Prop := v = some (.int 1) ∧ Fr n0 L ∧ True
set_option maxRecDepth 65536 in
set_option maxHeartbeats 40000000 in
theorem own_law2 (l : Launch) (Z : State) (a0 : Array Value) (hw : ∀ d ∈ tables_1, d.before a0 Z = true) (ws : List Jvm.Cond) (w_EVALUATION : Addr) (w_FORECAST : Addr) (w_BOTH : Addr) (p0 : Int32) (h0 : Heap) (n0 : Nat) (O0 : Old Z n0 h0) (U_EVALUATION : own_En Z Z.heap "com/example/vaxwire/vaxwire/cdsi/ConditionalSkip$Context" "EVALUATION" "Lcom/example/vaxwire/vaxwire/cdsi/ConditionalSkip$Context;" w_EVALUATION (0 : Int32)) (U_FORECAST : own_En Z Z.heap "com/example/vaxwire/vaxwire/cdsi/ConditionalSkip$Context" "FORECAST" "Lcom/example/vaxwire/vaxwire/cdsi/ConditionalSkip$Context;" w_FORECAST (1 : Int32)) (U_BOTH : own_En Z Z.heap "com/example/vaxwire/vaxwire/cdsi/ConditionalSkip$Context" "BOTH" "Lcom/example/vaxwire/vaxwire/cdsi/ConditionalSkip$Context;" w_BOTH (2 : Int32)) (hk : (p0 &&& (2147483647 : Int32)) % (3 : Int32) = (2 : Int32)) :
    MetFree l x (head1 (Jvm.Cond.code x code maxLocals ret :: ws) room_1) (fun a U => a = #[(.int p0)] ∧ Z.Warmed39 U.vm ∧ U.heap = h0) (fun _ _ _ _ _ => True) (fun _ U o U' => ∃ v L, o = .returned v ∧ own_law2_Q Z w_EVALUATION w_FORECAST w_BOTH p0 h0 n0 v U'.heap L ∧ FrameEnd U o U' L 0 0) := by
  refine MetFree.of_bodySF (plainFor_of_name own_pn1) hisR ?_
  intro p e s m args below meth c s₁ Bd hml0 hP hK
  obtain ⟨rfl, hZ, hh⟩ := hP
  have hx := Bd.exec
  have hby := Bd.bytes
  have hml : c.maxLocals = 4 := hml0
  have hown : s.vm.findClass "com/example/vaxwire/vaxwire/cdsi/ContextEvaluationPinLaw" = some m.cls := findClass_of_methodNamed Bd.named
  have hnm := (name_of_methodNamed Bd.named Bd.method).1
  have X0 : Stand p l e room_1 s m #[(.int p0)] below meth c s₁ [] 0 0 := Stand.of_body Bd
  have e0 : s₁.heap = h0 := by rw [← hh, Bd.state]; rfl
  have N0 := Fr.nil n0
  have pre0 : ∀ t, Steps p.tables e below (s₁.setTop (mkF m 0 #[iv p0, .unset, .unset, .unset] [])) t → Steps p.tables e below (s₁.setTop (entryFrame m #[(.int p0)] maxLocals)) t := fun t k => castTop (own_law2_ef m p0) k
  obtain ⟨T1, X1, e1, st1⟩ := getS2 X0 hx hZ hown (host := "") (Or.inl (hw _ (List.mem_of_getElem? (i := 11) rfl))) Via.refl e0 (U_BOTH.1.ext O0.2) (g := (mkF m 34 #[iv p0, iv 2, .unset, .unset] [])) rfl (hb hby at_34)
  obtain ⟨cq2, kq2, q2a, q2b, q2c⟩ := isOf hZ e1 (U_BOTH.2.1.ext O0.2)
  obtain ⟨_, _, ⟨T2, L2, k2, n2⟩, -, X2, ⟨Lc2, hQ2, l2, y2, z2⟩, st2⟩ := X1.virtualBack hx (y := (⟨"com/example/vaxwire/vaxwire/cdsi/ConditionalSkip$Context", "evaluation", "()Z"⟩ : MethodName)) (z := (⟨"com/example/vaxwire/vaxwire/cdsi/ConditionalSkip$Context", "evaluation", "()Z"⟩ : MethodName)) hown (mvT hZ (hw _ (List.mem_of_getElem? (i := 4) rfl))) (mvT hZ (hw _ (List.mem_of_getElem? (i := 5) rfl))) (notFace_of_selects (args := #[]) (mvT hZ (hw _ (List.mem_of_getElem? (i := 7) rfl)))) (mvT hZ (hw _ (List.mem_of_getElem? (i := 7) rfl))) (mvT hZ (hw _ (List.mem_of_getElem? (i := 6) rfl))) (by decide) (backOf (W := 0) (own_m_BOTH l Z a0 hw [] w_EVALUATION w_FORECAST w_BOTH  h0 n0 O0 U_EVALUATION U_FORECAST U_BOTH ) hZ (hw _ (List.mem_of_getElem? (i := 8) rfl)) (hw _ (List.mem_of_getElem? (i := 2) rfl)) (by decide) (by decide)) q2a q2c (g := (mkF m 41 #[iv p0, iv 2, rv w_BOTH, iv 1] [(.ref w_BOTH)])) rfl (by rw [hml]; rfl) (Steps.refl _) (argsL := []) (rest := []) (lenOf own_pd0 rfl) rfl (by show 2 * 0 + _ ≤ _; exact Nat.le_of_eq rfl) (hb hby at_41) (fun _ _ => ⟨rfl, e1, (by decide : 0 + 0 ≤ _), (by decide : 0 + 0 ≤ _)⟩)
  dsimp only [Pt.U, Pt.locs, Pt.cells, Pt.slots] at X2 l2 y2 z2 st2 hQ2
  subst l2 y2 z2
  obtain ⟨rfl, N2q, e2⟩ := hQ2
  have N2 := Fr.app N0 N2q
  obtain ⟨fs, hr, hrun, hended, hW, hsame⟩ := X2.leave (v := some (.int 1)) (fun h => by rw [Bd.returns] at h; cases h)
  refine ⟨_, _, pre0 _ ?_, hrun, hended, _, _, rfl, ?_, ⟨_, rfl⟩, hW, hsame.mono (by decide) (by decide)⟩
  · show Steps p.tables e below (s₁.setTop (mkF m 0 #[iv p0, .unset, .unset, .unset] [])) _
    refine XS.iloadN X0.here hx rfl (hb hby at_0) rfl ?_
    show Steps p.tables e below (s₁.setTop (mkF m 1 #[iv p0, .unset, .unset, .unset] [(.int p0)])) _
    refine X0.ldcInt hx hown (mvT hZ (hw _ (List.mem_of_getElem? (i := 0) rfl))) (g := (mkF m 1 #[iv p0, .unset, .unset, .unset] [(.int p0)])) rfl (hb hby at_1) _ ?_
    show Steps p.tables e below (s₁.setTop (mkF m 3 #[iv p0, .unset, .unset, .unset] [(.int 2147483647), (.int p0)])) _
    refine XS.iand X0.here hx rfl (hb hby at_3) rfl ?_
    show Steps p.tables e below (s₁.setTop (mkF m 4 #[iv p0, .unset, .unset, .unset] [(.int (p0 &&& (2147483647 : Int32)))])) _
    refine XS.iconst X0.here hx rfl (hb hby at_4) ?_
    show Steps p.tables e below (s₁.setTop (mkF m 5 #[iv p0, .unset, .unset, .unset] [(.int 3), (.int (p0 &&& (2147483647 : Int32)))])) _
    refine iremM X0 hx rfl (hb hby at_5) rfl (by decide) ?_
    show Steps p.tables e below (s₁.setTop (mkF m 6 #[iv p0, .unset, .unset, .unset] [(.int ((p0 &&& (2147483647 : Int32)) % (3 : Int32)))])) _
    refine own_top (v' := (.int 2)) (congrArg Value.int hk) ?_
    show Steps p.tables e below (s₁.setTop (mkF m 6 #[iv p0, .unset, .unset, .unset] [(.int 2)])) _
    refine XS.istoreN X0.here hx rfl (hb hby at_6) rfl (l' := #[iv p0, iv 2, .unset, .unset]) rfl ?_
    show Steps p.tables e below (s₁.setTop (mkF m 7 #[iv p0, iv 2, .unset, .unset] [])) _
    refine XS.iloadN X0.here hx rfl (hb hby at_7) rfl ?_
    show Steps p.tables e below (s₁.setTop (mkF m 8 #[iv p0, iv 2, .unset, .unset] [(.int 2)])) _
    refine XS.ifYes X0.here hx rfl (pc0 := 8) (pc' := 20) rfl (hb hby at_8) rfl ((if0 _ _).trans (feq (by decide)).2) (by decide) (by decide) ?_
    show Steps p.tables e below (s₁.setTop (mkF m 20 #[iv p0, iv 2, .unset, .unset] [])) _
    refine XS.iloadN X0.here hx rfl (hb hby at_20) rfl ?_
    show Steps p.tables e below (s₁.setTop (mkF m 21 #[iv p0, iv 2, .unset, .unset] [(.int 2)])) _
    refine XS.iconst X0.here hx rfl (hb hby at_21) ?_
    show Steps p.tables e below (s₁.setTop (mkF m 22 #[iv p0, iv 2, .unset, .unset] [(.int 1), (.int 2)])) _
    refine XS.icmpYes X0.here hx rfl (pc0 := 22) (pc' := 34) rfl (hb hby at_22) rfl (feq (by decide)).2 (by decide) (by decide) ?_
    show Steps p.tables e below (s₁.setTop (mkF m 34 #[iv p0, iv 2, .unset, .unset] [])) _
    refine st1 _ ?_
    show Steps p.tables e below (T1.setTop (mkF m 37 #[iv p0, iv 2, .unset, .unset] [(.ref w_BOTH)])) _
    refine XS.astoreN X1.here hx rfl (hb hby at_37) rfl rfl (l' := #[iv p0, iv 2, rv w_BOTH, .unset]) rfl ?_
    show Steps p.tables e below (T1.setTop (mkF m 38 #[iv p0, iv 2, rv w_BOTH, .unset] [])) _
    refine XS.iconst X1.here hx rfl (hb hby at_38) ?_
    show Steps p.tables e below (T1.setTop (mkF m 39 #[iv p0, iv 2, rv w_BOTH, .unset] [(.int 1)])) _
    refine XS.istoreN X1.here hx rfl (hb hby at_39) rfl (l' := #[iv p0, iv 2, rv w_BOTH, iv 1]) rfl ?_
    show Steps p.tables e below (T1.setTop (mkF m 40 #[iv p0, iv 2, rv w_BOTH, iv 1] [])) _
    refine XS.aloadN X1.here hx rfl (hb hby at_40) rfl rfl ?_
    show Steps p.tables e below (T1.setTop (mkF m 41 #[iv p0, iv 2, rv w_BOTH, iv 1] [(.ref w_BOTH)])) _
    refine st2.trans ?_
    show Steps p.tables e below (T2.setTop (mkF m 44 #[iv p0, iv 2, rv w_BOTH, iv 1] [(.int 1)])) _
    refine XS.iloadN X2.here hx rfl (hb hby at_44) rfl ?_
    show Steps p.tables e below (T2.setTop (mkF m 45 #[iv p0, iv 2, rv w_BOTH, iv 1] [(.int 1), (.int 1)])) _
    refine XS.icmpNo X2.here hx rfl (hb hby at_45) rfl (teq (by decide)).2 ?_
    show Steps p.tables e below (T2.setTop (mkF m 48 #[iv p0, iv 2, rv w_BOTH, iv 1] [])) _
    refine XS.iconst X2.here hx rfl (hb hby at_48) ?_
    show Steps p.tables e below (T2.setTop (mkF m 49 #[iv p0, iv 2, rv w_BOTH, iv 1] [(.int 1)])) _
    refine XS.goto X2.here hx rfl (pc0 := 49) (pc' := 53) rfl (hb hby at_49) (by decide) (by decide) ?_
    show Steps p.tables e below (T2.setTop (mkF m 53 #[iv p0, iv 2, rv w_BOTH, iv 1] [(.int 1)])) _
    exact retN X2 hx (t := .boolean) Bd.returns (by simp) (hb hby at_53) hr
  · show own_law2_Q Z w_EVALUATION w_FORECAST w_BOTH p0 h0 n0 _ T2.heap _
    rw [e2]
    exact ⟨rfl, N2, trivial⟩
def own_law_Q (h0 : Heap) (n0 : Nat) (v : Option Value) (h : Heap) (L : List Loc) : Prop := v = some (.int 1) ∧ Fr n0 L
theorem own_law (l : Launch) (Z : State) (a0 : Array Value) (hw : ∀ d ∈ tables_1, d.before a0 Z = true) (ws : List Jvm.Cond) (w_EVALUATION : Addr) (w_FORECAST : Addr) (w_BOTH : Addr) (p0 : Int32) (h0 : Heap) (n0 : Nat) (O0 : Old Z n0 h0) (U_EVALUATION : own_En Z Z.heap "com/example/vaxwire/vaxwire/cdsi/ConditionalSkip$Context" "EVALUATION" "Lcom/example/vaxwire/vaxwire/cdsi/ConditionalSkip$Context;" w_EVALUATION (0 : Int32)) (U_FORECAST : own_En Z Z.heap "com/example/vaxwire/vaxwire/cdsi/ConditionalSkip$Context" "FORECAST" "Lcom/example/vaxwire/vaxwire/cdsi/ConditionalSkip$Context;" w_FORECAST (1 : Int32)) (U_BOTH : own_En Z Z.heap "com/example/vaxwire/vaxwire/cdsi/ConditionalSkip$Context" "BOTH" "Lcom/example/vaxwire/vaxwire/cdsi/ConditionalSkip$Context;" w_BOTH (2 : Int32)) :
    MetFree l x (head1 (Jvm.Cond.code x code maxLocals ret :: ws) room_1) (fun a U => a = #[(.int p0)] ∧ Z.Warmed39 U.vm ∧ U.heap = h0) (fun _ _ _ _ _ => True) (fun _ U o U' => ∃ v L, o = .returned v ∧ own_law_Q h0 n0 v U'.heap L ∧ FrameEnd U o U' L 0 0) := by
  have weak : ∀ {P Q : Option Value → Heap → List Loc → Prop}, (∀ v h L, P v h L → Q v h L) → MetFree l x (head1 (Jvm.Cond.code x code maxLocals ret :: ws) room_1) (fun a U => a = #[(.int p0)] ∧ Z.Warmed39 U.vm ∧ U.heap = h0) (fun _ _ _ _ _ => True) (fun _ U o U' => ∃ v L, o = .returned v ∧ P v U'.heap L ∧ FrameEnd U o U' L 0 0) → MetFree l x (head1 (Jvm.Cond.code x code maxLocals ret :: ws) room_1) (fun a U => a = #[(.int p0)] ∧ Z.Warmed39 U.vm ∧ U.heap = h0) (fun _ _ _ _ _ => True) (fun _ U o U' => ∃ v L, o = .returned v ∧ Q v U'.heap L ∧ FrameEnd U o U' L 0 0) := by
    intro P Q hPQ hM p e ha hc hk s m args below hf happ hP hK
    obtain ⟨n, o, h1, h2, h3, v, L, h4, h5, h6⟩ := hM p e ha hc hk s m args below hf happ hP hK
    exact ⟨n, o, h1, h2, h3, v, L, h4, hPQ _ _ _ h5, h6⟩
  rcases own_rem3 p0 with hk | hk | hk
  · exact weak (fun _ _ _ q => ⟨q.1, q.2.1⟩) (own_law0 l Z a0 hw ws w_EVALUATION w_FORECAST w_BOTH p0 h0 n0 O0 U_EVALUATION U_FORECAST U_BOTH hk)
  · exact weak (fun _ _ _ q => ⟨q.1, q.2.1⟩) (own_law1 l Z a0 hw ws w_EVALUATION w_FORECAST w_BOTH p0 h0 n0 O0 U_EVALUATION U_FORECAST U_BOTH hk)
  · exact weak (fun _ _ _ q => ⟨q.1, q.2.1⟩) (own_law2 l Z a0 hw ws w_EVALUATION w_FORECAST w_BOTH p0 h0 n0 O0 U_EVALUATION U_FORECAST U_BOTH hk)
set_option maxRecDepth 65536 in
set_option maxHeartbeats 40000000 in
theorem comes_1 {Post : Tables → Env → Array Value → State → Outcome → State → Prop} (hpost : ∀ tb e args s v u, (limb_1_1.after args s (.returned v) u = true ∧ limb_1_2.after args s (.returned v) u = true ∧ True) → FrameEnd s (.returned v) u (Jvm.fieldLocs frame_1_writes args s ++ Jvm.arrayLocs frame_1_arrays args s ++ Jvm.staticLocs frame_1_statics s) 0 0 → Post tb e args s (.returned v) u) :
    ArmFor flags0 classFile x code maxLocals ret World_1 tables_1 room_1 Calls_1 rest_1 Pre_1 Post := by
  intro l hfl _ _ p e ha hc hk s m args below hf hA hF happ hP
  obtain ⟨hcalls, hrest, hpre⟩ := hP
  obtain ⟨-, -, -, hnamed, -, -, -, hat⟩ := (Spec.applies_iff hf).mp happ
  obtain ⟨hg, hn⟩ := and_e (Cond.before_iff.mp (show (Jvm.Cond.and given_1 narrow_1).before args s = true from hpre))
  obtain ⟨hq1, hq2⟩ := and_e hg
  obtain ⟨w0, rfl⟩ : ∃ w0 : Value, args = #[w0] := by
    have hs : args.size = 1 := by simpa [Cond.value, given_1] using hq1
    obtain ⟨L⟩ := args
    match L, hs with
    | [w0], _ => exact ⟨w0, rfl⟩
  have hw := fun d (hd : d ∈ tables_1) => atoms_spec (ws := Jvm.Cond.code x code maxLocals ret :: tables_1) hat d (List.mem_cons_of_mem _ hd)
  have hfit : Fit s := fun {y c} hc i hi => by
    obtain ⟨ha, rfl⟩ := Array.getElem?_eq_some_iff.mp hc
    have q := List.all_eq_true.mp ((Array.all_eq_true_iff_forall_mem.mp hF) _ (Array.getElem_mem ha)) i (List.mem_range.mpr hi)
    simpa [Array.getElem?_eq_getElem hi] using q
  obtain ⟨i0, ei0⟩ := is_v hq2
  obtain rfl : w0 = (.int i0) := Option.some.inj ei0
  obtain ⟨hq3, hq4⟩ := and_e hn
  obtain ⟨hq5, hq6⟩ := and_e hq4
  obtain ⟨hq7, hq8⟩ := and_e hq6
  obtain ⟨hq9, hq10⟩ := and_e hq8
  obtain ⟨hq11, hq12⟩ := and_e hq10
  obtain ⟨w_EVALUATION, ev_EVALUATION⟩ := exa_v hq3
  have S_EVALUATION : Sta s s.heap "com/example/vaxwire/vaxwire/cdsi/ConditionalSkip$Context" "EVALUATION" "Lcom/example/vaxwire/vaxwire/cdsi/ConditionalSkip$Context;" (.ref w_EVALUATION) := Sta.start ev_EVALUATION (Or.inr ⟨(hw _ (List.mem_of_getElem? (i := 2) rfl)), (hw _ (List.mem_of_getElem? (i := 3) rfl))⟩)
  have E_EVALUATION : Exa s s.heap w_EVALUATION "com/example/vaxwire/vaxwire/cdsi/ConditionalSkip$Context" := Exa.start ev_EVALUATION hq3
  have R_EVALUATION : Fld s s.heap w_EVALUATION "java/lang/Enum" "ordinal" "I" (.int (0 : Int32)) := Fld.start ((fld_at ev_EVALUATION).symm.trans (own_eqI hq7))
  have U_EVALUATION := And.intro S_EVALUATION (And.intro E_EVALUATION R_EVALUATION)
  obtain ⟨w_FORECAST, ev_FORECAST⟩ := exa_v hq5
  have S_FORECAST : Sta s s.heap "com/example/vaxwire/vaxwire/cdsi/ConditionalSkip$Context" "FORECAST" "Lcom/example/vaxwire/vaxwire/cdsi/ConditionalSkip$Context;" (.ref w_FORECAST) := Sta.start ev_FORECAST (Or.inr ⟨(hw _ (List.mem_of_getElem? (i := 2) rfl)), (hw _ (List.mem_of_getElem? (i := 10) rfl))⟩)
  have E_FORECAST : Exa s s.heap w_FORECAST "com/example/vaxwire/vaxwire/cdsi/ConditionalSkip$Context" := Exa.start ev_FORECAST hq5
  have R_FORECAST : Fld s s.heap w_FORECAST "java/lang/Enum" "ordinal" "I" (.int (1 : Int32)) := Fld.start ((fld_at ev_FORECAST).symm.trans (own_eqI hq9))
  have U_FORECAST := And.intro S_FORECAST (And.intro E_FORECAST R_FORECAST)
  obtain ⟨w_BOTH, ev_BOTH⟩ := exa_v hq11
  have S_BOTH : Sta s s.heap "com/example/vaxwire/vaxwire/cdsi/ConditionalSkip$Context" "BOTH" "Lcom/example/vaxwire/vaxwire/cdsi/ConditionalSkip$Context;" (.ref w_BOTH) := Sta.start ev_BOTH (Or.inr ⟨(hw _ (List.mem_of_getElem? (i := 2) rfl)), (hw _ (List.mem_of_getElem? (i := 12) rfl))⟩)
  have E_BOTH : Exa s s.heap w_BOTH "com/example/vaxwire/vaxwire/cdsi/ConditionalSkip$Context" := Exa.start ev_BOTH hq11
  have R_BOTH : Fld s s.heap w_BOTH "java/lang/Enum" "ordinal" "I" (.int (2 : Int32)) := Fld.start ((fld_at ev_BOTH).symm.trans (own_eqI hq12))
  have U_BOTH := And.intro S_BOTH (And.intro E_BOTH R_BOTH)
  obtain ⟨n, o, h1, h2, h3, _, L, rfl, ⟨rfl, N⟩, hq⟩ := own_law l s _ hw tables_1 w_EVALUATION w_FORECAST w_BOTH i0 s.heap s.heap.size (Old.start s) U_EVALUATION U_FORECAST U_BOTH p e ha hc hk s m _ below hf ((Spec.applies_iff_loose hf).mp happ).1 ⟨rfl, State.Warmed39.refl s, rfl⟩ trivial
  refine ⟨n, _, h1, h2, h3, hpost _ _ _ _ _ _ ⟨Cond.after_iff.mpr rfl, Cond.after_iff.mpr (eq_i res_at (Term.int_eval (1)) rfl), trivial⟩ ⟨hq.1, hq.2.1, (hq.2.2.sift fun y hy => Or.inr (N y hy)).mono (by decide) (by decide)⟩⟩
theorem main_1_1 : Claimed_1_1 := comes_1 fun _ _ _ _ _ _ h hF => ⟨h.1, hF⟩
theorem main_1_2 : Claimed_1_2 := comes_1 fun _ _ _ _ _ _ h hF => ⟨h.2.1, hF⟩
end Jvm.Pilot.@@N@@
namespace Jvm.Pilot.@@N@@
open Jvm Jvm.ClassFile Sem Op Lib Jvm.Free Jvm.Stand Jvm.Pilot.@@N@@.Jvm.D
/-! MADE BY PROGRAM (witnessworld.py) out of the Statement's table words and the real class files: 12 classes; the members and pool entries that the words name. The judged class is class 1, her method 1. -/
namespace start1
open Jvm.ClassFile
def u (s : String) : CpInfo := .utf8 (stringToUtf16 s)
/-- a pool by its gaps: so many unusable entries, then the entry; so many at the end -/
def gap : Nat → List CpInfo → List CpInfo
  | 0, r => r
  | n + 1, r => .unusable :: gap n r
def poolList (es : List (Nat × CpInfo)) (last : Nat) : List CpInfo := es.foldr (fun e r => gap e.1 (e.2 :: r)) (gap last [])
def pool (es : List (Nat × CpInfo)) (last : Nat) : Array CpInfo := ⟨poolList es last⟩
def fileOf (pool : Array CpInfo) (this : Nat) (attrs : Array Attribute := #[]) (ms : Array MethodInfo := #[]) (fl : Nat := 33) (sup : Nat := 0) (ifs : Array Nat := #[]) (fds : Array FieldInfo := #[]) : ClassFile where
  minorVersion := 0
  majorVersion := 65
  constantPool := pool
  accessFlags := fl
  thisClass := this
  superClass := sup
  interfaces := ifs
  fields := fds
  methods := ms
  attributes := attrs
def plain (name : String) (sup : Option ClassId) : Class where
  name := name
  kind := .ordinary
  loader := none
  accessFlags := 33
  super := sup
  interfaces := #[]
  cf := none
  fields := #[]
  methods := #[]
  instanceTypes := #[]
  staticTypes := #[]
  resolved := #[]
  callSites := []
  init := .initialized
  statics := none
  mirror := none

def pool0 : Array CpInfo := pool [(5, u "<init>"), (0, u "()V"), (1, .class_ 10), (1, u "java/lang/Object")] 113

def k0m0 : Method := { name := "<init>", desc := "()V", sig := { parameters := [], returnType := none }, accessFlags := 1, code := none }
/-- java/lang/Object -/
def k0 : Class := { plain "java/lang/Object" none with
  accessFlags := 33
  interfaces := #[]
  cf := some (fileOf pool0 8 #[] #[{ accessFlags := 1, nameIndex := 5, descriptorIndex := 6, attributes := #[] }] 33 0 #[] #[])
  fields := #[]
  methods := #[k0m0]
  instanceTypes := #[]
  staticTypes := #[]
  resolved := Array.replicate 124 none
  statics := none }

def pool1 : Array CpInfo := pool [(2, .class_ 4), (1, u "java/lang/Object"), (0, u "<init>"), (0, u "()V"), (0, .integer 2147483647), (0, .fieldref 9 10), (0, .class_ 11), (0, .nameAndType 12 13), (0, u "com/example/vaxwire/vaxwire/cdsi/ConditionalSkip$Context"), (0, u "EVALUATION"), (0, u "Lcom/example/vaxwire/vaxwire/cdsi/ConditionalSkip$Context;"), (0, .fieldref 9 15), (0, .nameAndType 16 13), (0, u "FORECAST"), (0, .fieldref 9 18), (0, .nameAndType 19 13), (0, u "BOTH"), (0, .methodref 9 21), (0, .nameAndType 22 23), (0, u "evaluation"), (0, u "()Z"), (0, .class_ 25), (0, u "com/example/vaxwire/vaxwire/cdsi/ContextEvaluationPinLaw"), (2, u "law"), (0, u "(I)Z")] 7

def k1m0 : Method := { name := "<init>", desc := "()V", sig := { parameters := [], returnType := none }, accessFlags := 1, code := none }
def k1c1 : Code := { maxStack := 2, maxLocals := 4, code := code, exceptionTable := #[], attributes := #[] }
def k1m1 : Method := { name := "law", desc := "(I)Z", sig := { parameters := [.int], returnType := some .boolean }, accessFlags := 9, code := some k1c1 }
/-- com/example/vaxwire/vaxwire/cdsi/ContextEvaluationPinLaw -/
def k1 : Class := { plain "com/example/vaxwire/vaxwire/cdsi/ContextEvaluationPinLaw" (some 0) with
  accessFlags := 49
  interfaces := #[]
  cf := some (fileOf pool1 24 #[] #[{ accessFlags := 1, nameIndex := 5, descriptorIndex := 6, attributes := #[] }, { accessFlags := 9, nameIndex := 28, descriptorIndex := 29, attributes := #[] }] 49 2 #[] #[])
  fields := #[]
  methods := #[k1m0, k1m1]
  instanceTypes := #[]
  staticTypes := #[]
  resolved := Array.replicate 37 none
  statics := none }

def pool2 : Array CpInfo := pool [(1, .class_ 2), (0, u "java/lang/constant/Constable"), (0, .class_ 4), (0, u "java/lang/Object")] 6

/-- java/lang/constant/Constable -/
def k2 : Class := { plain "java/lang/constant/Constable" (some 0) with
  accessFlags := 1537
  interfaces := #[]
  cf := some (fileOf pool2 1 #[] #[] 1537 3 #[] #[])
  fields := #[]
  methods := #[]
  instanceTypes := #[]
  staticTypes := #[]
  resolved := Array.replicate 11 none
  statics := none }

def pool3 : Array CpInfo := pool [(1, .class_ 2), (0, u "java/lang/Comparable"), (0, .class_ 4), (0, u "java/lang/Object")] 7

/-- java/lang/Comparable -/
def k3 : Class := { plain "java/lang/Comparable" (some 0) with
  accessFlags := 1537
  interfaces := #[]
  cf := some (fileOf pool3 1 #[] #[] 1537 3 #[] #[])
  fields := #[]
  methods := #[]
  instanceTypes := #[]
  staticTypes := #[]
  resolved := Array.replicate 12 none
  statics := none }

def pool4 : Array CpInfo := pool [(1, .class_ 2), (0, u "java/io/Serializable"), (0, .class_ 4), (0, u "java/lang/Object")] 2

/-- java/io/Serializable -/
def k4 : Class := { plain "java/io/Serializable" (some 0) with
  accessFlags := 1537
  interfaces := #[]
  cf := some (fileOf pool4 1 #[] #[] 1537 3 #[] #[])
  fields := #[]
  methods := #[]
  instanceTypes := #[]
  staticTypes := #[]
  resolved := Array.replicate 7 none
  statics := none }

def pool5 : Array CpInfo := pool [(2, .class_ 4), (1, u "java/lang/Enum"), (0, u "name"), (0, u "Ljava/lang/String;"), (2, u "ordinal"), (0, u "I"), (1, .class_ 14), (1, u "java/lang/Object"), (4, u "hash"), (86, .class_ 108), (1, u "java/lang/Enum$EnumDesc"), (2, .class_ 112), (0, u "java/lang/constant/Constable"), (0, .class_ 114), (0, u "java/lang/Comparable"), (0, .class_ 116), (0, u "java/io/Serializable")] 87

/-- java/lang/Enum -/
def k5 : Class := { plain "java/lang/Enum" (some 0) with
  accessFlags := 1057
  interfaces := #[2, 3, 4]
  cf := some (fileOf pool5 2 #[.nestMembers #[106]] #[] 1057 12 #[111, 113, 115] #[{ accessFlags := 18, nameIndex := 5, descriptorIndex := 6, attributes := #[] }, { accessFlags := 18, nameIndex := 9, descriptorIndex := 10, attributes := #[] }, { accessFlags := 2, nameIndex := 19, descriptorIndex := 10, attributes := #[] }])
  fields := #[{ name := "name", type := (.object "java/lang/String"), accessFlags := 18, slot := 0, constantValue := 0 }, { name := "ordinal", type := .int, accessFlags := 18, slot := 1, constantValue := 0 }, { name := "hash", type := .int, accessFlags := 2, slot := 2, constantValue := 0 }]
  methods := #[]
  instanceTypes := #[(.object "java/lang/String"), .int, .int]
  staticTypes := #[]
  resolved := Array.replicate 204 none
  statics := none }

def pool6 : Array CpInfo := pool [(1, .class_ 2), (0, u "com/example/vaxwire/vaxwire/cdsi/ConditionalSkip$Context"), (2, u "EVALUATION"), (0, u "Lcom/example/vaxwire/vaxwire/cdsi/ConditionalSkip$Context;"), (0, .fieldref 1 8), (0, .nameAndType 9 6), (0, u "FORECAST"), (2, u "BOTH"), (2, u "$VALUES"), (0, u "[Lcom/example/vaxwire/vaxwire/cdsi/ConditionalSkip$Context;"), (6, .class_ 25), (1, u "java/lang/Enum"), (21, u "evaluation"), (0, u "()Z"), (7, .class_ 57), (0, u "com/example/vaxwire/vaxwire/cdsi/ConditionalSkip")] 2

def k6c0 : Code := { maxStack := 2, maxLocals := 1, code := prog_75_method_4_code, exceptionTable := #[], attributes := #[] }
def k6m0 : Method := { name := "evaluation", desc := "()Z", sig := { parameters := [], returnType := some .boolean }, accessFlags := 1, code := some k6c0 }
/-- com/example/vaxwire/vaxwire/cdsi/ConditionalSkip$Context -/
def k6 : Class := { plain "com/example/vaxwire/vaxwire/cdsi/ConditionalSkip$Context" (some 5) with
  accessFlags := 16433
  interfaces := #[]
  cf := some (fileOf pool6 1 #[.nestHost 56] #[{ accessFlags := 1, nameIndex := 47, descriptorIndex := 48, attributes := #[] }] 16433 23 #[] #[{ accessFlags := 16409, nameIndex := 5, descriptorIndex := 6, attributes := #[] }, { accessFlags := 16409, nameIndex := 9, descriptorIndex := 6, attributes := #[] }, { accessFlags := 16409, nameIndex := 12, descriptorIndex := 6, attributes := #[] }, { accessFlags := 4122, nameIndex := 15, descriptorIndex := 16, attributes := #[] }])
  fields := #[{ name := "EVALUATION", type := (.object "com/example/vaxwire/vaxwire/cdsi/ConditionalSkip$Context"), accessFlags := 16409, slot := 0, constantValue := 0 }, { name := "FORECAST", type := (.object "com/example/vaxwire/vaxwire/cdsi/ConditionalSkip$Context"), accessFlags := 16409, slot := 1, constantValue := 0 }, { name := "BOTH", type := (.object "com/example/vaxwire/vaxwire/cdsi/ConditionalSkip$Context"), accessFlags := 16409, slot := 2, constantValue := 0 }, { name := "$VALUES", type := (.array (.object "com/example/vaxwire/vaxwire/cdsi/ConditionalSkip$Context")), accessFlags := 4122, slot := 3, constantValue := 0 }]
  methods := #[k6m0]
  instanceTypes := #[(.object "java/lang/String"), .int, .int]
  staticTypes := #[(.object "com/example/vaxwire/vaxwire/cdsi/ConditionalSkip$Context"), (.object "com/example/vaxwire/vaxwire/cdsi/ConditionalSkip$Context"), (.object "com/example/vaxwire/vaxwire/cdsi/ConditionalSkip$Context"), (.array (.object "com/example/vaxwire/vaxwire/cdsi/ConditionalSkip$Context"))]
  resolved := Array.replicate 60 none
  statics := some 0 }

def pool7 : Array CpInfo := pool [(1, u "java/lang/Cloneable"), (0, .class_ 1), (0, u "java/lang/Object"), (0, .class_ 3)] 3

/-- java/lang/Cloneable -/
def k7 : Class := { plain "java/lang/Cloneable" (some 0) with
  accessFlags := 1537
  interfaces := #[]
  cf := some (fileOf pool7 2 #[] #[] 1537 4 #[] #[])
  fields := #[]
  methods := #[]
  instanceTypes := #[]
  staticTypes := #[]
  resolved := Array.replicate 8 none
  statics := none }

/-- the primitive byte -/
def k8 : Class := { plain "byte" none with kind := .primitive 'B', accessFlags := 0x411 }
/-- [B -/
def k9 : Class := { plain "[B" (some 0) with kind := .array 8 .byte, interfaces := #[7, 4], accessFlags := 1041 }

/-- the primitive int -/
def k10 : Class := { plain "int" none with kind := .primitive 'I', accessFlags := 0x411 }
/-- [I -/
def k11 : Class := { plain "[I" (some 0) with kind := .array 10 .int, interfaces := #[7, 4], accessFlags := 1041 }

def heap : Heap := #[{ cls := 6, slots := #[.ref 1, .ref 2, .ref 3, .null], vm := .statics 6 },
  { cls := 6, slots := #[.null, .int 0, .int 0], vm := .none },
  { cls := 6, slots := #[.null, .int 1, .int 0], vm := .none },
  { cls := 6, slots := #[.null, .int 2, .int 0], vm := .none }]
def classes : Array Class := #[k0, k1, k2, k3, k4, k5, k6, k7, k8, k9, k10, k11]
def interned : List (Array UInt16 × Addr) := []
def slotsUsed : Nat := 13
def theMethod : MethodId := ⟨1, 1⟩
def args0 : Array Value := #[.int 5]
def aboutOver (below : List Frame) : State where
  vm := { classes := classes, interned := interned.toArray }
  heap := heap
  slotsUsed := slotsUsed
  threads := #[{ frames := .invoking theMethod args0 :: below }]
def below0 : List Frame := [.native { method := ⟨0, 0⟩, args := #[] }]
def about1 : State := aboutOver below0
def p0 : Program := .bare "" "" ""
def e0 : Env := launch0.env 0 0 0
theorem w_frames : about1.frames = Frame.invoking theMethod args0 :: below0 := rfl
set_option maxRecDepth 65536 in
theorem w_args : argsFit about1.vm theMethod args0 = true := by decide +kernel
set_option maxRecDepth 65536 in
theorem w_heap : heapFits about1 = true := by decide +kernel
set_option maxRecDepth 65536 in
theorem w_runnable : about1.curStatus? = some .runnable := by decide +kernel
set_option maxRecDepth 65536 in
theorem w_alone : about1.alone = true := by decide +kernel
set_option maxRecDepth 65536 in
theorem w_named : about1.methodNamed? x = some theMethod := by decide +kernel
set_option maxRecDepth 65536 in
theorem w_hears : about1.hears theMethod below0 = true := by decide +kernel
set_option maxRecDepth 65536 in
theorem w_ripe : about1.ripe theMethod args0 below0 = true := by decide +kernel
theorem w_running : about1.status = .running := rfl
set_option maxRecDepth 65536 in
theorem w_room : about1.hasRoom e0.platform room_1 = true :=
  launch0.hasRoom_least _ room_1 (by decide +kernel) (by decide +kernel) (by decide +kernel) (by decide +kernel) (by decide +kernel) (by decide +kernel)
theorem allAtoms_all (ts : List Jvm.Cond) (a : Array Jvm.Value) (st : Jvm.State) : (allAtoms ts).before a st = ts.all (fun c => c.before a st) := by
  induction ts with
  | nil => rfl
  | cons c t ih =>
    show (Jvm.Cond.and c (allAtoms t)).before a st = _
    rw [Jvm.Cond.before_and, ih, List.all_cons]
def words1 : List Jvm.Cond := Jvm.Cond.code x code maxLocals ret :: tables_1
/-- a 'code' word, met by the world's own term for the bytes: nothing is compared byte by byte -/
theorem code_word {y : MethodName} {bytes : ByteArray} {mx : Nat} {rt : Option FieldType} {a : Array Value} {s : State} {m : MethodId} {meth : Method} {c : Code} (h1 : s.methodNamed? y = some m) (h2 : s.vm.method? m = some meth) (h3 : meth.code = some c) (h4 : c.code = bytes)
    (h5 : (c.maxLocals == mx && c.exceptionTable.isEmpty && decide (c.maxStack ≤ mostOperands) && decide (meth.sig.returnType = rt) && !meth.locks && decide (parseMethodDescriptor y.desc = some meth.sig)) = true) : (Jvm.Cond.code y bytes mx rt).before a s = true := by
  simp only [Bool.and_eq_true, beq_iff_eq, Bool.not_eq_true', decide_eq_true_eq] at h5
  obtain ⟨⟨⟨⟨⟨g1, g2⟩, g3⟩, g4⟩, g5⟩, g6⟩ := h5
  simp [Cond.before, Cond.holds, Cond.value, h1, h2, h3, h4, g1, g2, g3, g4, g5, g6]
def isCode : Jvm.Cond → Bool
  | .code _ _ _ _ => true
  | _ => false
theorem all_split {L : List Jvm.Cond} {P : Jvm.Cond → Bool} (h1 : L.all (fun c => isCode c || P c) = true) (h2 : ∀ c ∈ L.filter isCode, P c = true) : L.all P = true := by
  refine List.all_eq_true.mpr fun c hc => ?_
  have h := List.all_eq_true.mp h1 c hc
  rcases Bool.eq_false_or_eq_true (isCode c) with hi | hi
  · exact h2 c (List.mem_filter.mpr ⟨hc, hi⟩)
  · simpa [hi] using h
set_option maxRecDepth 65536 in
theorem w_c0 : (Jvm.Cond.code x code maxLocals ret).before args0 about1 = true := code_word (m := ⟨1, 1⟩) (meth := k1m1) (c := k1c1) (by decide +kernel) rfl rfl rfl (by decide +kernel)
set_option maxRecDepth 65536 in
theorem w_c1 : (Jvm.Cond.code ({ cls := "com/example/vaxwire/vaxwire/cdsi/ConditionalSkip$Context", name := "evaluation", desc := "()Z" } : Jvm.MethodName) prog_75_method_4_code (1 : Nat) (Option.some Jvm.ClassFile.FieldType.boolean)).before args0 about1 = true := code_word (m := ⟨6, 0⟩) (meth := k6m0) (c := k6c0) (by decide +kernel) rfl rfl rfl (by decide +kernel)
def codes1 : List Jvm.Cond := [Jvm.Cond.code x code maxLocals ret, Jvm.Cond.code ({ cls := "com/example/vaxwire/vaxwire/cdsi/ConditionalSkip$Context", name := "evaluation", desc := "()Z" } : Jvm.MethodName) prog_75_method_4_code (1 : Nat) (Option.some Jvm.ClassFile.FieldType.boolean)]
set_option maxRecDepth 65536 in
theorem codes_eq : words1.filter isCode = codes1 := rfl
theorem w_codes : ∀ c ∈ words1.filter isCode, c.before args0 about1 = true := by
  rw [codes_eq]
  intro c hc
  simp only [codes1, List.mem_cons, List.not_mem_nil, or_false] at hc
  rcases hc with rfl | rfl
  · exact w_c0
  · exact w_c1
set_option maxRecDepth 65536 in
theorem w_t1 : words1.all (fun c => isCode c || c.before args0 about1) = true := by decide +kernel
theorem w_tables : (allAtoms (Jvm.Cond.code x code maxLocals ret :: tables_1)).before args0 about1 = true := by
  rw [allAtoms_all]
  show words1.all (fun c => c.before args0 about1) = true
  refine all_split ?_ w_codes
  rw [w_t1]
set_option maxRecDepth 65536 in
theorem w_case : (Jvm.Cond.and given_1 narrow_1).before args0 about1 = true := by decide +kernel
theorem w_applies : (headSpec (Jvm.Cond.code x code maxLocals ret :: tables_1) room_1).applies x e0.platform about1 = true :=
  (Spec.applies_iff w_frames).mpr ⟨w_running, w_runnable, w_alone, w_named, w_hears, w_ripe, w_room, w_tables⟩
theorem atStart : AtStart classFile x code maxLocals ret World_1 tables_1 room_1 Calls_1 rest_1 Pre_1 launch0 p0 e0 about1 theMethod args0 below0 :=
  ⟨lists_1, trivial, launch0.admits_env _ _ _, launch0.least_env, fairChoices_fair.cas, fairChoices_fair.clock, w_frames, w_args, w_heap, w_applies, trivial, trivial, w_case⟩
end start1
theorem witness_1 : WitnessClaimed_1 := ⟨start1.p0, start1.e0, start1.about1, start1.theMethod, start1.args0, start1.below0, start1.atStart⟩
end Jvm.Pilot.@@N@@
