import JvmDerived
import JvmDerived.Pilot.@@N@@Statement
import JvmDerived.Pilot.@@N@@Code
set_option linter.unusedVariables false
set_option linter.unusedSimpArgs false
namespace Jvm.RoadKit
open Sem ClassFile Op Lib Jvm.Stand Jvm.Free Jvm.LawKit
section New
variable {p : Program} {l : Launch} {e : Env} {R : Room} {s : State} {m : MethodId} {args : Array Value} {below : List Frame} {meth : Method} {c : Code} {T : State} {locs : List Loc} {cells slots : Nat}
theorem retI (X : Stand p l e R s m args below meth c T locs cells slots) (hx : p.tables.exec = Jvm.exec) {pc : Nat} {Ls : Array Slot} {z : Int32} {rest : List Value} (hret : meth.sig.returnType = some .int) (hd : decode c.code pc = .ok (.ireturn, 1)) {fs : List Frame}
    (hl : ∀ (f : JFrame) (acts : List Action), f.method = m → f.locked = none → f.entered = [] → (doReturn e (T.setTop f) acts (some (.int z))).1 = T.setFrames fs) : Steps p.tables e below (T.setTop (mkF m pc Ls (.int z :: rest))) (T.setFrames fs) := by
  have hm' : T.vm.method? m = some meth := X.method'
  have hn : narrow .int (.int z) = .int z := rfl
  show Steps p.tables e below (T.setTop { method := m, pc := pc, locals := Ls, stack := _ :: rest, locked := none }) _
  jvm_step X.here [X.here.top, hx, hd, hm', hret, hn]
  first | (intro acts; rw [hl _ acts rfl rfl rfl]) | rw [hl _ _ rfl rfl rfl]
  exact Steps.refl _
end New
end Jvm.RoadKit
namespace Jvm.Pilot.@@N@@
open Jvm Jvm.ClassFile Sem Op Lib Jvm.Free Jvm.Stand Jvm.LawKit Jvm.RoadKit Bundle Jvm.Pilot.@@N@@.Jvm.D
theorem own_m {α : Type} {L : List α} {x : α} (i : Nat) (h : L[i]? = some x) : x ∈ L := List.mem_of_getElem? h
theorem own_top {tb : Tables} {e : Env} {below : List Frame} {T t : State} {m : MethodId} {pc : Nat} {Ls : Array Slot} {v v' : Value} {rest : List Value} (q : v = v') (k : Steps tb e below (T.setTop (mkF m pc Ls (v' :: rest))) t) : Steps tb e below (T.setTop (mkF m pc Ls (v :: rest))) t := q ▸ k
theorem own_le {Z : State} {n0 : Nat} {h : Heap} (O : Old Z n0 h) : n0 ≤ h.size := O.1 ▸ O.2.1
theorem own_eqI {args : Array Value} {first s : State} {o : Option Outcome} {idx : List Nat} {t : Term} {k : Int32} (h : (Jvm.Cond.eq t (.int k)).value args first o s idx = some true) : t.eval args first o idx s = some (.int k) := by
  cases ht : t.eval args first o idx s with
  | none => simp [Cond.value, Term.eval, ht] at h
  | some x => cases x <;> simp [Cond.value, Term.eval, ht] at h ⊢; exact h
theorem own_eqJ {args : Array Value} {first s : State} {o : Option Outcome} {idx : List Nat} {t : Term} {k : Int64} (h : (Jvm.Cond.eq t (.long k)).value args first o s idx = some true) : t.eval args first o idx s = some (.long k) := by
  cases ht : t.eval args first o idx s with
  | none => simp [Cond.value, Term.eval, ht] at h
  | some x => cases x <;> simp [Cond.value, Term.eval, ht] at h ⊢; exact h
theorem own_eqR {args : Array Value} {first s : State} {o : Option Outcome} {idx : List Nat} {t u : Term} {b : Addr} (h : (Jvm.Cond.eq t u).value args first o s idx = some true) (hu : u.eval args first o idx s = some (.ref b)) : t.eval args first o idx s = some (.ref b) := by
  cases ht : t.eval args first o idx s with
  | none => simp [Cond.value, ht] at h
  | some x => cases x <;> simp [Cond.value, ht, hu] at h ⊢; exact h
def own_En (Z : State) (h : Heap) (C f d : String) (w : Addr) (k : Int32) : Prop := Sta Z h C f d (.ref w) ∧ Exa Z h w C ∧ Fld Z h w "java/lang/Enum" "ordinal" "I" (.int k)
theorem own_d1_0 : decode prog_23_method_7_code 0 = .ok (.aload_n 0, 1) := by decide +kernel
theorem own_d1_1 : decode prog_23_method_7_code 1 = .ok (.getstatic 28, 3) := by decide +kernel
theorem own_d1_4 : decode prog_23_method_7_code 4 = .ok (.if_acmp .eq 10, 3) := by decide +kernel
theorem own_d1_7 : decode prog_23_method_7_code 7 = .ok (.aload_n 0, 1) := by decide +kernel
theorem own_d1_8 : decode prog_23_method_7_code 8 = .ok (.getstatic 13, 3) := by decide +kernel
theorem own_d1_11 : decode prog_23_method_7_code 11 = .ok (.if_acmp .ne 7, 3) := by decide +kernel
theorem own_d1_14 : decode prog_23_method_7_code 14 = .ok (.iconst 1, 1) := by decide +kernel
theorem own_d1_15 : decode prog_23_method_7_code 15 = .ok (.goto 4, 3) := by decide +kernel
theorem own_d1_18 : decode prog_23_method_7_code 18 = .ok (.iconst 0, 1) := by decide +kernel
theorem own_d1_19 : decode prog_23_method_7_code 19 = .ok (.ireturn, 1) := by decide +kernel
theorem own_d2_0 : decode prog_23_method_5_code 0 = .ok (.aload_n 0, 1) := by decide +kernel
theorem own_d2_1 : decode prog_23_method_5_code 1 = .ok (.getfield 56, 3) := by decide +kernel
theorem own_d2_4 : decode prog_23_method_5_code 4 = .ok (.areturn, 1) := by decide +kernel
theorem own_pn0 : plainName "com/example/holdfast/holdfast/PositionKind" = true := by first | (simp [plainName, overriddenIn]; done) | decide +kernel
theorem own_pn1 : plainName "com/example/holdfast/holdfast/PositionKindCrossesBorderPinLaw" = true := by first | (simp [plainName, overriddenIn]; done) | decide +kernel
theorem own_pd0 : parseMethodDescriptor "()Z" = some ⟨[], some .boolean⟩ := by decide +kernel
theorem own_pd1 : parseMethodDescriptor "()Lcom/example/holdfast/holdfast/PositionKind$Sign;" = some ⟨[], some (.object "com/example/holdfast/holdfast/PositionKind$Sign")⟩ := by decide +kernel
theorem own_rem11 (x : Int32) : ((x &&& (2147483647 : Int32)) % (11 : Int32)) = (0 : Int32) ∨ ((x &&& (2147483647 : Int32)) % (11 : Int32)) = (1 : Int32) ∨ ((x &&& (2147483647 : Int32)) % (11 : Int32)) = (2 : Int32) ∨ ((x &&& (2147483647 : Int32)) % (11 : Int32)) = (3 : Int32) ∨ ((x &&& (2147483647 : Int32)) % (11 : Int32)) = (4 : Int32) ∨ ((x &&& (2147483647 : Int32)) % (11 : Int32)) = (5 : Int32) ∨ ((x &&& (2147483647 : Int32)) % (11 : Int32)) = (6 : Int32) ∨ ((x &&& (2147483647 : Int32)) % (11 : Int32)) = (7 : Int32) ∨ ((x &&& (2147483647 : Int32)) % (11 : Int32)) = (8 : Int32) ∨ ((x &&& (2147483647 : Int32)) % (11 : Int32)) = (9 : Int32) ∨ ((x &&& (2147483647 : Int32)) % (11 : Int32)) = (10 : Int32) := by
  have h1 : (x &&& (2147483647 : Int32)).toInt = x.toInt % (2 ^ 31 : Nat) := c_mask x 2147483647 31 (by decide) (by decide)
  have h2 := (c_irem (x &&& (2147483647 : Int32)) (11 : Int32) 11 (by decide)).1 (by omega)
  generalize ((x &&& (2147483647 : Int32)) % (11 : Int32)) = k at h2 ⊢
  simp only [← Int32.toInt_inj, show (0 : Int32).toInt = 0 from by decide, show (1 : Int32).toInt = 1 from by decide, show (2 : Int32).toInt = 2 from by decide, show (3 : Int32).toInt = 3 from by decide, show (4 : Int32).toInt = 4 from by decide, show (5 : Int32).toInt = 5 from by decide, show (6 : Int32).toInt = 6 from by decide, show (7 : Int32).toInt = 7 from by decide, show (8 : Int32).toInt = 8 from by decide, show (9 : Int32).toInt = 9 from by decide, show (10 : Int32).toInt = 10 from by decide]
  omega
theorem own_m_DEMAND_BID_ef (m : MethodId) (w_DEMAND_BID : Addr) : entryFrame m #[(.ref w_DEMAND_BID)] 1 = mkF m 0 #[rv w_DEMAND_BID] [] := by first | (simp [entryFrame, mkF, argsToLocals, Value.category]; done) | rfl
def own_m_DEMAND_BID_Q (Z : State) (w_DEMAND_BID : Addr) (w_DECREMENT_BID : Addr) (w_METERED_LOAD : Addr) (w_EXTERNAL_SALE : Addr) (w_IBT_LOAD : Addr) (w_SUPPLY_OFFER : Addr) (w_INCREMENT_OFFER : Addr) (w_METERED_GENERATION : Addr) (w_EXTERNAL_PURCHASE : Addr) (w_IBT_MARKET : Addr) (w_IBT_MARKET_EXCL : Addr) (w_WITHDRAWAL : Addr) (w_INJECTION : Addr) (w_EITHER : Addr) (h0 : Heap) (n0 : Nat) (v : Option Value) (h : Heap) (L : List Loc) : Prop := v = some (.int 0) ∧ Fr n0 L ∧ h = h0
set_option maxRecDepth 65536 in
set_option maxHeartbeats 40000000 in
theorem own_m_DEMAND_BID (l : Launch) (Z : State) (a0 : Array Value) (hw : ∀ d ∈ tables_1, d.before a0 Z = true) (ws : List Jvm.Cond) (w_DEMAND_BID : Addr) (w_DECREMENT_BID : Addr) (w_METERED_LOAD : Addr) (w_EXTERNAL_SALE : Addr) (w_IBT_LOAD : Addr) (w_SUPPLY_OFFER : Addr) (w_INCREMENT_OFFER : Addr) (w_METERED_GENERATION : Addr) (w_EXTERNAL_PURCHASE : Addr) (w_IBT_MARKET : Addr) (w_IBT_MARKET_EXCL : Addr) (w_WITHDRAWAL : Addr) (w_INJECTION : Addr) (w_EITHER : Addr) (h0 : Heap) (n0 : Nat) (O0 : Old Z n0 h0) (U_DEMAND_BID : own_En Z Z.heap "com/example/holdfast/holdfast/PositionKind" "DEMAND_BID" "Lcom/example/holdfast/holdfast/PositionKind;" w_DEMAND_BID (0 : Int32)) (U_DECREMENT_BID : own_En Z Z.heap "com/example/holdfast/holdfast/PositionKind" "DECREMENT_BID" "Lcom/example/holdfast/holdfast/PositionKind;" w_DECREMENT_BID (1 : Int32)) (U_METERED_LOAD : own_En Z Z.heap "com/example/holdfast/holdfast/PositionKind" "METERED_LOAD" "Lcom/example/holdfast/holdfast/PositionKind;" w_METERED_LOAD (2 : Int32)) (U_EXTERNAL_SALE : own_En Z Z.heap "com/example/holdfast/holdfast/PositionKind" "EXTERNAL_SALE" "Lcom/example/holdfast/holdfast/PositionKind;" w_EXTERNAL_SALE (3 : Int32)) (U_IBT_LOAD : own_En Z Z.heap "com/example/holdfast/holdfast/PositionKind" "IBT_LOAD" "Lcom/example/holdfast/holdfast/PositionKind;" w_IBT_LOAD (4 : Int32)) (U_SUPPLY_OFFER : own_En Z Z.heap "com/example/holdfast/holdfast/PositionKind" "SUPPLY_OFFER" "Lcom/example/holdfast/holdfast/PositionKind;" w_SUPPLY_OFFER (5 : Int32)) (U_INCREMENT_OFFER : own_En Z Z.heap "com/example/holdfast/holdfast/PositionKind" "INCREMENT_OFFER" "Lcom/example/holdfast/holdfast/PositionKind;" w_INCREMENT_OFFER (6 : Int32)) (U_METERED_GENERATION : own_En Z Z.heap "com/example/holdfast/holdfast/PositionKind" "METERED_GENERATION" "Lcom/example/holdfast/holdfast/PositionKind;" w_METERED_GENERATION (7 : Int32)) (U_EXTERNAL_PURCHASE : own_En Z Z.heap "com/example/holdfast/holdfast/PositionKind" "EXTERNAL_PURCHASE" "Lcom/example/holdfast/holdfast/PositionKind;" w_EXTERNAL_PURCHASE (8 : Int32)) (U_IBT_MARKET : own_En Z Z.heap "com/example/holdfast/holdfast/PositionKind" "IBT_MARKET" "Lcom/example/holdfast/holdfast/PositionKind;" w_IBT_MARKET (9 : Int32)) (U_IBT_MARKET_EXCL : own_En Z Z.heap "com/example/holdfast/holdfast/PositionKind" "IBT_MARKET_EXCL" "Lcom/example/holdfast/holdfast/PositionKind;" w_IBT_MARKET_EXCL (10 : Int32)) (U_WITHDRAWAL : own_En Z Z.heap "com/example/holdfast/holdfast/PositionKind$Sign" "WITHDRAWAL" "Lcom/example/holdfast/holdfast/PositionKind$Sign;" w_WITHDRAWAL (0 : Int32)) (U_INJECTION : own_En Z Z.heap "com/example/holdfast/holdfast/PositionKind$Sign" "INJECTION" "Lcom/example/holdfast/holdfast/PositionKind$Sign;" w_INJECTION (1 : Int32)) (U_EITHER : own_En Z Z.heap "com/example/holdfast/holdfast/PositionKind$Sign" "EITHER" "Lcom/example/holdfast/holdfast/PositionKind$Sign;" w_EITHER (2 : Int32)) (G_EXTERNAL_SALE : Fld Z Z.heap w_EXTERNAL_SALE "com/example/holdfast/holdfast/PositionKind" "sign" "Lcom/example/holdfast/holdfast/PositionKind$Sign;" (.ref w_WITHDRAWAL)) (G_EXTERNAL_PURCHASE : Fld Z Z.heap w_EXTERNAL_PURCHASE "com/example/holdfast/holdfast/PositionKind" "sign" "Lcom/example/holdfast/holdfast/PositionKind$Sign;" (.ref w_INJECTION)) :
    MetFree l (⟨"com/example/holdfast/holdfast/PositionKind", "crossesBorder", "()Z"⟩ : MethodName) (head1 (Jvm.Cond.code (⟨"com/example/holdfast/holdfast/PositionKind", "crossesBorder", "()Z"⟩ : MethodName) prog_23_method_7_code 1 (some .boolean) :: ws) ({ frames := 0, cells := 0, slots := 0, locals := 0 } : Room)) (fun ar U => ar = #[(.ref w_DEMAND_BID)] ∧ Z.Warmed39 U.vm ∧ U.heap = h0) (fun _ _ _ _ _ => True) (fun _ U oc U' => ∃ v L, oc = .returned v ∧ own_m_DEMAND_BID_Q Z w_DEMAND_BID w_DECREMENT_BID w_METERED_LOAD w_EXTERNAL_SALE w_IBT_LOAD w_SUPPLY_OFFER w_INCREMENT_OFFER w_METERED_GENERATION w_EXTERNAL_PURCHASE w_IBT_MARKET w_IBT_MARKET_EXCL w_WITHDRAWAL w_INJECTION w_EITHER h0 n0 v U'.heap L ∧ FrameEnd U oc U' L ({ frames := 0, cells := 0, slots := 0, locals := 0 } : Room).cells ({ frames := 0, cells := 0, slots := 0, locals := 0 } : Room).slots) := by
  refine MetFree.of_bodySF (plainFor_of_name own_pn0) hisR ?_
  intro p e s m args below meth c s₁ Bd hml0 hP hK
  obtain ⟨rfl, hZ, hh⟩ := hP
  have hx := Bd.exec
  have hby := Bd.bytes
  have hml : c.maxLocals = 1 := hml0
  have hown : s.vm.findClass "com/example/holdfast/holdfast/PositionKind" = some m.cls := findClass_of_methodNamed Bd.named
  have hnm := (name_of_methodNamed Bd.named Bd.method).1
  have X0 : Stand p l e ({ frames := 0, cells := 0, slots := 0, locals := 0 } : Room) s m #[(.ref w_DEMAND_BID)] below meth c s₁ [] 0 0 := Stand.of_body Bd
  have e0 : s₁.heap = h0 := by rw [← hh, Bd.state]; rfl
  have N0 := Fr.nil n0
  have pre0 : ∀ t, Steps p.tables e below (s₁.setTop (mkF m 0 #[rv w_DEMAND_BID] [])) t → Steps p.tables e below (s₁.setTop (entryFrame m #[(.ref w_DEMAND_BID)] 1)) t := fun t k => castTop (own_m_DEMAND_BID_ef m w_DEMAND_BID) k
  obtain ⟨T1, X1, e1, st1⟩ := getS2 X0 hx hZ hown (host := "") (Or.inl (hw _ (own_m 33 rfl))) Via.refl e0 (U_EXTERNAL_PURCHASE.1.ext O0.2) (g := (mkF m 1 #[rv w_DEMAND_BID] [(.ref w_DEMAND_BID)])) rfl (hb hby own_d1_1)
  obtain ⟨T2, X2, e2, st2⟩ := getS2 X1 hx hZ hown (host := "") (Or.inl (hw _ (own_m 34 rfl))) Via.refl e1 (U_EXTERNAL_SALE.1.ext O0.2) (g := (mkF m 8 #[rv w_DEMAND_BID] [(.ref w_DEMAND_BID)])) rfl (hb hby own_d1_8)
  obtain ⟨fs, hr, hrun, hended, hW, hsame⟩ := X2.leave (v := some (.int 0)) (fun h => by rw [Bd.returns] at h; cases h)
  refine ⟨_, _, pre0 _ ?_, hrun, hended, _, _, rfl, ?_, ⟨_, rfl⟩, hW, hsame.mono (by decide) (by decide)⟩
  · show Steps p.tables e below (s₁.setTop (mkF m 0 #[rv w_DEMAND_BID] [])) _
    refine XS.aloadN X0.here hx rfl (hb hby own_d1_0) rfl rfl ?_
    show Steps p.tables e below (s₁.setTop (mkF m 1 #[rv w_DEMAND_BID] [(.ref w_DEMAND_BID)])) _
    refine st1 _ ?_
    show Steps p.tables e below (T1.setTop (mkF m 4 #[rv w_DEMAND_BID] [(.ref w_EXTERNAL_PURCHASE), (.ref w_DEMAND_BID)])) _
    refine Jvm.RoadKit.acmp (g := (mkF m 4 #[rv w_DEMAND_BID] [(.ref w_EXTERNAL_PURCHASE), (.ref w_DEMAND_BID)])) X1 hx rfl rfl rfl (pc0 := 4) (pc' := 7) (same := false) rfl (hb hby own_d1_4) rfl (decide_eq_false fun q => (Fld.ne U_DEMAND_BID.2.2 U_EXTERNAL_PURCHASE.2.2 (by decide)) (Value.ref.inj q)) (by decide) (by decide) ?_
    show Steps p.tables e below (T1.setTop (mkF m 7 #[rv w_DEMAND_BID] [])) _
    refine XS.aloadN X1.here hx rfl (hb hby own_d1_7) rfl rfl ?_
    show Steps p.tables e below (T1.setTop (mkF m 8 #[rv w_DEMAND_BID] [(.ref w_DEMAND_BID)])) _
    refine st2 _ ?_
    show Steps p.tables e below (T2.setTop (mkF m 11 #[rv w_DEMAND_BID] [(.ref w_EXTERNAL_SALE), (.ref w_DEMAND_BID)])) _
    refine Jvm.RoadKit.acmp (g := (mkF m 11 #[rv w_DEMAND_BID] [(.ref w_EXTERNAL_SALE), (.ref w_DEMAND_BID)])) X2 hx rfl rfl rfl (pc0 := 11) (pc' := 18) (same := false) rfl (hb hby own_d1_11) rfl (decide_eq_false fun q => (Fld.ne U_DEMAND_BID.2.2 U_EXTERNAL_SALE.2.2 (by decide)) (Value.ref.inj q)) (by decide) (by decide) ?_
    show Steps p.tables e below (T2.setTop (mkF m 18 #[rv w_DEMAND_BID] [])) _
    refine XS.iconst X2.here hx rfl (hb hby own_d1_18) ?_
    show Steps p.tables e below (T2.setTop (mkF m 19 #[rv w_DEMAND_BID] [(.int 0)])) _
    exact retN X2 hx (t := .boolean) Bd.returns (by simp) (hb hby own_d1_19) hr
  · show own_m_DEMAND_BID_Q Z w_DEMAND_BID w_DECREMENT_BID w_METERED_LOAD w_EXTERNAL_SALE w_IBT_LOAD w_SUPPLY_OFFER w_INCREMENT_OFFER w_METERED_GENERATION w_EXTERNAL_PURCHASE w_IBT_MARKET w_IBT_MARKET_EXCL w_WITHDRAWAL w_INJECTION w_EITHER h0 n0 _ T2.heap _
    rw [e2]
    exact ⟨rfl, N0, rfl⟩
theorem own_m_DECREMENT_BID_ef (m : MethodId) (w_DECREMENT_BID : Addr) : entryFrame m #[(.ref w_DECREMENT_BID)] 1 = mkF m 0 #[rv w_DECREMENT_BID] [] := by first | (simp [entryFrame, mkF, argsToLocals, Value.category]; done) | rfl
def own_m_DECREMENT_BID_Q (Z : State) (w_DEMAND_BID : Addr) (w_DECREMENT_BID : Addr) (w_METERED_LOAD : Addr) (w_EXTERNAL_SALE : Addr) (w_IBT_LOAD : Addr) (w_SUPPLY_OFFER : Addr) (w_INCREMENT_OFFER : Addr) (w_METERED_GENERATION : Addr) (w_EXTERNAL_PURCHASE : Addr) (w_IBT_MARKET : Addr) (w_IBT_MARKET_EXCL : Addr) (w_WITHDRAWAL : Addr) (w_INJECTION : Addr) (w_EITHER : Addr) (h0 : Heap) (n0 : Nat) (v : Option Value) (h : Heap) (L : List Loc) : Prop := v = some (.int 0) ∧ Fr n0 L ∧ h = h0
set_option maxRecDepth 65536 in
set_option maxHeartbeats 40000000 in
theorem own_m_DECREMENT_BID (l : Launch) (Z : State) (a0 : Array Value) (hw : ∀ d ∈ tables_1, d.before a0 Z = true) (ws : List Jvm.Cond) (w_DEMAND_BID : Addr) (w_DECREMENT_BID : Addr) (w_METERED_LOAD : Addr) (w_EXTERNAL_SALE : Addr) (w_IBT_LOAD : Addr) (w_SUPPLY_OFFER : Addr) (w_INCREMENT_OFFER : Addr) (w_METERED_GENERATION : Addr) (w_EXTERNAL_PURCHASE : Addr) (w_IBT_MARKET : Addr) (w_IBT_MARKET_EXCL : Addr) (w_WITHDRAWAL : Addr) (w_INJECTION : Addr) (w_EITHER : Addr) (h0 : Heap) (n0 : Nat) (O0 : Old Z n0 h0) (U_DEMAND_BID : own_En Z Z.heap "com/example/holdfast/holdfast/PositionKind" "DEMAND_BID" "Lcom/example/holdfast/holdfast/PositionKind;" w_DEMAND_BID (0 : Int32)) (U_DECREMENT_BID : own_En Z Z.heap "com/example/holdfast/holdfast/PositionKind" "DECREMENT_BID" "Lcom/example/holdfast/holdfast/PositionKind;" w_DECREMENT_BID (1 : Int32)) (U_METERED_LOAD : own_En Z Z.heap "com/example/holdfast/holdfast/PositionKind" "METERED_LOAD" "Lcom/example/holdfast/holdfast/PositionKind;" w_METERED_LOAD (2 : Int32)) (U_EXTERNAL_SALE : own_En Z Z.heap "com/example/holdfast/holdfast/PositionKind" "EXTERNAL_SALE" "Lcom/example/holdfast/holdfast/PositionKind;" w_EXTERNAL_SALE (3 : Int32)) (U_IBT_LOAD : own_En Z Z.heap "com/example/holdfast/holdfast/PositionKind" "IBT_LOAD" "Lcom/example/holdfast/holdfast/PositionKind;" w_IBT_LOAD (4 : Int32)) (U_SUPPLY_OFFER : own_En Z Z.heap "com/example/holdfast/holdfast/PositionKind" "SUPPLY_OFFER" "Lcom/example/holdfast/holdfast/PositionKind;" w_SUPPLY_OFFER (5 : Int32)) (U_INCREMENT_OFFER : own_En Z Z.heap "com/example/holdfast/holdfast/PositionKind" "INCREMENT_OFFER" "Lcom/example/holdfast/holdfast/PositionKind;" w_INCREMENT_OFFER (6 : Int32)) (U_METERED_GENERATION : own_En Z Z.heap "com/example/holdfast/holdfast/PositionKind" "METERED_GENERATION" "Lcom/example/holdfast/holdfast/PositionKind;" w_METERED_GENERATION (7 : Int32)) (U_EXTERNAL_PURCHASE : own_En Z Z.heap "com/example/holdfast/holdfast/PositionKind" "EXTERNAL_PURCHASE" "Lcom/example/holdfast/holdfast/PositionKind;" w_EXTERNAL_PURCHASE (8 : Int32)) (U_IBT_MARKET : own_En Z Z.heap "com/example/holdfast/holdfast/PositionKind" "IBT_MARKET" "Lcom/example/holdfast/holdfast/PositionKind;" w_IBT_MARKET (9 : Int32)) (U_IBT_MARKET_EXCL : own_En Z Z.heap "com/example/holdfast/holdfast/PositionKind" "IBT_MARKET_EXCL" "Lcom/example/holdfast/holdfast/PositionKind;" w_IBT_MARKET_EXCL (10 : Int32)) (U_WITHDRAWAL : own_En Z Z.heap "com/example/holdfast/holdfast/PositionKind$Sign" "WITHDRAWAL" "Lcom/example/holdfast/holdfast/PositionKind$Sign;" w_WITHDRAWAL (0 : Int32)) (U_INJECTION : own_En Z Z.heap "com/example/holdfast/holdfast/PositionKind$Sign" "INJECTION" "Lcom/example/holdfast/holdfast/PositionKind$Sign;" w_INJECTION (1 : Int32)) (U_EITHER : own_En Z Z.heap "com/example/holdfast/holdfast/PositionKind$Sign" "EITHER" "Lcom/example/holdfast/holdfast/PositionKind$Sign;" w_EITHER (2 : Int32)) (G_EXTERNAL_SALE : Fld Z Z.heap w_EXTERNAL_SALE "com/example/holdfast/holdfast/PositionKind" "sign" "Lcom/example/holdfast/holdfast/PositionKind$Sign;" (.ref w_WITHDRAWAL)) (G_EXTERNAL_PURCHASE : Fld Z Z.heap w_EXTERNAL_PURCHASE "com/example/holdfast/holdfast/PositionKind" "sign" "Lcom/example/holdfast/holdfast/PositionKind$Sign;" (.ref w_INJECTION)) :
    MetFree l (⟨"com/example/holdfast/holdfast/PositionKind", "crossesBorder", "()Z"⟩ : MethodName) (head1 (Jvm.Cond.code (⟨"com/example/holdfast/holdfast/PositionKind", "crossesBorder", "()Z"⟩ : MethodName) prog_23_method_7_code 1 (some .boolean) :: ws) ({ frames := 0, cells := 0, slots := 0, locals := 0 } : Room)) (fun ar U => ar = #[(.ref w_DECREMENT_BID)] ∧ Z.Warmed39 U.vm ∧ U.heap = h0) (fun _ _ _ _ _ => True) (fun _ U oc U' => ∃ v L, oc = .returned v ∧ own_m_DECREMENT_BID_Q Z w_DEMAND_BID w_DECREMENT_BID w_METERED_LOAD w_EXTERNAL_SALE w_IBT_LOAD w_SUPPLY_OFFER w_INCREMENT_OFFER w_METERED_GENERATION w_EXTERNAL_PURCHASE w_IBT_MARKET w_IBT_MARKET_EXCL w_WITHDRAWAL w_INJECTION w_EITHER h0 n0 v U'.heap L ∧ FrameEnd U oc U' L ({ frames := 0, cells := 0, slots := 0, locals := 0 } : Room).cells ({ frames := 0, cells := 0, slots := 0, locals := 0 } : Room).slots) := by
  refine MetFree.of_bodySF (plainFor_of_name own_pn0) hisR ?_
  intro p e s m args below meth c s₁ Bd hml0 hP hK
  obtain ⟨rfl, hZ, hh⟩ := hP
  have hx := Bd.exec
  have hby := Bd.bytes
  have hml : c.maxLocals = 1 := hml0
  have hown : s.vm.findClass "com/example/holdfast/holdfast/PositionKind" = some m.cls := findClass_of_methodNamed Bd.named
  have hnm := (name_of_methodNamed Bd.named Bd.method).1
  have X0 : Stand p l e ({ frames := 0, cells := 0, slots := 0, locals := 0 } : Room) s m #[(.ref w_DECREMENT_BID)] below meth c s₁ [] 0 0 := Stand.of_body Bd
  have e0 : s₁.heap = h0 := by rw [← hh, Bd.state]; rfl
  have N0 := Fr.nil n0
  have pre0 : ∀ t, Steps p.tables e below (s₁.setTop (mkF m 0 #[rv w_DECREMENT_BID] [])) t → Steps p.tables e below (s₁.setTop (entryFrame m #[(.ref w_DECREMENT_BID)] 1)) t := fun t k => castTop (own_m_DECREMENT_BID_ef m w_DECREMENT_BID) k
  obtain ⟨T1, X1, e1, st1⟩ := getS2 X0 hx hZ hown (host := "") (Or.inl (hw _ (own_m 33 rfl))) Via.refl e0 (U_EXTERNAL_PURCHASE.1.ext O0.2) (g := (mkF m 1 #[rv w_DECREMENT_BID] [(.ref w_DECREMENT_BID)])) rfl (hb hby own_d1_1)
  obtain ⟨T2, X2, e2, st2⟩ := getS2 X1 hx hZ hown (host := "") (Or.inl (hw _ (own_m 34 rfl))) Via.refl e1 (U_EXTERNAL_SALE.1.ext O0.2) (g := (mkF m 8 #[rv w_DECREMENT_BID] [(.ref w_DECREMENT_BID)])) rfl (hb hby own_d1_8)
  obtain ⟨fs, hr, hrun, hended, hW, hsame⟩ := X2.leave (v := some (.int 0)) (fun h => by rw [Bd.returns] at h; cases h)
  refine ⟨_, _, pre0 _ ?_, hrun, hended, _, _, rfl, ?_, ⟨_, rfl⟩, hW, hsame.mono (by decide) (by decide)⟩
  · show Steps p.tables e below (s₁.setTop (mkF m 0 #[rv w_DECREMENT_BID] [])) _
    refine XS.aloadN X0.here hx rfl (hb hby own_d1_0) rfl rfl ?_
    show Steps p.tables e below (s₁.setTop (mkF m 1 #[rv w_DECREMENT_BID] [(.ref w_DECREMENT_BID)])) _
    refine st1 _ ?_
    show Steps p.tables e below (T1.setTop (mkF m 4 #[rv w_DECREMENT_BID] [(.ref w_EXTERNAL_PURCHASE), (.ref w_DECREMENT_BID)])) _
    refine Jvm.RoadKit.acmp (g := (mkF m 4 #[rv w_DECREMENT_BID] [(.ref w_EXTERNAL_PURCHASE), (.ref w_DECREMENT_BID)])) X1 hx rfl rfl rfl (pc0 := 4) (pc' := 7) (same := false) rfl (hb hby own_d1_4) rfl (decide_eq_false fun q => (Fld.ne U_DECREMENT_BID.2.2 U_EXTERNAL_PURCHASE.2.2 (by decide)) (Value.ref.inj q)) (by decide) (by decide) ?_
    show Steps p.tables e below (T1.setTop (mkF m 7 #[rv w_DECREMENT_BID] [])) _
    refine XS.aloadN X1.here hx rfl (hb hby own_d1_7) rfl rfl ?_
    show Steps p.tables e below (T1.setTop (mkF m 8 #[rv w_DECREMENT_BID] [(.ref w_DECREMENT_BID)])) _
    refine st2 _ ?_
    show Steps p.tables e below (T2.setTop (mkF m 11 #[rv w_DECREMENT_BID] [(.ref w_EXTERNAL_SALE), (.ref w_DECREMENT_BID)])) _
    refine Jvm.RoadKit.acmp (g := (mkF m 11 #[rv w_DECREMENT_BID] [(.ref w_EXTERNAL_SALE), (.ref w_DECREMENT_BID)])) X2 hx rfl rfl rfl (pc0 := 11) (pc' := 18) (same := false) rfl (hb hby own_d1_11) rfl (decide_eq_false fun q => (Fld.ne U_DECREMENT_BID.2.2 U_EXTERNAL_SALE.2.2 (by decide)) (Value.ref.inj q)) (by decide) (by decide) ?_
    show Steps p.tables e below (T2.setTop (mkF m 18 #[rv w_DECREMENT_BID] [])) _
    refine XS.iconst X2.here hx rfl (hb hby own_d1_18) ?_
    show Steps p.tables e below (T2.setTop (mkF m 19 #[rv w_DECREMENT_BID] [(.int 0)])) _
    exact retN X2 hx (t := .boolean) Bd.returns (by simp) (hb hby own_d1_19) hr
  · show own_m_DECREMENT_BID_Q Z w_DEMAND_BID w_DECREMENT_BID w_METERED_LOAD w_EXTERNAL_SALE w_IBT_LOAD w_SUPPLY_OFFER w_INCREMENT_OFFER w_METERED_GENERATION w_EXTERNAL_PURCHASE w_IBT_MARKET w_IBT_MARKET_EXCL w_WITHDRAWAL w_INJECTION w_EITHER h0 n0 _ T2.heap _
    rw [e2]
    exact ⟨rfl, N0, rfl⟩
theorem own_m_METERED_LOAD_ef (m : MethodId) (w_METERED_LOAD : Addr) : entryFrame m #[(.ref w_METERED_LOAD)] 1 = mkF m 0 #[rv w_METERED_LOAD] [] := by first | (simp [entryFrame, mkF, argsToLocals, Value.category]; done) | rfl
def own_m_METERED_LOAD_Q (Z : State) (w_DEMAND_BID : Addr) (w_DECREMENT_BID : Addr) (w_METERED_LOAD : Addr) (w_EXTERNAL_SALE : Addr) (w_IBT_LOAD : Addr) (w_SUPPLY_OFFER : Addr) (w_INCREMENT_OFFER : Addr) (w_METERED_GENERATION : Addr) (w_EXTERNAL_PURCHASE : Addr) (w_IBT_MARKET : Addr) (w_IBT_MARKET_EXCL : Addr) (w_WITHDRAWAL : Addr) (w_INJECTION : Addr) (w_EITHER : Addr) (h0 : Heap) (n0 : Nat) (v : Option Value) (h : Heap) (L : List Loc) : Prop := v = some (.int 0) ∧ Fr n0 L ∧ h = h0
set_option maxRecDepth 65536 in
set_option maxHeartbeats 40000000 in
theorem own_m_METERED_LOAD (l : Launch) (Z : State) (a0 : Array Value) (hw : ∀ d ∈ tables_1, d.before a0 Z = true) (ws : List Jvm.Cond) (w_DEMAND_BID : Addr) (w_DECREMENT_BID : Addr) (w_METERED_LOAD : Addr) (w_EXTERNAL_SALE : Addr) (w_IBT_LOAD : Addr) (w_SUPPLY_OFFER : Addr) (w_INCREMENT_OFFER : Addr) (w_METERED_GENERATION : Addr) (w_EXTERNAL_PURCHASE : Addr) (w_IBT_MARKET : Addr) (w_IBT_MARKET_EXCL : Addr) (w_WITHDRAWAL : Addr) (w_INJECTION : Addr) (w_EITHER : Addr) (h0 : Heap) (n0 : Nat) (O0 : Old Z n0 h0) (U_DEMAND_BID : own_En Z Z.heap "com/example/holdfast/holdfast/PositionKind" "DEMAND_BID" "Lcom/example/holdfast/holdfast/PositionKind;" w_DEMAND_BID (0 : Int32)) (U_DECREMENT_BID : own_En Z Z.heap "com/example/holdfast/holdfast/PositionKind" "DECREMENT_BID" "Lcom/example/holdfast/holdfast/PositionKind;" w_DECREMENT_BID (1 : Int32)) (U_METERED_LOAD : own_En Z Z.heap "com/example/holdfast/holdfast/PositionKind" "METERED_LOAD" "Lcom/example/holdfast/holdfast/PositionKind;" w_METERED_LOAD (2 : Int32)) (U_EXTERNAL_SALE : own_En Z Z.heap "com/example/holdfast/holdfast/PositionKind" "EXTERNAL_SALE" "Lcom/example/holdfast/holdfast/PositionKind;" w_EXTERNAL_SALE (3 : Int32)) (U_IBT_LOAD : own_En Z Z.heap "com/example/holdfast/holdfast/PositionKind" "IBT_LOAD" "Lcom/example/holdfast/holdfast/PositionKind;" w_IBT_LOAD (4 : Int32)) (U_SUPPLY_OFFER : own_En Z Z.heap "com/example/holdfast/holdfast/PositionKind" "SUPPLY_OFFER" "Lcom/example/holdfast/holdfast/PositionKind;" w_SUPPLY_OFFER (5 : Int32)) (U_INCREMENT_OFFER : own_En Z Z.heap "com/example/holdfast/holdfast/PositionKind" "INCREMENT_OFFER" "Lcom/example/holdfast/holdfast/PositionKind;" w_INCREMENT_OFFER (6 : Int32)) (U_METERED_GENERATION : own_En Z Z.heap "com/example/holdfast/holdfast/PositionKind" "METERED_GENERATION" "Lcom/example/holdfast/holdfast/PositionKind;" w_METERED_GENERATION (7 : Int32)) (U_EXTERNAL_PURCHASE : own_En Z Z.heap "com/example/holdfast/holdfast/PositionKind" "EXTERNAL_PURCHASE" "Lcom/example/holdfast/holdfast/PositionKind;" w_EXTERNAL_PURCHASE (8 : Int32)) (U_IBT_MARKET : own_En Z Z.heap "com/example/holdfast/holdfast/PositionKind" "IBT_MARKET" "Lcom/example/holdfast/holdfast/PositionKind;" w_IBT_MARKET (9 : Int32)) (U_IBT_MARKET_EXCL : own_En Z Z.heap "com/example/holdfast/holdfast/PositionKind" "IBT_MARKET_EXCL" "Lcom/example/holdfast/holdfast/PositionKind;" w_IBT_MARKET_EXCL (10 : Int32)) (U_WITHDRAWAL : own_En Z Z.heap "com/example/holdfast/holdfast/PositionKind$Sign" "WITHDRAWAL" "Lcom/example/holdfast/holdfast/PositionKind$Sign;" w_WITHDRAWAL (0 : Int32)) (U_INJECTION : own_En Z Z.heap "com/example/holdfast/holdfast/PositionKind$Sign" "INJECTION" "Lcom/example/holdfast/holdfast/PositionKind$Sign;" w_INJECTION (1 : Int32)) (U_EITHER : own_En Z Z.heap "com/example/holdfast/holdfast/PositionKind$Sign" "EITHER" "Lcom/example/holdfast/holdfast/PositionKind$Sign;" w_EITHER (2 : Int32)) (G_EXTERNAL_SALE : Fld Z Z.heap w_EXTERNAL_SALE "com/example/holdfast/holdfast/PositionKind" "sign" "Lcom/example/holdfast/holdfast/PositionKind$Sign;" (.ref w_WITHDRAWAL)) (G_EXTERNAL_PURCHASE : Fld Z Z.heap w_EXTERNAL_PURCHASE "com/example/holdfast/holdfast/PositionKind" "sign" "Lcom/example/holdfast/holdfast/PositionKind$Sign;" (.ref w_INJECTION)) :
    MetFree l (⟨"com/example/holdfast/holdfast/PositionKind", "crossesBorder", "()Z"⟩ : MethodName) (head1 (Jvm.Cond.code (⟨"com/example/holdfast/holdfast/PositionKind", "crossesBorder", "()Z"⟩ : MethodName) prog_23_method_7_code 1 (some .boolean) :: ws) ({ frames := 0, cells := 0, slots := 0, locals := 0 } : Room)) (fun ar U => ar = #[(.ref w_METERED_LOAD)] ∧ Z.Warmed39 U.vm ∧ U.heap = h0) (fun _ _ _ _ _ => True) (fun _ U oc U' => ∃ v L, oc = .returned v ∧ own_m_METERED_LOAD_Q Z w_DEMAND_BID w_DECREMENT_BID w_METERED_LOAD w_EXTERNAL_SALE w_IBT_LOAD w_SUPPLY_OFFER w_INCREMENT_OFFER w_METERED_GENERATION w_EXTERNAL_PURCHASE w_IBT_MARKET w_IBT_MARKET_EXCL w_WITHDRAWAL w_INJECTION w_EITHER h0 n0 v U'.heap L ∧ FrameEnd U oc U' L ({ frames := 0, cells := 0, slots := 0, locals := 0 } : Room).cells ({ frames := 0, cells := 0, slots := 0, locals := 0 } : Room).slots) := by
  refine MetFree.of_bodySF (plainFor_of_name own_pn0) hisR ?_
  intro p e s m args below meth c s₁ Bd hml0 hP hK
  obtain ⟨rfl, hZ, hh⟩ := hP
  have hx := Bd.exec
  have hby := Bd.bytes
  have hml : c.maxLocals = 1 := hml0
  have hown : s.vm.findClass "com/example/holdfast/holdfast/PositionKind" = some m.cls := findClass_of_methodNamed Bd.named
  have hnm := (name_of_methodNamed Bd.named Bd.method).1
  have X0 : Stand p l e ({ frames := 0, cells := 0, slots := 0, locals := 0 } : Room) s m #[(.ref w_METERED_LOAD)] below meth c s₁ [] 0 0 := Stand.of_body Bd
  have e0 : s₁.heap = h0 := by rw [← hh, Bd.state]; rfl
  have N0 := Fr.nil n0
  have pre0 : ∀ t, Steps p.tables e below (s₁.setTop (mkF m 0 #[rv w_METERED_LOAD] [])) t → Steps p.tables e below (s₁.setTop (entryFrame m #[(.ref w_METERED_LOAD)] 1)) t := fun t k => castTop (own_m_METERED_LOAD_ef m w_METERED_LOAD) k
  obtain ⟨T1, X1, e1, st1⟩ := getS2 X0 hx hZ hown (host := "") (Or.inl (hw _ (own_m 33 rfl))) Via.refl e0 (U_EXTERNAL_PURCHASE.1.ext O0.2) (g := (mkF m 1 #[rv w_METERED_LOAD] [(.ref w_METERED_LOAD)])) rfl (hb hby own_d1_1)
  obtain ⟨T2, X2, e2, st2⟩ := getS2 X1 hx hZ hown (host := "") (Or.inl (hw _ (own_m 34 rfl))) Via.refl e1 (U_EXTERNAL_SALE.1.ext O0.2) (g := (mkF m 8 #[rv w_METERED_LOAD] [(.ref w_METERED_LOAD)])) rfl (hb hby own_d1_8)
  obtain ⟨fs, hr, hrun, hended, hW, hsame⟩ := X2.leave (v := some (.int 0)) (fun h => by rw [Bd.returns] at h; cases h)
  refine ⟨_, _, pre0 _ ?_, hrun, hended, _, _, rfl, ?_, ⟨_, rfl⟩, hW, hsame.mono (by decide) (by decide)⟩
  · show Steps p.tables e below (s₁.setTop (mkF m 0 #[rv w_METERED_LOAD] [])) _
    refine XS.aloadN X0.here hx rfl (hb hby own_d1_0) rfl rfl ?_
    show Steps p.tables e below (s₁.setTop (mkF m 1 #[rv w_METERED_LOAD] [(.ref w_METERED_LOAD)])) _
    refine st1 _ ?_
    show Steps p.tables e below (T1.setTop (mkF m 4 #[rv w_METERED_LOAD] [(.ref w_EXTERNAL_PURCHASE), (.ref w_METERED_LOAD)])) _
    refine Jvm.RoadKit.acmp (g := (mkF m 4 #[rv w_METERED_LOAD] [(.ref w_EXTERNAL_PURCHASE), (.ref w_METERED_LOAD)])) X1 hx rfl rfl rfl (pc0 := 4) (pc' := 7) (same := false) rfl (hb hby own_d1_4) rfl (decide_eq_false fun q => (Fld.ne U_METERED_LOAD.2.2 U_EXTERNAL_PURCHASE.2.2 (by decide)) (Value.ref.inj q)) (by decide) (by decide) ?_
    show Steps p.tables e below (T1.setTop (mkF m 7 #[rv w_METERED_LOAD] [])) _
    refine XS.aloadN X1.here hx rfl (hb hby own_d1_7) rfl rfl ?_
    show Steps p.tables e below (T1.setTop (mkF m 8 #[rv w_METERED_LOAD] [(.ref w_METERED_LOAD)])) _
    refine st2 _ ?_
    show Steps p.tables e below (T2.setTop (mkF m 11 #[rv w_METERED_LOAD] [(.ref w_EXTERNAL_SALE), (.ref w_METERED_LOAD)])) _
    refine Jvm.RoadKit.acmp (g := (mkF m 11 #[rv w_METERED_LOAD] [(.ref w_EXTERNAL_SALE), (.ref w_METERED_LOAD)])) X2 hx rfl rfl rfl (pc0 := 11) (pc' := 18) (same := false) rfl (hb hby own_d1_11) rfl (decide_eq_false fun q => (Fld.ne U_METERED_LOAD.2.2 U_EXTERNAL_SALE.2.2 (by decide)) (Value.ref.inj q)) (by decide) (by decide) ?_
    show Steps p.tables e below (T2.setTop (mkF m 18 #[rv w_METERED_LOAD] [])) _
    refine XS.iconst X2.here hx rfl (hb hby own_d1_18) ?_
    show Steps p.tables e below (T2.setTop (mkF m 19 #[rv w_METERED_LOAD] [(.int 0)])) _
    exact retN X2 hx (t := .boolean) Bd.returns (by simp) (hb hby own_d1_19) hr
  · show own_m_METERED_LOAD_Q Z w_DEMAND_BID w_DECREMENT_BID w_METERED_LOAD w_EXTERNAL_SALE w_IBT_LOAD w_SUPPLY_OFFER w_INCREMENT_OFFER w_METERED_GENERATION w_EXTERNAL_PURCHASE w_IBT_MARKET w_IBT_MARKET_EXCL w_WITHDRAWAL w_INJECTION w_EITHER h0 n0 _ T2.heap _
    rw [e2]
    exact ⟨rfl, N0, rfl⟩
theorem own_m_EXTERNAL_SALE_ef (m : MethodId) (w_EXTERNAL_SALE : Addr) : entryFrame m #[(.ref w_EXTERNAL_SALE)] 1 = mkF m 0 #[rv w_EXTERNAL_SALE] [] := by first | (simp [entryFrame, mkF, argsToLocals, Value.category]; done) | rfl
def own_m_EXTERNAL_SALE_Q (Z : State) (w_DEMAND_BID : Addr) (w_DECREMENT_BID : Addr) (w_METERED_LOAD : Addr) (w_EXTERNAL_SALE : Addr) (w_IBT_LOAD : Addr) (w_SUPPLY_OFFER : Addr) (w_INCREMENT_OFFER : Addr) (w_METERED_GENERATION : Addr) (w_EXTERNAL_PURCHASE : Addr) (w_IBT_MARKET : Addr) (w_IBT_MARKET_EXCL : Addr) (w_WITHDRAWAL : Addr) (w_INJECTION : Addr) (w_EITHER : Addr) (h0 : Heap) (n0 : Nat) (v : Option Value) (h : Heap) (L : List Loc) : Prop := v = some (.int 1) ∧ Fr n0 L ∧ h = h0
set_option maxRecDepth 65536 in
set_option maxHeartbeats 40000000 in
theorem own_m_EXTERNAL_SALE (l : Launch) (Z : State) (a0 : Array Value) (hw : ∀ d ∈ tables_1, d.before a0 Z = true) (ws : List Jvm.Cond) (w_DEMAND_BID : Addr) (w_DECREMENT_BID : Addr) (w_METERED_LOAD : Addr) (w_EXTERNAL_SALE : Addr) (w_IBT_LOAD : Addr) (w_SUPPLY_OFFER : Addr) (w_INCREMENT_OFFER : Addr) (w_METERED_GENERATION : Addr) (w_EXTERNAL_PURCHASE : Addr) (w_IBT_MARKET : Addr) (w_IBT_MARKET_EXCL : Addr) (w_WITHDRAWAL : Addr) (w_INJECTION : Addr) (w_EITHER : Addr) (h0 : Heap) (n0 : Nat) (O0 : Old Z n0 h0) (U_DEMAND_BID : own_En Z Z.heap "com/example/holdfast/holdfast/PositionKind" "DEMAND_BID" "Lcom/example/holdfast/holdfast/PositionKind;" w_DEMAND_BID (0 : Int32)) (U_DECREMENT_BID : own_En Z Z.heap "com/example/holdfast/holdfast/PositionKind" "DECREMENT_BID" "Lcom/example/holdfast/holdfast/PositionKind;" w_DECREMENT_BID (1 : Int32)) (U_METERED_LOAD : own_En Z Z.heap "com/example/holdfast/holdfast/PositionKind" "METERED_LOAD" "Lcom/example/holdfast/holdfast/PositionKind;" w_METERED_LOAD (2 : Int32)) (U_EXTERNAL_SALE : own_En Z Z.heap "com/example/holdfast/holdfast/PositionKind" "EXTERNAL_SALE" "Lcom/example/holdfast/holdfast/PositionKind;" w_EXTERNAL_SALE (3 : Int32)) (U_IBT_LOAD : own_En Z Z.heap "com/example/holdfast/holdfast/PositionKind" "IBT_LOAD" "Lcom/example/holdfast/holdfast/PositionKind;" w_IBT_LOAD (4 : Int32)) (U_SUPPLY_OFFER : own_En Z Z.heap "com/example/holdfast/holdfast/PositionKind" "SUPPLY_OFFER" "Lcom/example/holdfast/holdfast/PositionKind;" w_SUPPLY_OFFER (5 : Int32)) (U_INCREMENT_OFFER : own_En Z Z.heap "com/example/holdfast/holdfast/PositionKind" "INCREMENT_OFFER" "Lcom/example/holdfast/holdfast/PositionKind;" w_INCREMENT_OFFER (6 : Int32)) (U_METERED_GENERATION : own_En Z Z.heap "com/example/holdfast/holdfast/PositionKind" "METERED_GENERATION" "Lcom/example/holdfast/holdfast/PositionKind;" w_METERED_GENERATION (7 : Int32)) (U_EXTERNAL_PURCHASE : own_En Z Z.heap "com/example/holdfast/holdfast/PositionKind" "EXTERNAL_PURCHASE" "Lcom/example/holdfast/holdfast/PositionKind;" w_EXTERNAL_PURCHASE (8 : Int32)) (U_IBT_MARKET : own_En Z Z.heap "com/example/holdfast/holdfast/PositionKind" "IBT_MARKET" "Lcom/example/holdfast/holdfast/PositionKind;" w_IBT_MARKET (9 : Int32)) (U_IBT_MARKET_EXCL : own_En Z Z.heap "com/example/holdfast/holdfast/PositionKind" "IBT_MARKET_EXCL" "Lcom/example/holdfast/holdfast/PositionKind;" w_IBT_MARKET_EXCL (10 : Int32)) (U_WITHDRAWAL : own_En Z Z.heap "com/example/holdfast/holdfast/PositionKind$Sign" "WITHDRAWAL" "Lcom/example/holdfast/holdfast/PositionKind$Sign;" w_WITHDRAWAL (0 : Int32)) (U_INJECTION : own_En Z Z.heap "com/example/holdfast/holdfast/PositionKind$Sign" "INJECTION" "Lcom/example/holdfast/holdfast/PositionKind$Sign;" w_INJECTION (1 : Int32)) (U_EITHER : own_En Z Z.heap "com/example/holdfast/holdfast/PositionKind$Sign" "EITHER" "Lcom/example/holdfast/holdfast/PositionKind$Sign;" w_EITHER (2 : Int32)) (G_EXTERNAL_SALE : Fld Z Z.heap w_EXTERNAL_SALE "com/example/holdfast/holdfast/PositionKind" "sign" "Lcom/example/holdfast/holdfast/PositionKind$Sign;" (.ref w_WITHDRAWAL)) (G_EXTERNAL_PURCHASE : Fld Z Z.heap w_EXTERNAL_PURCHASE "com/example/holdfast/holdfast/PositionKind" "sign" "Lcom/example/holdfast/holdfast/PositionKind$Sign;" (.ref w_INJECTION)) :
    MetFree l (⟨"com/example/holdfast/holdfast/PositionKind", "crossesBorder", "()Z"⟩ : MethodName) (head1 (Jvm.Cond.code (⟨"com/example/holdfast/holdfast/PositionKind", "crossesBorder", "()Z"⟩ : MethodName) prog_23_method_7_code 1 (some .boolean) :: ws) ({ frames := 0, cells := 0, slots := 0, locals := 0 } : Room)) (fun ar U => ar = #[(.ref w_EXTERNAL_SALE)] ∧ Z.Warmed39 U.vm ∧ U.heap = h0) (fun _ _ _ _ _ => True) (fun _ U oc U' => ∃ v L, oc = .returned v ∧ own_m_EXTERNAL_SALE_Q Z w_DEMAND_BID w_DECREMENT_BID w_METERED_LOAD w_EXTERNAL_SALE w_IBT_LOAD w_SUPPLY_OFFER w_INCREMENT_OFFER w_METERED_GENERATION w_EXTERNAL_PURCHASE w_IBT_MARKET w_IBT_MARKET_EXCL w_WITHDRAWAL w_INJECTION w_EITHER h0 n0 v U'.heap L ∧ FrameEnd U oc U' L ({ frames := 0, cells := 0, slots := 0, locals := 0 } : Room).cells ({ frames := 0, cells := 0, slots := 0, locals := 0 } : Room).slots) := by
  refine MetFree.of_bodySF (plainFor_of_name own_pn0) hisR ?_
  intro p e s m args below meth c s₁ Bd hml0 hP hK
  obtain ⟨rfl, hZ, hh⟩ := hP
  have hx := Bd.exec
  have hby := Bd.bytes
  have hml : c.maxLocals = 1 := hml0
  have hown : s.vm.findClass "com/example/holdfast/holdfast/PositionKind" = some m.cls := findClass_of_methodNamed Bd.named
  have hnm := (name_of_methodNamed Bd.named Bd.method).1
  have X0 : Stand p l e ({ frames := 0, cells := 0, slots := 0, locals := 0 } : Room) s m #[(.ref w_EXTERNAL_SALE)] below meth c s₁ [] 0 0 := Stand.of_body Bd
  have e0 : s₁.heap = h0 := by rw [← hh, Bd.state]; rfl
  have N0 := Fr.nil n0
  have pre0 : ∀ t, Steps p.tables e below (s₁.setTop (mkF m 0 #[rv w_EXTERNAL_SALE] [])) t → Steps p.tables e below (s₁.setTop (entryFrame m #[(.ref w_EXTERNAL_SALE)] 1)) t := fun t k => castTop (own_m_EXTERNAL_SALE_ef m w_EXTERNAL_SALE) k
  obtain ⟨T1, X1, e1, st1⟩ := getS2 X0 hx hZ hown (host := "") (Or.inl (hw _ (own_m 33 rfl))) Via.refl e0 (U_EXTERNAL_PURCHASE.1.ext O0.2) (g := (mkF m 1 #[rv w_EXTERNAL_SALE] [(.ref w_EXTERNAL_SALE)])) rfl (hb hby own_d1_1)
  obtain ⟨T2, X2, e2, st2⟩ := getS2 X1 hx hZ hown (host := "") (Or.inl (hw _ (own_m 34 rfl))) Via.refl e1 (U_EXTERNAL_SALE.1.ext O0.2) (g := (mkF m 8 #[rv w_EXTERNAL_SALE] [(.ref w_EXTERNAL_SALE)])) rfl (hb hby own_d1_8)
  obtain ⟨fs, hr, hrun, hended, hW, hsame⟩ := X2.leave (v := some (.int 1)) (fun h => by rw [Bd.returns] at h; cases h)
  refine ⟨_, _, pre0 _ ?_, hrun, hended, _, _, rfl, ?_, ⟨_, rfl⟩, hW, hsame.mono (by decide) (by decide)⟩
  · show Steps p.tables e below (s₁.setTop (mkF m 0 #[rv w_EXTERNAL_SALE] [])) _
    refine XS.aloadN X0.here hx rfl (hb hby own_d1_0) rfl rfl ?_
    show Steps p.tables e below (s₁.setTop (mkF m 1 #[rv w_EXTERNAL_SALE] [(.ref w_EXTERNAL_SALE)])) _
    refine st1 _ ?_
    show Steps p.tables e below (T1.setTop (mkF m 4 #[rv w_EXTERNAL_SALE] [(.ref w_EXTERNAL_PURCHASE), (.ref w_EXTERNAL_SALE)])) _
    refine Jvm.RoadKit.acmp (g := (mkF m 4 #[rv w_EXTERNAL_SALE] [(.ref w_EXTERNAL_PURCHASE), (.ref w_EXTERNAL_SALE)])) X1 hx rfl rfl rfl (pc0 := 4) (pc' := 7) (same := false) rfl (hb hby own_d1_4) rfl (decide_eq_false fun q => (Fld.ne U_EXTERNAL_SALE.2.2 U_EXTERNAL_PURCHASE.2.2 (by decide)) (Value.ref.inj q)) (by decide) (by decide) ?_
    show Steps p.tables e below (T1.setTop (mkF m 7 #[rv w_EXTERNAL_SALE] [])) _
    refine XS.aloadN X1.here hx rfl (hb hby own_d1_7) rfl rfl ?_
    show Steps p.tables e below (T1.setTop (mkF m 8 #[rv w_EXTERNAL_SALE] [(.ref w_EXTERNAL_SALE)])) _
    refine st2 _ ?_
    show Steps p.tables e below (T2.setTop (mkF m 11 #[rv w_EXTERNAL_SALE] [(.ref w_EXTERNAL_SALE), (.ref w_EXTERNAL_SALE)])) _
    refine Jvm.RoadKit.acmp (g := (mkF m 11 #[rv w_EXTERNAL_SALE] [(.ref w_EXTERNAL_SALE), (.ref w_EXTERNAL_SALE)])) X2 hx rfl rfl rfl (pc0 := 11) (pc' := 14) (same := true) rfl (hb hby own_d1_11) rfl (decide_eq_true rfl) (by decide) (by decide) ?_
    show Steps p.tables e below (T2.setTop (mkF m 14 #[rv w_EXTERNAL_SALE] [])) _
    refine XS.iconst X2.here hx rfl (hb hby own_d1_14) ?_
    show Steps p.tables e below (T2.setTop (mkF m 15 #[rv w_EXTERNAL_SALE] [(.int 1)])) _
    refine XS.goto X2.here hx rfl (pc0 := 15) (pc' := 19) rfl (hb hby own_d1_15) (by decide) (by decide) ?_
    show Steps p.tables e below (T2.setTop (mkF m 19 #[rv w_EXTERNAL_SALE] [(.int 1)])) _
    exact retN X2 hx (t := .boolean) Bd.returns (by simp) (hb hby own_d1_19) hr
  · show own_m_EXTERNAL_SALE_Q Z w_DEMAND_BID w_DECREMENT_BID w_METERED_LOAD w_EXTERNAL_SALE w_IBT_LOAD w_SUPPLY_OFFER w_INCREMENT_OFFER w_METERED_GENERATION w_EXTERNAL_PURCHASE w_IBT_MARKET w_IBT_MARKET_EXCL w_WITHDRAWAL w_INJECTION w_EITHER h0 n0 _ T2.heap _
    rw [e2]
    exact ⟨rfl, N0, rfl⟩
theorem own_m_IBT_LOAD_ef (m : MethodId) (w_IBT_LOAD : Addr) : entryFrame m #[(.ref w_IBT_LOAD)] 1 = mkF m 0 #[rv w_IBT_LOAD] [] := by first | (simp [entryFrame, mkF, argsToLocals, Value.category]; done) | rfl
def own_m_IBT_LOAD_Q (Z : State) (w_DEMAND_BID : Addr) (w_DECREMENT_BID : Addr) (w_METERED_LOAD : Addr) (w_EXTERNAL_SALE : Addr) (w_IBT_LOAD : Addr) (w_SUPPLY_OFFER : Addr) (w_INCREMENT_OFFER : Addr) (w_METERED_GENERATION : Addr) (w_EXTERNAL_PURCHASE : Addr) (w_IBT_MARKET : Addr) (w_IBT_MARKET_EXCL : Addr) (w_WITHDRAWAL : Addr) (w_INJECTION : Addr) (w_EITHER : Addr) (h0 : Heap) (n0 : Nat) (v : Option Value) (h : Heap) (L : List Loc) : Prop := v = some (.int 0) ∧ Fr n0 L ∧ h = h0
set_option maxRecDepth 65536 in
set_option maxHeartbeats 40000000 in
theorem own_m_IBT_LOAD (l : Launch) (Z : State) (a0 : Array Value) (hw : ∀ d ∈ tables_1, d.before a0 Z = true) (ws : List Jvm.Cond) (w_DEMAND_BID : Addr) (w_DECREMENT_BID : Addr) (w_METERED_LOAD : Addr) (w_EXTERNAL_SALE : Addr) (w_IBT_LOAD : Addr) (w_SUPPLY_OFFER : Addr) (w_INCREMENT_OFFER : Addr) (w_METERED_GENERATION : Addr) (w_EXTERNAL_PURCHASE : Addr) (w_IBT_MARKET : Addr) (w_IBT_MARKET_EXCL : Addr) (w_WITHDRAWAL : Addr) (w_INJECTION : Addr) (w_EITHER : Addr) (h0 : Heap) (n0 : Nat) (O0 : Old Z n0 h0) (U_DEMAND_BID : own_En Z Z.heap "com/example/holdfast/holdfast/PositionKind" "DEMAND_BID" "Lcom/example/holdfast/holdfast/PositionKind;" w_DEMAND_BID (0 : Int32)) (U_DECREMENT_BID : own_En Z Z.heap "com/example/holdfast/holdfast/PositionKind" "DECREMENT_BID" "Lcom/example/holdfast/holdfast/PositionKind;" w_DECREMENT_BID (1 : Int32)) (U_METERED_LOAD : own_En Z Z.heap "com/example/holdfast/holdfast/PositionKind" "METERED_LOAD" "Lcom/example/holdfast/holdfast/PositionKind;" w_METERED_LOAD (2 : Int32)) (U_EXTERNAL_SALE : own_En Z Z.heap "com/example/holdfast/holdfast/PositionKind" "EXTERNAL_SALE" "Lcom/example/holdfast/holdfast/PositionKind;" w_EXTERNAL_SALE (3 : Int32)) (U_IBT_LOAD : own_En Z Z.heap "com/example/holdfast/holdfast/PositionKind" "IBT_LOAD" "Lcom/example/holdfast/holdfast/PositionKind;" w_IBT_LOAD (4 : Int32)) (U_SUPPLY_OFFER : own_En Z Z.heap "com/example/holdfast/holdfast/PositionKind" "SUPPLY_OFFER" "Lcom/example/holdfast/holdfast/PositionKind;" w_SUPPLY_OFFER (5 : Int32)) (U_INCREMENT_OFFER : own_En Z Z.heap "com/example/holdfast/holdfast/PositionKind" "INCREMENT_OFFER" "Lcom/example/holdfast/holdfast/PositionKind;" w_INCREMENT_OFFER (6 : Int32)) (U_METERED_GENERATION : own_En Z Z.heap "com/example/holdfast/holdfast/PositionKind" "METERED_GENERATION" "Lcom/example/holdfast/holdfast/PositionKind;" w_METERED_GENERATION (7 : Int32)) (U_EXTERNAL_PURCHASE : own_En Z Z.heap "com/example/holdfast/holdfast/PositionKind" "EXTERNAL_PURCHASE" "Lcom/example/holdfast/holdfast/PositionKind;" w_EXTERNAL_PURCHASE (8 : Int32)) (U_IBT_MARKET : own_En Z Z.heap "com/example/holdfast/holdfast/PositionKind" "IBT_MARKET" "Lcom/example/holdfast/holdfast/PositionKind;" w_IBT_MARKET (9 : Int32)) (U_IBT_MARKET_EXCL : own_En Z Z.heap "com/example/holdfast/holdfast/PositionKind" "IBT_MARKET_EXCL" "Lcom/example/holdfast/holdfast/PositionKind;" w_IBT_MARKET_EXCL (10 : Int32)) (U_WITHDRAWAL : own_En Z Z.heap "com/example/holdfast/holdfast/PositionKind$Sign" "WITHDRAWAL" "Lcom/example/holdfast/holdfast/PositionKind$Sign;" w_WITHDRAWAL (0 : Int32)) (U_INJECTION : own_En Z Z.heap "com/example/holdfast/holdfast/PositionKind$Sign" "INJECTION" "Lcom/example/holdfast/holdfast/PositionKind$Sign;" w_INJECTION (1 : Int32)) (U_EITHER : own_En Z Z.heap "com/example/holdfast/holdfast/PositionKind$Sign" "EITHER" "Lcom/example/holdfast/holdfast/PositionKind$Sign;" w_EITHER (2 : Int32)) (G_EXTERNAL_SALE : Fld Z Z.heap w_EXTERNAL_SALE "com/example/holdfast/holdfast/PositionKind" "sign" "Lcom/example/holdfast/holdfast/PositionKind$Sign;" (.ref w_WITHDRAWAL)) (G_EXTERNAL_PURCHASE : Fld Z Z.heap w_EXTERNAL_PURCHASE "com/example/holdfast/holdfast/PositionKind" "sign" "Lcom/example/holdfast/holdfast/PositionKind$Sign;" (.ref w_INJECTION)) :
    MetFree l (⟨"com/example/holdfast/holdfast/PositionKind", "crossesBorder", "()Z"⟩ : MethodName) (head1 (Jvm.Cond.code (⟨"com/example/holdfast/holdfast/PositionKind", "crossesBorder", "()Z"⟩ : MethodName) prog_23_method_7_code 1 (some .boolean) :: ws) ({ frames := 0, cells := 0, slots := 0, locals := 0 } : Room)) (fun ar U => ar = #[(.ref w_IBT_LOAD)] ∧ Z.Warmed39 U.vm ∧ U.heap = h0) (fun _ _ _ _ _ => True) (fun _ U oc U' => ∃ v L, oc = .returned v ∧ own_m_IBT_LOAD_Q Z w_DEMAND_BID w_DECREMENT_BID w_METERED_LOAD w_EXTERNAL_SALE w_IBT_LOAD w_SUPPLY_OFFER w_INCREMENT_OFFER w_METERED_GENERATION w_EXTERNAL_PURCHASE w_IBT_MARKET w_IBT_MARKET_EXCL w_WITHDRAWAL w_INJECTION w_EITHER h0 n0 v U'.heap L ∧ FrameEnd U oc U' L ({ frames := 0, cells := 0, slots := 0, locals := 0 } : Room).cells ({ frames := 0, cells := 0, slots := 0, locals := 0 } : Room).slots) := by
  refine MetFree.of_bodySF (plainFor_of_name own_pn0) hisR ?_
  intro p e s m args below meth c s₁ Bd hml0 hP hK
  obtain ⟨rfl, hZ, hh⟩ := hP
  have hx := Bd.exec
  have hby := Bd.bytes
  have hml : c.maxLocals = 1 := hml0
  have hown : s.vm.findClass "com/example/holdfast/holdfast/PositionKind" = some m.cls := findClass_of_methodNamed Bd.named
  have hnm := (name_of_methodNamed Bd.named Bd.method).1
  have X0 : Stand p l e ({ frames := 0, cells := 0, slots := 0, locals := 0 } : Room) s m #[(.ref w_IBT_LOAD)] below meth c s₁ [] 0 0 := Stand.of_body Bd
  have e0 : s₁.heap = h0 := by rw [← hh, Bd.state]; rfl
  have N0 := Fr.nil n0
  have pre0 : ∀ t, Steps p.tables e below (s₁.setTop (mkF m 0 #[rv w_IBT_LOAD] [])) t → Steps p.tables e below (s₁.setTop (entryFrame m #[(.ref w_IBT_LOAD)] 1)) t := fun t k => castTop (own_m_IBT_LOAD_ef m w_IBT_LOAD) k
  obtain ⟨T1, X1, e1, st1⟩ := getS2 X0 hx hZ hown (host := "") (Or.inl (hw _ (own_m 33 rfl))) Via.refl e0 (U_EXTERNAL_PURCHASE.1.ext O0.2) (g := (mkF m 1 #[rv w_IBT_LOAD] [(.ref w_IBT_LOAD)])) rfl (hb hby own_d1_1)
  obtain ⟨T2, X2, e2, st2⟩ := getS2 X1 hx hZ hown (host := "") (Or.inl (hw _ (own_m 34 rfl))) Via.refl e1 (U_EXTERNAL_SALE.1.ext O0.2) (g := (mkF m 8 #[rv w_IBT_LOAD] [(.ref w_IBT_LOAD)])) rfl (hb hby own_d1_8)
  obtain ⟨fs, hr, hrun, hended, hW, hsame⟩ := X2.leave (v := some (.int 0)) (fun h => by rw [Bd.returns] at h; cases h)
  refine ⟨_, _, pre0 _ ?_, hrun, hended, _, _, rfl, ?_, ⟨_, rfl⟩, hW, hsame.mono (by decide) (by decide)⟩
  · show Steps p.tables e below (s₁.setTop (mkF m 0 #[rv w_IBT_LOAD] [])) _
    refine XS.aloadN X0.here hx rfl (hb hby own_d1_0) rfl rfl ?_
    show Steps p.tables e below (s₁.setTop (mkF m 1 #[rv w_IBT_LOAD] [(.ref w_IBT_LOAD)])) _
    refine st1 _ ?_
    show Steps p.tables e below (T1.setTop (mkF m 4 #[rv w_IBT_LOAD] [(.ref w_EXTERNAL_PURCHASE), (.ref w_IBT_LOAD)])) _
    refine Jvm.RoadKit.acmp (g := (mkF m 4 #[rv w_IBT_LOAD] [(.ref w_EXTERNAL_PURCHASE), (.ref w_IBT_LOAD)])) X1 hx rfl rfl rfl (pc0 := 4) (pc' := 7) (same := false) rfl (hb hby own_d1_4) rfl (decide_eq_false fun q => (Fld.ne U_IBT_LOAD.2.2 U_EXTERNAL_PURCHASE.2.2 (by decide)) (Value.ref.inj q)) (by decide) (by decide) ?_
    show Steps p.tables e below (T1.setTop (mkF m 7 #[rv w_IBT_LOAD] [])) _
    refine XS.aloadN X1.here hx rfl (hb hby own_d1_7) rfl rfl ?_
    show Steps p.tables e below (T1.setTop (mkF m 8 #[rv w_IBT_LOAD] [(.ref w_IBT_LOAD)])) _
    refine st2 _ ?_
    show Steps p.tables e below (T2.setTop (mkF m 11 #[rv w_IBT_LOAD] [(.ref w_EXTERNAL_SALE), (.ref w_IBT_LOAD)])) _
    refine Jvm.RoadKit.acmp (g := (mkF m 11 #[rv w_IBT_LOAD] [(.ref w_EXTERNAL_SALE), (.ref w_IBT_LOAD)])) X2 hx rfl rfl rfl (pc0 := 11) (pc' := 18) (same := false) rfl (hb hby own_d1_11) rfl (decide_eq_false fun q => (Ne.symm (Fld.ne U_EXTERNAL_SALE.2.2 U_IBT_LOAD.2.2 (by decide))) (Value.ref.inj q)) (by decide) (by decide) ?_
    show Steps p.tables e below (T2.setTop (mkF m 18 #[rv w_IBT_LOAD] [])) _
    refine XS.iconst X2.here hx rfl (hb hby own_d1_18) ?_
    show Steps p.tables e below (T2.setTop (mkF m 19 #[rv w_IBT_LOAD] [(.int 0)])) _
    exact retN X2 hx (t := .boolean) Bd.returns (by simp) (hb hby own_d1_19) hr
  · show own_m_IBT_LOAD_Q Z w_DEMAND_BID w_DECREMENT_BID w_METERED_LOAD w_EXTERNAL_SALE w_IBT_LOAD w_SUPPLY_OFFER w_INCREMENT_OFFER w_METERED_GENERATION w_EXTERNAL_PURCHASE w_IBT_MARKET w_IBT_MARKET_EXCL w_WITHDRAWAL w_INJECTION w_EITHER h0 n0 _ T2.heap _
    rw [e2]
    exact ⟨rfl, N0, rfl⟩
theorem own_m_SUPPLY_OFFER_ef (m : MethodId) (w_SUPPLY_OFFER : Addr) : entryFrame m #[(.ref w_SUPPLY_OFFER)] 1 = mkF m 0 #[rv w_SUPPLY_OFFER] [] := by first | (simp [entryFrame, mkF, argsToLocals, Value.category]; done) | rfl
def own_m_SUPPLY_OFFER_Q (Z : State) (w_DEMAND_BID : Addr) (w_DECREMENT_BID : Addr) (w_METERED_LOAD : Addr) (w_EXTERNAL_SALE : Addr) (w_IBT_LOAD : Addr) (w_SUPPLY_OFFER : Addr) (w_INCREMENT_OFFER : Addr) (w_METERED_GENERATION : Addr) (w_EXTERNAL_PURCHASE : Addr) (w_IBT_MARKET : Addr) (w_IBT_MARKET_EXCL : Addr) (w_WITHDRAWAL : Addr) (w_INJECTION : Addr) (w_EITHER : Addr) (h0 : Heap) (n0 : Nat) (v : Option Value) (h : Heap) (L : List Loc) : Prop := v = some (.int 0) ∧ Fr n0 L ∧ h = h0
set_option maxRecDepth 65536 in
set_option maxHeartbeats 40000000 in
theorem own_m_SUPPLY_OFFER (l : Launch) (Z : State) (a0 : Array Value) (hw : ∀ d ∈ tables_1, d.before a0 Z = true) (ws : List Jvm.Cond) (w_DEMAND_BID : Addr) (w_DECREMENT_BID : Addr) (w_METERED_LOAD : Addr) (w_EXTERNAL_SALE : Addr) (w_IBT_LOAD : Addr) (w_SUPPLY_OFFER : Addr) (w_INCREMENT_OFFER : Addr) (w_METERED_GENERATION : Addr) (w_EXTERNAL_PURCHASE : Addr) (w_IBT_MARKET : Addr) (w_IBT_MARKET_EXCL : Addr) (w_WITHDRAWAL : Addr) (w_INJECTION : Addr) (w_EITHER : Addr) (h0 : Heap) (n0 : Nat) (O0 : Old Z n0 h0) (U_DEMAND_BID : own_En Z Z.heap "com/example/holdfast/holdfast/PositionKind" "DEMAND_BID" "Lcom/example/holdfast/holdfast/PositionKind;" w_DEMAND_BID (0 : Int32)) (U_DECREMENT_BID : own_En Z Z.heap "com/example/holdfast/holdfast/PositionKind" "DECREMENT_BID" "Lcom/example/holdfast/holdfast/PositionKind;" w_DECREMENT_BID (1 : Int32)) (U_METERED_LOAD : own_En Z Z.heap "com/example/holdfast/holdfast/PositionKind" "METERED_LOAD" "Lcom/example/holdfast/holdfast/PositionKind;" w_METERED_LOAD (2 : Int32)) (U_EXTERNAL_SALE : own_En Z Z.heap "com/example/holdfast/holdfast/PositionKind" "EXTERNAL_SALE" "Lcom/example/holdfast/holdfast/PositionKind;" w_EXTERNAL_SALE (3 : Int32)) (U_IBT_LOAD : own_En Z Z.heap "com/example/holdfast/holdfast/PositionKind" "IBT_LOAD" "Lcom/example/holdfast/holdfast/PositionKind;" w_IBT_LOAD (4 : Int32)) (U_SUPPLY_OFFER : own_En Z Z.heap "com/example/holdfast/holdfast/PositionKind" "SUPPLY_OFFER" "Lcom/example/holdfast/holdfast/PositionKind;" w_SUPPLY_OFFER (5 : Int32)) (U_INCREMENT_OFFER : own_En Z Z.heap "com/example/holdfast/holdfast/PositionKind" "INCREMENT_OFFER" "Lcom/example/holdfast/holdfast/PositionKind;" w_INCREMENT_OFFER (6 : Int32)) (U_METERED_GENERATION : own_En Z Z.heap "com/example/holdfast/holdfast/PositionKind" "METERED_GENERATION" "Lcom/example/holdfast/holdfast/PositionKind;" w_METERED_GENERATION (7 : Int32)) (U_EXTERNAL_PURCHASE : own_En Z Z.heap "com/example/holdfast/holdfast/PositionKind" "EXTERNAL_PURCHASE" "Lcom/example/holdfast/holdfast/PositionKind;" w_EXTERNAL_PURCHASE (8 : Int32)) (U_IBT_MARKET : own_En Z Z.heap "com/example/holdfast/holdfast/PositionKind" "IBT_MARKET" "Lcom/example/holdfast/holdfast/PositionKind;" w_IBT_MARKET (9 : Int32)) (U_IBT_MARKET_EXCL : own_En Z Z.heap "com/example/holdfast/holdfast/PositionKind" "IBT_MARKET_EXCL" "Lcom/example/holdfast/holdfast/PositionKind;" w_IBT_MARKET_EXCL (10 : Int32)) (U_WITHDRAWAL : own_En Z Z.heap "com/example/holdfast/holdfast/PositionKind$Sign" "WITHDRAWAL" "Lcom/example/holdfast/holdfast/PositionKind$Sign;" w_WITHDRAWAL (0 : Int32)) (U_INJECTION : own_En Z Z.heap "com/example/holdfast/holdfast/PositionKind$Sign" "INJECTION" "Lcom/example/holdfast/holdfast/PositionKind$Sign;" w_INJECTION (1 : Int32)) (U_EITHER : own_En Z Z.heap "com/example/holdfast/holdfast/PositionKind$Sign" "EITHER" "Lcom/example/holdfast/holdfast/PositionKind$Sign;" w_EITHER (2 : Int32)) (G_EXTERNAL_SALE : Fld Z Z.heap w_EXTERNAL_SALE "com/example/holdfast/holdfast/PositionKind" "sign" "Lcom/example/holdfast/holdfast/PositionKind$Sign;" (.ref w_WITHDRAWAL)) (G_EXTERNAL_PURCHASE : Fld Z Z.heap w_EXTERNAL_PURCHASE "com/example/holdfast/holdfast/PositionKind" "sign" "Lcom/example/holdfast/holdfast/PositionKind$Sign;" (.ref w_INJECTION)) :
    MetFree l (⟨"com/example/holdfast/holdfast/PositionKind", "crossesBorder", "()Z"⟩ : MethodName) (head1 (Jvm.Cond.code (⟨"com/example/holdfast/holdfast/PositionKind", "crossesBorder", "()Z"⟩ : MethodName) prog_23_method_7_code 1 (some .boolean) :: ws) ({ frames := 0, cells := 0, slots := 0, locals := 0 } : Room)) (fun ar U => ar = #[(.ref w_SUPPLY_OFFER)] ∧ Z.Warmed39 U.vm ∧ U.heap = h0) (fun _ _ _ _ _ => True) (fun _ U oc U' => ∃ v L, oc = .returned v ∧ own_m_SUPPLY_OFFER_Q Z w_DEMAND_BID w_DECREMENT_BID w_METERED_LOAD w_EXTERNAL_SALE w_IBT_LOAD w_SUPPLY_OFFER w_INCREMENT_OFFER w_METERED_GENERATION w_EXTERNAL_PURCHASE w_IBT_MARKET w_IBT_MARKET_EXCL w_WITHDRAWAL w_INJECTION w_EITHER h0 n0 v U'.heap L ∧ FrameEnd U oc U' L ({ frames := 0, cells := 0, slots := 0, locals := 0 } : Room).cells ({ frames := 0, cells := 0, slots := 0, locals := 0 } : Room).slots) := by
  refine MetFree.of_bodySF (plainFor_of_name own_pn0) hisR ?_
  intro p e s m args below meth c s₁ Bd hml0 hP hK
  obtain ⟨rfl, hZ, hh⟩ := hP
  have hx := Bd.exec
  have hby := Bd.bytes
  have hml : c.maxLocals = 1 := hml0
  have hown : s.vm.findClass "com/example/holdfast/holdfast/PositionKind" = some m.cls := findClass_of_methodNamed Bd.named
  have hnm := (name_of_methodNamed Bd.named Bd.method).1
  have X0 : Stand p l e ({ frames := 0, cells := 0, slots := 0, locals := 0 } : Room) s m #[(.ref w_SUPPLY_OFFER)] below meth c s₁ [] 0 0 := Stand.of_body Bd
  have e0 : s₁.heap = h0 := by rw [← hh, Bd.state]; rfl
  have N0 := Fr.nil n0
  have pre0 : ∀ t, Steps p.tables e below (s₁.setTop (mkF m 0 #[rv w_SUPPLY_OFFER] [])) t → Steps p.tables e below (s₁.setTop (entryFrame m #[(.ref w_SUPPLY_OFFER)] 1)) t := fun t k => castTop (own_m_SUPPLY_OFFER_ef m w_SUPPLY_OFFER) k
  obtain ⟨T1, X1, e1, st1⟩ := getS2 X0 hx hZ hown (host := "") (Or.inl (hw _ (own_m 33 rfl))) Via.refl e0 (U_EXTERNAL_PURCHASE.1.ext O0.2) (g := (mkF m 1 #[rv w_SUPPLY_OFFER] [(.ref w_SUPPLY_OFFER)])) rfl (hb hby own_d1_1)
  obtain ⟨T2, X2, e2, st2⟩ := getS2 X1 hx hZ hown (host := "") (Or.inl (hw _ (own_m 34 rfl))) Via.refl e1 (U_EXTERNAL_SALE.1.ext O0.2) (g := (mkF m 8 #[rv w_SUPPLY_OFFER] [(.ref w_SUPPLY_OFFER)])) rfl (hb hby own_d1_8)
  obtain ⟨fs, hr, hrun, hended, hW, hsame⟩ := X2.leave (v := some (.int 0)) (fun h => by rw [Bd.returns] at h; cases h)
  refine ⟨_, _, pre0 _ ?_, hrun, hended, _, _, rfl, ?_, ⟨_, rfl⟩, hW, hsame.mono (by decide) (by decide)⟩
  · show Steps p.tables e below (s₁.setTop (mkF m 0 #[rv w_SUPPLY_OFFER] [])) _
    refine XS.aloadN X0.here hx rfl (hb hby own_d1_0) rfl rfl ?_
    show Steps p.tables e below (s₁.setTop (mkF m 1 #[rv w_SUPPLY_OFFER] [(.ref w_SUPPLY_OFFER)])) _
    refine st1 _ ?_
    show Steps p.tables e below (T1.setTop (mkF m 4 #[rv w_SUPPLY_OFFER] [(.ref w_EXTERNAL_PURCHASE), (.ref w_SUPPLY_OFFER)])) _
    refine Jvm.RoadKit.acmp (g := (mkF m 4 #[rv w_SUPPLY_OFFER] [(.ref w_EXTERNAL_PURCHASE), (.ref w_SUPPLY_OFFER)])) X1 hx rfl rfl rfl (pc0 := 4) (pc' := 7) (same := false) rfl (hb hby own_d1_4) rfl (decide_eq_false fun q => (Fld.ne U_SUPPLY_OFFER.2.2 U_EXTERNAL_PURCHASE.2.2 (by decide)) (Value.ref.inj q)) (by decide) (by decide) ?_
    show Steps p.tables e below (T1.setTop (mkF m 7 #[rv w_SUPPLY_OFFER] [])) _
    refine XS.aloadN X1.here hx rfl (hb hby own_d1_7) rfl rfl ?_
    show Steps p.tables e below (T1.setTop (mkF m 8 #[rv w_SUPPLY_OFFER] [(.ref w_SUPPLY_OFFER)])) _
    refine st2 _ ?_
    show Steps p.tables e below (T2.setTop (mkF m 11 #[rv w_SUPPLY_OFFER] [(.ref w_EXTERNAL_SALE), (.ref w_SUPPLY_OFFER)])) _
    refine Jvm.RoadKit.acmp (g := (mkF m 11 #[rv w_SUPPLY_OFFER] [(.ref w_EXTERNAL_SALE), (.ref w_SUPPLY_OFFER)])) X2 hx rfl rfl rfl (pc0 := 11) (pc' := 18) (same := false) rfl (hb hby own_d1_11) rfl (decide_eq_false fun q => (Ne.symm (Fld.ne U_EXTERNAL_SALE.2.2 U_SUPPLY_OFFER.2.2 (by decide))) (Value.ref.inj q)) (by decide) (by decide) ?_
    show Steps p.tables e below (T2.setTop (mkF m 18 #[rv w_SUPPLY_OFFER] [])) _
    refine XS.iconst X2.here hx rfl (hb hby own_d1_18) ?_
    show Steps p.tables e below (T2.setTop (mkF m 19 #[rv w_SUPPLY_OFFER] [(.int 0)])) _
    exact retN X2 hx (t := .boolean) Bd.returns (by simp) (hb hby own_d1_19) hr
  · show own_m_SUPPLY_OFFER_Q Z w_DEMAND_BID w_DECREMENT_BID w_METERED_LOAD w_EXTERNAL_SALE w_IBT_LOAD w_SUPPLY_OFFER w_INCREMENT_OFFER w_METERED_GENERATION w_EXTERNAL_PURCHASE w_IBT_MARKET w_IBT_MARKET_EXCL w_WITHDRAWAL w_INJECTION w_EITHER h0 n0 _ T2.heap _
    rw [e2]
    exact ⟨rfl, N0, rfl⟩
theorem own_m_INCREMENT_OFFER_ef (m : MethodId) (w_INCREMENT_OFFER : Addr) : entryFrame m #[(.ref w_INCREMENT_OFFER)] 1 = mkF m 0 #[rv w_INCREMENT_OFFER] [] := by first | (simp [entryFrame, mkF, argsToLocals, Value.category]; done) | rfl
def own_m_INCREMENT_OFFER_Q (Z : State) (w_DEMAND_BID : Addr) (w_DECREMENT_BID : Addr) (w_METERED_LOAD : Addr) (w_EXTERNAL_SALE : Addr) (w_IBT_LOAD : Addr) (w_SUPPLY_OFFER : Addr) (w_INCREMENT_OFFER : Addr) (w_METERED_GENERATION : Addr) (w_EXTERNAL_PURCHASE : Addr) (w_IBT_MARKET : Addr) (w_IBT_MARKET_EXCL : Addr) (w_WITHDRAWAL : Addr) (w_INJECTION : Addr) (w_EITHER : Addr) (h0 : Heap) (n0 : Nat) (v : Option Value) (h : Heap) (L : List Loc) : Prop := v = some (.int 0) ∧ Fr n0 L ∧ h = h0
set_option maxRecDepth 65536 in
set_option maxHeartbeats 40000000 in
theorem own_m_INCREMENT_OFFER (l : Launch) (Z : State) (a0 : Array Value) (hw : ∀ d ∈ tables_1, d.before a0 Z = true) (ws : List Jvm.Cond) (w_DEMAND_BID : Addr) (w_DECREMENT_BID : Addr) (w_METERED_LOAD : Addr) (w_EXTERNAL_SALE : Addr) (w_IBT_LOAD : Addr) (w_SUPPLY_OFFER : Addr) (w_INCREMENT_OFFER : Addr) (w_METERED_GENERATION : Addr) (w_EXTERNAL_PURCHASE : Addr) (w_IBT_MARKET : Addr) (w_IBT_MARKET_EXCL : Addr) (w_WITHDRAWAL : Addr) (w_INJECTION : Addr) (w_EITHER : Addr) (h0 : Heap) (n0 : Nat) (O0 : Old Z n0 h0) (U_DEMAND_BID : own_En Z Z.heap "com/example/holdfast/holdfast/PositionKind" "DEMAND_BID" "Lcom/example/holdfast/holdfast/PositionKind;" w_DEMAND_BID (0 : Int32)) (U_DECREMENT_BID : own_En Z Z.heap "com/example/holdfast/holdfast/PositionKind" "DECREMENT_BID" "Lcom/example/holdfast/holdfast/PositionKind;" w_DECREMENT_BID (1 : Int32)) (U_METERED_LOAD : own_En Z Z.heap "com/example/holdfast/holdfast/PositionKind" "METERED_LOAD" "Lcom/example/holdfast/holdfast/PositionKind;" w_METERED_LOAD (2 : Int32)) (U_EXTERNAL_SALE : own_En Z Z.heap "com/example/holdfast/holdfast/PositionKind" "EXTERNAL_SALE" "Lcom/example/holdfast/holdfast/PositionKind;" w_EXTERNAL_SALE (3 : Int32)) (U_IBT_LOAD : own_En Z Z.heap "com/example/holdfast/holdfast/PositionKind" "IBT_LOAD" "Lcom/example/holdfast/holdfast/PositionKind;" w_IBT_LOAD (4 : Int32)) (U_SUPPLY_OFFER : own_En Z Z.heap "com/example/holdfast/holdfast/PositionKind" "SUPPLY_OFFER" "Lcom/example/holdfast/holdfast/PositionKind;" w_SUPPLY_OFFER (5 : Int32)) (U_INCREMENT_OFFER : own_En Z Z.heap "com/example/holdfast/holdfast/PositionKind" "INCREMENT_OFFER" "Lcom/example/holdfast/holdfast/PositionKind;" w_INCREMENT_OFFER (6 : Int32)) (U_METERED_GENERATION : own_En Z Z.heap "com/example/holdfast/holdfast/PositionKind" "METERED_GENERATION" "Lcom/example/holdfast/holdfast/PositionKind;" w_METERED_GENERATION (7 : Int32)) (U_EXTERNAL_PURCHASE : own_En Z Z.heap "com/example/holdfast/holdfast/PositionKind" "EXTERNAL_PURCHASE" "Lcom/example/holdfast/holdfast/PositionKind;" w_EXTERNAL_PURCHASE (8 : Int32)) (U_IBT_MARKET : own_En Z Z.heap "com/example/holdfast/holdfast/PositionKind" "IBT_MARKET" "Lcom/example/holdfast/holdfast/PositionKind;" w_IBT_MARKET (9 : Int32)) (U_IBT_MARKET_EXCL : own_En Z Z.heap "com/example/holdfast/holdfast/PositionKind" "IBT_MARKET_EXCL" "Lcom/example/holdfast/holdfast/PositionKind;" w_IBT_MARKET_EXCL (10 : Int32)) (U_WITHDRAWAL : own_En Z Z.heap "com/example/holdfast/holdfast/PositionKind$Sign" "WITHDRAWAL" "Lcom/example/holdfast/holdfast/PositionKind$Sign;" w_WITHDRAWAL (0 : Int32)) (U_INJECTION : own_En Z Z.heap "com/example/holdfast/holdfast/PositionKind$Sign" "INJECTION" "Lcom/example/holdfast/holdfast/PositionKind$Sign;" w_INJECTION (1 : Int32)) (U_EITHER : own_En Z Z.heap "com/example/holdfast/holdfast/PositionKind$Sign" "EITHER" "Lcom/example/holdfast/holdfast/PositionKind$Sign;" w_EITHER (2 : Int32)) (G_EXTERNAL_SALE : Fld Z Z.heap w_EXTERNAL_SALE "com/example/holdfast/holdfast/PositionKind" "sign" "Lcom/example/holdfast/holdfast/PositionKind$Sign;" (.ref w_WITHDRAWAL)) (G_EXTERNAL_PURCHASE : Fld Z Z.heap w_EXTERNAL_PURCHASE "com/example/holdfast/holdfast/PositionKind" "sign" "Lcom/example/holdfast/holdfast/PositionKind$Sign;" (.ref w_INJECTION)) :
    MetFree l (⟨"com/example/holdfast/holdfast/PositionKind", "crossesBorder", "()Z"⟩ : MethodName) (head1 (Jvm.Cond.code (⟨"com/example/holdfast/holdfast/PositionKind", "crossesBorder", "()Z"⟩ : MethodName) prog_23_method_7_code 1 (some .boolean) :: ws) ({ frames := 0, cells := 0, slots := 0, locals := 0 } : Room)) (fun ar U => ar = #[(.ref w_INCREMENT_OFFER)] ∧ Z.Warmed39 U.vm ∧ U.heap = h0) (fun _ _ _ _ _ => True) (fun _ U oc U' => ∃ v L, oc = .returned v ∧ own_m_INCREMENT_OFFER_Q Z w_DEMAND_BID w_DECREMENT_BID w_METERED_LOAD w_EXTERNAL_SALE w_IBT_LOAD w_SUPPLY_OFFER w_INCREMENT_OFFER w_METERED_GENERATION w_EXTERNAL_PURCHASE w_IBT_MARKET w_IBT_MARKET_EXCL w_WITHDRAWAL w_INJECTION w_EITHER h0 n0 v U'.heap L ∧ FrameEnd U oc U' L ({ frames := 0, cells := 0, slots := 0, locals := 0 } : Room).cells ({ frames := 0, cells := 0, slots := 0, locals := 0 } : Room).slots) := by
  refine MetFree.of_bodySF (plainFor_of_name own_pn0) hisR ?_
  intro p e s m args below meth c s₁ Bd hml0 hP hK
  obtain ⟨rfl, hZ, hh⟩ := hP
  have hx := Bd.exec
  have hby := Bd.bytes
  have hml : c.maxLocals = 1 := hml0
  have hown : s.vm.findClass "com/example/holdfast/holdfast/PositionKind" = some m.cls := findClass_of_methodNamed Bd.named
  have hnm := (name_of_methodNamed Bd.named Bd.method).1
  have X0 : Stand p l e ({ frames := 0, cells := 0, slots := 0, locals := 0 } : Room) s m #[(.ref w_INCREMENT_OFFER)] below meth c s₁ [] 0 0 := Stand.of_body Bd
  have e0 : s₁.heap = h0 := by rw [← hh, Bd.state]; rfl
  have N0 := Fr.nil n0
  have pre0 : ∀ t, Steps p.tables e below (s₁.setTop (mkF m 0 #[rv w_INCREMENT_OFFER] [])) t → Steps p.tables e below (s₁.setTop (entryFrame m #[(.ref w_INCREMENT_OFFER)] 1)) t := fun t k => castTop (own_m_INCREMENT_OFFER_ef m w_INCREMENT_OFFER) k
  obtain ⟨T1, X1, e1, st1⟩ := getS2 X0 hx hZ hown (host := "") (Or.inl (hw _ (own_m 33 rfl))) Via.refl e0 (U_EXTERNAL_PURCHASE.1.ext O0.2) (g := (mkF m 1 #[rv w_INCREMENT_OFFER] [(.ref w_INCREMENT_OFFER)])) rfl (hb hby own_d1_1)
  obtain ⟨T2, X2, e2, st2⟩ := getS2 X1 hx hZ hown (host := "") (Or.inl (hw _ (own_m 34 rfl))) Via.refl e1 (U_EXTERNAL_SALE.1.ext O0.2) (g := (mkF m 8 #[rv w_INCREMENT_OFFER] [(.ref w_INCREMENT_OFFER)])) rfl (hb hby own_d1_8)
  obtain ⟨fs, hr, hrun, hended, hW, hsame⟩ := X2.leave (v := some (.int 0)) (fun h => by rw [Bd.returns] at h; cases h)
  refine ⟨_, _, pre0 _ ?_, hrun, hended, _, _, rfl, ?_, ⟨_, rfl⟩, hW, hsame.mono (by decide) (by decide)⟩
  · show Steps p.tables e below (s₁.setTop (mkF m 0 #[rv w_INCREMENT_OFFER] [])) _
    refine XS.aloadN X0.here hx rfl (hb hby own_d1_0) rfl rfl ?_
    show Steps p.tables e below (s₁.setTop (mkF m 1 #[rv w_INCREMENT_OFFER] [(.ref w_INCREMENT_OFFER)])) _
    refine st1 _ ?_
    show Steps p.tables e below (T1.setTop (mkF m 4 #[rv w_INCREMENT_OFFER] [(.ref w_EXTERNAL_PURCHASE), (.ref w_INCREMENT_OFFER)])) _
    refine Jvm.RoadKit.acmp (g := (mkF m 4 #[rv w_INCREMENT_OFFER] [(.ref w_EXTERNAL_PURCHASE), (.ref w_INCREMENT_OFFER)])) X1 hx rfl rfl rfl (pc0 := 4) (pc' := 7) (same := false) rfl (hb hby own_d1_4) rfl (decide_eq_false fun q => (Fld.ne U_INCREMENT_OFFER.2.2 U_EXTERNAL_PURCHASE.2.2 (by decide)) (Value.ref.inj q)) (by decide) (by decide) ?_
    show Steps p.tables e below (T1.setTop (mkF m 7 #[rv w_INCREMENT_OFFER] [])) _
    refine XS.aloadN X1.here hx rfl (hb hby own_d1_7) rfl rfl ?_
    show Steps p.tables e below (T1.setTop (mkF m 8 #[rv w_INCREMENT_OFFER] [(.ref w_INCREMENT_OFFER)])) _
    refine st2 _ ?_
    show Steps p.tables e below (T2.setTop (mkF m 11 #[rv w_INCREMENT_OFFER] [(.ref w_EXTERNAL_SALE), (.ref w_INCREMENT_OFFER)])) _
    refine Jvm.RoadKit.acmp (g := (mkF m 11 #[rv w_INCREMENT_OFFER] [(.ref w_EXTERNAL_SALE), (.ref w_INCREMENT_OFFER)])) X2 hx rfl rfl rfl (pc0 := 11) (pc' := 18) (same := false) rfl (hb hby own_d1_11) rfl (decide_eq_false fun q => (Ne.symm (Fld.ne U_EXTERNAL_SALE.2.2 U_INCREMENT_OFFER.2.2 (by decide))) (Value.ref.inj q)) (by decide) (by decide) ?_
    show Steps p.tables e below (T2.setTop (mkF m 18 #[rv w_INCREMENT_OFFER] [])) _
    refine XS.iconst X2.here hx rfl (hb hby own_d1_18) ?_
    show Steps p.tables e below (T2.setTop (mkF m 19 #[rv w_INCREMENT_OFFER] [(.int 0)])) _
    exact retN X2 hx (t := .boolean) Bd.returns (by simp) (hb hby own_d1_19) hr
  · show own_m_INCREMENT_OFFER_Q Z w_DEMAND_BID w_DECREMENT_BID w_METERED_LOAD w_EXTERNAL_SALE w_IBT_LOAD w_SUPPLY_OFFER w_INCREMENT_OFFER w_METERED_GENERATION w_EXTERNAL_PURCHASE w_IBT_MARKET w_IBT_MARKET_EXCL w_WITHDRAWAL w_INJECTION w_EITHER h0 n0 _ T2.heap _
    rw [e2]
    exact ⟨rfl, N0, rfl⟩
theorem own_m_METERED_GENERATION_ef (m : MethodId) (w_METERED_GENERATION : Addr) : entryFrame m #[(.ref w_METERED_GENERATION)] 1 = mkF m 0 #[rv w_METERED_GENERATION] [] := by first | (simp [entryFrame, mkF, argsToLocals, Value.category]; done) | rfl
def own_m_METERED_GENERATION_Q (Z : State) (w_DEMAND_BID : Addr) (w_DECREMENT_BID : Addr) (w_METERED_LOAD : Addr) (w_EXTERNAL_SALE : Addr) (w_IBT_LOAD : Addr) (w_SUPPLY_OFFER : Addr) (w_INCREMENT_OFFER : Addr) (w_METERED_GENERATION : Addr) (w_EXTERNAL_PURCHASE : Addr) (w_IBT_MARKET : Addr) (w_IBT_MARKET_EXCL : Addr) (w_WITHDRAWAL : Addr) (w_INJECTION : Addr) (w_EITHER : Addr) (h0 : Heap) (n0 : Nat) (v : Option Value) (h : Heap) (L : List Loc) : Prop := v = some (.int 0) ∧ Fr n0 L ∧ h = h0
set_option maxRecDepth 65536 in
set_option maxHeartbeats 40000000 in
theorem own_m_METERED_GENERATION (l : Launch) (Z : State) (a0 : Array Value) (hw : ∀ d ∈ tables_1, d.before a0 Z = true) (ws : List Jvm.Cond) (w_DEMAND_BID : Addr) (w_DECREMENT_BID : Addr) (w_METERED_LOAD : Addr) (w_EXTERNAL_SALE : Addr) (w_IBT_LOAD : Addr) (w_SUPPLY_OFFER : Addr) (w_INCREMENT_OFFER : Addr) (w_METERED_GENERATION : Addr) (w_EXTERNAL_PURCHASE : Addr) (w_IBT_MARKET : Addr) (w_IBT_MARKET_EXCL : Addr) (w_WITHDRAWAL : Addr) (w_INJECTION : Addr) (w_EITHER : Addr) (h0 : Heap) (n0 : Nat) (O0 : Old Z n0 h0) (U_DEMAND_BID : own_En Z Z.heap "com/example/holdfast/holdfast/PositionKind" "DEMAND_BID" "Lcom/example/holdfast/holdfast/PositionKind;" w_DEMAND_BID (0 : Int32)) (U_DECREMENT_BID : own_En Z Z.heap "com/example/holdfast/holdfast/PositionKind" "DECREMENT_BID" "Lcom/example/holdfast/holdfast/PositionKind;" w_DECREMENT_BID (1 : Int32)) (U_METERED_LOAD : own_En Z Z.heap "com/example/holdfast/holdfast/PositionKind" "METERED_LOAD" "Lcom/example/holdfast/holdfast/PositionKind;" w_METERED_LOAD (2 : Int32)) (U_EXTERNAL_SALE : own_En Z Z.heap "com/example/holdfast/holdfast/PositionKind" "EXTERNAL_SALE" "Lcom/example/holdfast/holdfast/PositionKind;" w_EXTERNAL_SALE (3 : Int32)) (U_IBT_LOAD : own_En Z Z.heap "com/example/holdfast/holdfast/PositionKind" "IBT_LOAD" "Lcom/example/holdfast/holdfast/PositionKind;" w_IBT_LOAD (4 : Int32)) (U_SUPPLY_OFFER : own_En Z Z.heap "com/example/holdfast/holdfast/PositionKind" "SUPPLY_OFFER" "Lcom/example/holdfast/holdfast/PositionKind;" w_SUPPLY_OFFER (5 : Int32)) (U_INCREMENT_OFFER : own_En Z Z.heap "com/example/holdfast/holdfast/PositionKind" "INCREMENT_OFFER" "Lcom/example/holdfast/holdfast/PositionKind;" w_INCREMENT_OFFER (6 : Int32)) (U_METERED_GENERATION : own_En Z Z.heap "com/example/holdfast/holdfast/PositionKind" "METERED_GENERATION" "Lcom/example/holdfast/holdfast/PositionKind;" w_METERED_GENERATION (7 : Int32)) (U_EXTERNAL_PURCHASE : own_En Z Z.heap "com/example/holdfast/holdfast/PositionKind" "EXTERNAL_PURCHASE" "Lcom/example/holdfast/holdfast/PositionKind;" w_EXTERNAL_PURCHASE (8 : Int32)) (U_IBT_MARKET : own_En Z Z.heap "com/example/holdfast/holdfast/PositionKind" "IBT_MARKET" "Lcom/example/holdfast/holdfast/PositionKind;" w_IBT_MARKET (9 : Int32)) (U_IBT_MARKET_EXCL : own_En Z Z.heap "com/example/holdfast/holdfast/PositionKind" "IBT_MARKET_EXCL" "Lcom/example/holdfast/holdfast/PositionKind;" w_IBT_MARKET_EXCL (10 : Int32)) (U_WITHDRAWAL : own_En Z Z.heap "com/example/holdfast/holdfast/PositionKind$Sign" "WITHDRAWAL" "Lcom/example/holdfast/holdfast/PositionKind$Sign;" w_WITHDRAWAL (0 : Int32)) (U_INJECTION : own_En Z Z.heap "com/example/holdfast/holdfast/PositionKind$Sign" "INJECTION" "Lcom/example/holdfast/holdfast/PositionKind$Sign;" w_INJECTION (1 : Int32)) (U_EITHER : own_En Z Z.heap "com/example/holdfast/holdfast/PositionKind$Sign" "EITHER" "Lcom/example/holdfast/holdfast/PositionKind$Sign;" w_EITHER (2 : Int32)) (G_EXTERNAL_SALE : Fld Z Z.heap w_EXTERNAL_SALE "com/example/holdfast/holdfast/PositionKind" "sign" "Lcom/example/holdfast/holdfast/PositionKind$Sign;" (.ref w_WITHDRAWAL)) (G_EXTERNAL_PURCHASE : Fld Z Z.heap w_EXTERNAL_PURCHASE "com/example/holdfast/holdfast/PositionKind" "sign" "Lcom/example/holdfast/holdfast/PositionKind$Sign;" (.ref w_INJECTION)) :
    MetFree l (⟨"com/example/holdfast/holdfast/PositionKind", "crossesBorder", "()Z"⟩ : MethodName) (head1 (Jvm.Cond.code (⟨"com/example/holdfast/holdfast/PositionKind", "crossesBorder", "()Z"⟩ : MethodName) prog_23_method_7_code 1 (some .boolean) :: ws) ({ frames := 0, cells := 0, slots := 0, locals := 0 } : Room)) (fun ar U => ar = #[(.ref w_METERED_GENERATION)] ∧ Z.Warmed39 U.vm ∧ U.heap = h0) (fun _ _ _ _ _ => True) (fun _ U oc U' => ∃ v L, oc = .returned v ∧ own_m_METERED_GENERATION_Q Z w_DEMAND_BID w_DECREMENT_BID w_METERED_LOAD w_EXTERNAL_SALE w_IBT_LOAD w_SUPPLY_OFFER w_INCREMENT_OFFER w_METERED_GENERATION w_EXTERNAL_PURCHASE w_IBT_MARKET w_IBT_MARKET_EXCL w_WITHDRAWAL w_INJECTION w_EITHER h0 n0 v U'.heap L ∧ FrameEnd U oc U' L ({ frames := 0, cells := 0, slots := 0, locals := 0 } : Room).cells ({ frames := 0, cells := 0, slots := 0, locals := 0 } : Room).slots) := by
  refine MetFree.of_bodySF (plainFor_of_name own_pn0) hisR ?_
  intro p e s m args below meth c s₁ Bd hml0 hP hK
  obtain ⟨rfl, hZ, hh⟩ := hP
  have hx := Bd.exec
  have hby := Bd.bytes
  have hml : c.maxLocals = 1 := hml0
  have hown : s.vm.findClass "com/example/holdfast/holdfast/PositionKind" = some m.cls := findClass_of_methodNamed Bd.named
  have hnm := (name_of_methodNamed Bd.named Bd.method).1
  have X0 : Stand p l e ({ frames := 0, cells := 0, slots := 0, locals := 0 } : Room) s m #[(.ref w_METERED_GENERATION)] below meth c s₁ [] 0 0 := Stand.of_body Bd
  have e0 : s₁.heap = h0 := by rw [← hh, Bd.state]; rfl
  have N0 := Fr.nil n0
  have pre0 : ∀ t, Steps p.tables e below (s₁.setTop (mkF m 0 #[rv w_METERED_GENERATION] [])) t → Steps p.tables e below (s₁.setTop (entryFrame m #[(.ref w_METERED_GENERATION)] 1)) t := fun t k => castTop (own_m_METERED_GENERATION_ef m w_METERED_GENERATION) k
  obtain ⟨T1, X1, e1, st1⟩ := getS2 X0 hx hZ hown (host := "") (Or.inl (hw _ (own_m 33 rfl))) Via.refl e0 (U_EXTERNAL_PURCHASE.1.ext O0.2) (g := (mkF m 1 #[rv w_METERED_GENERATION] [(.ref w_METERED_GENERATION)])) rfl (hb hby own_d1_1)
  obtain ⟨T2, X2, e2, st2⟩ := getS2 X1 hx hZ hown (host := "") (Or.inl (hw _ (own_m 34 rfl))) Via.refl e1 (U_EXTERNAL_SALE.1.ext O0.2) (g := (mkF m 8 #[rv w_METERED_GENERATION] [(.ref w_METERED_GENERATION)])) rfl (hb hby own_d1_8)
  obtain ⟨fs, hr, hrun, hended, hW, hsame⟩ := X2.leave (v := some (.int 0)) (fun h => by rw [Bd.returns] at h; cases h)
  refine ⟨_, _, pre0 _ ?_, hrun, hended, _, _, rfl, ?_, ⟨_, rfl⟩, hW, hsame.mono (by decide) (by decide)⟩
  · show Steps p.tables e below (s₁.setTop (mkF m 0 #[rv w_METERED_GENERATION] [])) _
    refine XS.aloadN X0.here hx rfl (hb hby own_d1_0) rfl rfl ?_
    show Steps p.tables e below (s₁.setTop (mkF m 1 #[rv w_METERED_GENERATION] [(.ref w_METERED_GENERATION)])) _
    refine st1 _ ?_
    show Steps p.tables e below (T1.setTop (mkF m 4 #[rv w_METERED_GENERATION] [(.ref w_EXTERNAL_PURCHASE), (.ref w_METERED_GENERATION)])) _
    refine Jvm.RoadKit.acmp (g := (mkF m 4 #[rv w_METERED_GENERATION] [(.ref w_EXTERNAL_PURCHASE), (.ref w_METERED_GENERATION)])) X1 hx rfl rfl rfl (pc0 := 4) (pc' := 7) (same := false) rfl (hb hby own_d1_4) rfl (decide_eq_false fun q => (Fld.ne U_METERED_GENERATION.2.2 U_EXTERNAL_PURCHASE.2.2 (by decide)) (Value.ref.inj q)) (by decide) (by decide) ?_
    show Steps p.tables e below (T1.setTop (mkF m 7 #[rv w_METERED_GENERATION] [])) _
    refine XS.aloadN X1.here hx rfl (hb hby own_d1_7) rfl rfl ?_
    show Steps p.tables e below (T1.setTop (mkF m 8 #[rv w_METERED_GENERATION] [(.ref w_METERED_GENERATION)])) _
    refine st2 _ ?_
    show Steps p.tables e below (T2.setTop (mkF m 11 #[rv w_METERED_GENERATION] [(.ref w_EXTERNAL_SALE), (.ref w_METERED_GENERATION)])) _
    refine Jvm.RoadKit.acmp (g := (mkF m 11 #[rv w_METERED_GENERATION] [(.ref w_EXTERNAL_SALE), (.ref w_METERED_GENERATION)])) X2 hx rfl rfl rfl (pc0 := 11) (pc' := 18) (same := false) rfl (hb hby own_d1_11) rfl (decide_eq_false fun q => (Ne.symm (Fld.ne U_EXTERNAL_SALE.2.2 U_METERED_GENERATION.2.2 (by decide))) (Value.ref.inj q)) (by decide) (by decide) ?_
    show Steps p.tables e below (T2.setTop (mkF m 18 #[rv w_METERED_GENERATION] [])) _
    refine XS.iconst X2.here hx rfl (hb hby own_d1_18) ?_
    show Steps p.tables e below (T2.setTop (mkF m 19 #[rv w_METERED_GENERATION] [(.int 0)])) _
    exact retN X2 hx (t := .boolean) Bd.returns (by simp) (hb hby own_d1_19) hr
  · show own_m_METERED_GENERATION_Q Z w_DEMAND_BID w_DECREMENT_BID w_METERED_LOAD w_EXTERNAL_SALE w_IBT_LOAD w_SUPPLY_OFFER w_INCREMENT_OFFER w_METERED_GENERATION w_EXTERNAL_PURCHASE w_IBT_MARKET w_IBT_MARKET_EXCL w_WITHDRAWAL w_INJECTION w_EITHER h0 n0 _ T2.heap _
    rw [e2]
    exact ⟨rfl, N0, rfl⟩
theorem own_m_EXTERNAL_PURCHASE_ef (m : MethodId) (w_EXTERNAL_PURCHASE : Addr) : entryFrame m #[(.ref w_EXTERNAL_PURCHASE)] 1 = mkF m 0 #[rv w_EXTERNAL_PURCHASE] [] := by first | (simp [entryFrame, mkF, argsToLocals, Value.category]; done) | rfl
def own_m_EXTERNAL_PURCHASE_Q (Z : State) (w_DEMAND_BID : Addr) (w_DECREMENT_BID : Addr) (w_METERED_LOAD : Addr) (w_EXTERNAL_SALE : Addr) (w_IBT_LOAD : Addr) (w_SUPPLY_OFFER : Addr) (w_INCREMENT_OFFER : Addr) (w_METERED_GENERATION : Addr) (w_EXTERNAL_PURCHASE : Addr) (w_IBT_MARKET : Addr) (w_IBT_MARKET_EXCL : Addr) (w_WITHDRAWAL : Addr) (w_INJECTION : Addr) (w_EITHER : Addr) (h0 : Heap) (n0 : Nat) (v : Option Value) (h : Heap) (L : List Loc) : Prop := v = some (.int 1) ∧ Fr n0 L ∧ h = h0
set_option maxRecDepth 65536 in
set_option maxHeartbeats 40000000 in
theorem own_m_EXTERNAL_PURCHASE (l : Launch) (Z : State) (a0 : Array Value) (hw : ∀ d ∈ tables_1, d.before a0 Z = true) (ws : List Jvm.Cond) (w_DEMAND_BID : Addr) (w_DECREMENT_BID : Addr) (w_METERED_LOAD : Addr) (w_EXTERNAL_SALE : Addr) (w_IBT_LOAD : Addr) (w_SUPPLY_OFFER : Addr) (w_INCREMENT_OFFER : Addr) (w_METERED_GENERATION : Addr) (w_EXTERNAL_PURCHASE : Addr) (w_IBT_MARKET : Addr) (w_IBT_MARKET_EXCL : Addr) (w_WITHDRAWAL : Addr) (w_INJECTION : Addr) (w_EITHER : Addr) (h0 : Heap) (n0 : Nat) (O0 : Old Z n0 h0) (U_DEMAND_BID : own_En Z Z.heap "com/example/holdfast/holdfast/PositionKind" "DEMAND_BID" "Lcom/example/holdfast/holdfast/PositionKind;" w_DEMAND_BID (0 : Int32)) (U_DECREMENT_BID : own_En Z Z.heap "com/example/holdfast/holdfast/PositionKind" "DECREMENT_BID" "Lcom/example/holdfast/holdfast/PositionKind;" w_DECREMENT_BID (1 : Int32)) (U_METERED_LOAD : own_En Z Z.heap "com/example/holdfast/holdfast/PositionKind" "METERED_LOAD" "Lcom/example/holdfast/holdfast/PositionKind;" w_METERED_LOAD (2 : Int32)) (U_EXTERNAL_SALE : own_En Z Z.heap "com/example/holdfast/holdfast/PositionKind" "EXTERNAL_SALE" "Lcom/example/holdfast/holdfast/PositionKind;" w_EXTERNAL_SALE (3 : Int32)) (U_IBT_LOAD : own_En Z Z.heap "com/example/holdfast/holdfast/PositionKind" "IBT_LOAD" "Lcom/example/holdfast/holdfast/PositionKind;" w_IBT_LOAD (4 : Int32)) (U_SUPPLY_OFFER : own_En Z Z.heap "com/example/holdfast/holdfast/PositionKind" "SUPPLY_OFFER" "Lcom/example/holdfast/holdfast/PositionKind;" w_SUPPLY_OFFER (5 : Int32)) (U_INCREMENT_OFFER : own_En Z Z.heap "com/example/holdfast/holdfast/PositionKind" "INCREMENT_OFFER" "Lcom/example/holdfast/holdfast/PositionKind;" w_INCREMENT_OFFER (6 : Int32)) (U_METERED_GENERATION : own_En Z Z.heap "com/example/holdfast/holdfast/PositionKind" "METERED_GENERATION" "Lcom/example/holdfast/holdfast/PositionKind;" w_METERED_GENERATION (7 : Int32)) (U_EXTERNAL_PURCHASE : own_En Z Z.heap "com/example/holdfast/holdfast/PositionKind" "EXTERNAL_PURCHASE" "Lcom/example/holdfast/holdfast/PositionKind;" w_EXTERNAL_PURCHASE (8 : Int32)) (U_IBT_MARKET : own_En Z Z.heap "com/example/holdfast/holdfast/PositionKind" "IBT_MARKET" "Lcom/example/holdfast/holdfast/PositionKind;" w_IBT_MARKET (9 : Int32)) (U_IBT_MARKET_EXCL : own_En Z Z.heap "com/example/holdfast/holdfast/PositionKind" "IBT_MARKET_EXCL" "Lcom/example/holdfast/holdfast/PositionKind;" w_IBT_MARKET_EXCL (10 : Int32)) (U_WITHDRAWAL : own_En Z Z.heap "com/example/holdfast/holdfast/PositionKind$Sign" "WITHDRAWAL" "Lcom/example/holdfast/holdfast/PositionKind$Sign;" w_WITHDRAWAL (0 : Int32)) (U_INJECTION : own_En Z Z.heap "com/example/holdfast/holdfast/PositionKind$Sign" "INJECTION" "Lcom/example/holdfast/holdfast/PositionKind$Sign;" w_INJECTION (1 : Int32)) (U_EITHER : own_En Z Z.heap "com/example/holdfast/holdfast/PositionKind$Sign" "EITHER" "Lcom/example/holdfast/holdfast/PositionKind$Sign;" w_EITHER (2 : Int32)) (G_EXTERNAL_SALE : Fld Z Z.heap w_EXTERNAL_SALE "com/example/holdfast/holdfast/PositionKind" "sign" "Lcom/example/holdfast/holdfast/PositionKind$Sign;" (.ref w_WITHDRAWAL)) (G_EXTERNAL_PURCHASE : Fld Z Z.heap w_EXTERNAL_PURCHASE "com/example/holdfast/holdfast/PositionKind" "sign" "Lcom/example/holdfast/holdfast/PositionKind$Sign;" (.ref w_INJECTION)) :
    MetFree l (⟨"com/example/holdfast/holdfast/PositionKind", "crossesBorder", "()Z"⟩ : MethodName) (head1 (Jvm.Cond.code (⟨"com/example/holdfast/holdfast/PositionKind", "crossesBorder", "()Z"⟩ : MethodName) prog_23_method_7_code 1 (some .boolean) :: ws) ({ frames := 0, cells := 0, slots := 0, locals := 0 } : Room)) (fun ar U => ar = #[(.ref w_EXTERNAL_PURCHASE)] ∧ Z.Warmed39 U.vm ∧ U.heap = h0) (fun _ _ _ _ _ => True) (fun _ U oc U' => ∃ v L, oc = .returned v ∧ own_m_EXTERNAL_PURCHASE_Q Z w_DEMAND_BID w_DECREMENT_BID w_METERED_LOAD w_EXTERNAL_SALE w_IBT_LOAD w_SUPPLY_OFFER w_INCREMENT_OFFER w_METERED_GENERATION w_EXTERNAL_PURCHASE w_IBT_MARKET w_IBT_MARKET_EXCL w_WITHDRAWAL w_INJECTION w_EITHER h0 n0 v U'.heap L ∧ FrameEnd U oc U' L ({ frames := 0, cells := 0, slots := 0, locals := 0 } : Room).cells ({ frames := 0, cells := 0, slots := 0, locals := 0 } : Room).slots) := by
  refine MetFree.of_bodySF (plainFor_of_name own_pn0) hisR ?_
  intro p e s m args below meth c s₁ Bd hml0 hP hK
  obtain ⟨rfl, hZ, hh⟩ := hP
  have hx := Bd.exec
  have hby := Bd.bytes
  have hml : c.maxLocals = 1 := hml0
  have hown : s.vm.findClass "com/example/holdfast/holdfast/PositionKind" = some m.cls := findClass_of_methodNamed Bd.named
  have hnm := (name_of_methodNamed Bd.named Bd.method).1
  have X0 : Stand p l e ({ frames := 0, cells := 0, slots := 0, locals := 0 } : Room) s m #[(.ref w_EXTERNAL_PURCHASE)] below meth c s₁ [] 0 0 := Stand.of_body Bd
  have e0 : s₁.heap = h0 := by rw [← hh, Bd.state]; rfl
  have N0 := Fr.nil n0
  have pre0 : ∀ t, Steps p.tables e below (s₁.setTop (mkF m 0 #[rv w_EXTERNAL_PURCHASE] [])) t → Steps p.tables e below (s₁.setTop (entryFrame m #[(.ref w_EXTERNAL_PURCHASE)] 1)) t := fun t k => castTop (own_m_EXTERNAL_PURCHASE_ef m w_EXTERNAL_PURCHASE) k
  obtain ⟨T1, X1, e1, st1⟩ := getS2 X0 hx hZ hown (host := "") (Or.inl (hw _ (own_m 33 rfl))) Via.refl e0 (U_EXTERNAL_PURCHASE.1.ext O0.2) (g := (mkF m 1 #[rv w_EXTERNAL_PURCHASE] [(.ref w_EXTERNAL_PURCHASE)])) rfl (hb hby own_d1_1)
  obtain ⟨fs, hr, hrun, hended, hW, hsame⟩ := X1.leave (v := some (.int 1)) (fun h => by rw [Bd.returns] at h; cases h)
  refine ⟨_, _, pre0 _ ?_, hrun, hended, _, _, rfl, ?_, ⟨_, rfl⟩, hW, hsame.mono (by decide) (by decide)⟩
  · show Steps p.tables e below (s₁.setTop (mkF m 0 #[rv w_EXTERNAL_PURCHASE] [])) _
    refine XS.aloadN X0.here hx rfl (hb hby own_d1_0) rfl rfl ?_
    show Steps p.tables e below (s₁.setTop (mkF m 1 #[rv w_EXTERNAL_PURCHASE] [(.ref w_EXTERNAL_PURCHASE)])) _
    refine st1 _ ?_
    show Steps p.tables e below (T1.setTop (mkF m 4 #[rv w_EXTERNAL_PURCHASE] [(.ref w_EXTERNAL_PURCHASE), (.ref w_EXTERNAL_PURCHASE)])) _
    refine Jvm.RoadKit.acmp (g := (mkF m 4 #[rv w_EXTERNAL_PURCHASE] [(.ref w_EXTERNAL_PURCHASE), (.ref w_EXTERNAL_PURCHASE)])) X1 hx rfl rfl rfl (pc0 := 4) (pc' := 14) (same := true) rfl (hb hby own_d1_4) rfl (decide_eq_true rfl) (by decide) (by decide) ?_
    show Steps p.tables e below (T1.setTop (mkF m 14 #[rv w_EXTERNAL_PURCHASE] [])) _
    refine XS.iconst X1.here hx rfl (hb hby own_d1_14) ?_
    show Steps p.tables e below (T1.setTop (mkF m 15 #[rv w_EXTERNAL_PURCHASE] [(.int 1)])) _
    refine XS.goto X1.here hx rfl (pc0 := 15) (pc' := 19) rfl (hb hby own_d1_15) (by decide) (by decide) ?_
    show Steps p.tables e below (T1.setTop (mkF m 19 #[rv w_EXTERNAL_PURCHASE] [(.int 1)])) _
    exact retN X1 hx (t := .boolean) Bd.returns (by simp) (hb hby own_d1_19) hr
  · show own_m_EXTERNAL_PURCHASE_Q Z w_DEMAND_BID w_DECREMENT_BID w_METERED_LOAD w_EXTERNAL_SALE w_IBT_LOAD w_SUPPLY_OFFER w_INCREMENT_OFFER w_METERED_GENERATION w_EXTERNAL_PURCHASE w_IBT_MARKET w_IBT_MARKET_EXCL w_WITHDRAWAL w_INJECTION w_EITHER h0 n0 _ T1.heap _
    rw [e1]
    exact ⟨rfl, N0, rfl⟩
theorem own_m_IBT_MARKET_ef (m : MethodId) (w_IBT_MARKET : Addr) : entryFrame m #[(.ref w_IBT_MARKET)] 1 = mkF m 0 #[rv w_IBT_MARKET] [] := by first | (simp [entryFrame, mkF, argsToLocals, Value.category]; done) | rfl
def own_m_IBT_MARKET_Q (Z : State) (w_DEMAND_BID : Addr) (w_DECREMENT_BID : Addr) (w_METERED_LOAD : Addr) (w_EXTERNAL_SALE : Addr) (w_IBT_LOAD : Addr) (w_SUPPLY_OFFER : Addr) (w_INCREMENT_OFFER : Addr) (w_METERED_GENERATION : Addr) (w_EXTERNAL_PURCHASE : Addr) (w_IBT_MARKET : Addr) (w_IBT_MARKET_EXCL : Addr) (w_WITHDRAWAL : Addr) (w_INJECTION : Addr) (w_EITHER : Addr) (h0 : Heap) (n0 : Nat) (v : Option Value) (h : Heap) (L : List Loc) : Prop := v = some (.int 0) ∧ Fr n0 L ∧ h = h0
set_option maxRecDepth 65536 in
set_option maxHeartbeats 40000000 in
theorem own_m_IBT_MARKET (l : Launch) (Z : State) (a0 : Array Value) (hw : ∀ d ∈ tables_1, d.before a0 Z = true) (ws : List Jvm.Cond) (w_DEMAND_BID : Addr) (w_DECREMENT_BID : Addr) (w_METERED_LOAD : Addr) (w_EXTERNAL_SALE : Addr) (w_IBT_LOAD : Addr) (w_SUPPLY_OFFER : Addr) (w_INCREMENT_OFFER : Addr) (w_METERED_GENERATION : Addr) (w_EXTERNAL_PURCHASE : Addr) (w_IBT_MARKET : Addr) (w_IBT_MARKET_EXCL : Addr) (w_WITHDRAWAL : Addr) (w_INJECTION : Addr) (w_EITHER : Addr) (h0 : Heap) (n0 : Nat) (O0 : Old Z n0 h0) (U_DEMAND_BID : own_En Z Z.heap "com/example/holdfast/holdfast/PositionKind" "DEMAND_BID" "Lcom/example/holdfast/holdfast/PositionKind;" w_DEMAND_BID (0 : Int32)) (U_DECREMENT_BID : own_En Z Z.heap "com/example/holdfast/holdfast/PositionKind" "DECREMENT_BID" "Lcom/example/holdfast/holdfast/PositionKind;" w_DECREMENT_BID (1 : Int32)) (U_METERED_LOAD : own_En Z Z.heap "com/example/holdfast/holdfast/PositionKind" "METERED_LOAD" "Lcom/example/holdfast/holdfast/PositionKind;" w_METERED_LOAD (2 : Int32)) (U_EXTERNAL_SALE : own_En Z Z.heap "com/example/holdfast/holdfast/PositionKind" "EXTERNAL_SALE" "Lcom/example/holdfast/holdfast/PositionKind;" w_EXTERNAL_SALE (3 : Int32)) (U_IBT_LOAD : own_En Z Z.heap "com/example/holdfast/holdfast/PositionKind" "IBT_LOAD" "Lcom/example/holdfast/holdfast/PositionKind;" w_IBT_LOAD (4 : Int32)) (U_SUPPLY_OFFER : own_En Z Z.heap "com/example/holdfast/holdfast/PositionKind" "SUPPLY_OFFER" "Lcom/example/holdfast/holdfast/PositionKind;" w_SUPPLY_OFFER (5 : Int32)) (U_INCREMENT_OFFER : own_En Z Z.heap "com/example/holdfast/holdfast/PositionKind" "INCREMENT_OFFER" "Lcom/example/holdfast/holdfast/PositionKind;" w_INCREMENT_OFFER (6 : Int32)) (U_METERED_GENERATION : own_En Z Z.heap "com/example/holdfast/holdfast/PositionKind" "METERED_GENERATION" "Lcom/example/holdfast/holdfast/PositionKind;" w_METERED_GENERATION (7 : Int32)) (U_EXTERNAL_PURCHASE : own_En Z Z.heap "com/example/holdfast/holdfast/PositionKind" "EXTERNAL_PURCHASE" "Lcom/example/holdfast/holdfast/PositionKind;" w_EXTERNAL_PURCHASE (8 : Int32)) (U_IBT_MARKET : own_En Z Z.heap "com/example/holdfast/holdfast/PositionKind" "IBT_MARKET" "Lcom/example/holdfast/holdfast/PositionKind;" w_IBT_MARKET (9 : Int32)) (U_IBT_MARKET_EXCL : own_En Z Z.heap "com/example/holdfast/holdfast/PositionKind" "IBT_MARKET_EXCL" "Lcom/example/holdfast/holdfast/PositionKind;" w_IBT_MARKET_EXCL (10 : Int32)) (U_WITHDRAWAL : own_En Z Z.heap "com/example/holdfast/holdfast/PositionKind$Sign" "WITHDRAWAL" "Lcom/example/holdfast/holdfast/PositionKind$Sign;" w_WITHDRAWAL (0 : Int32)) (U_INJECTION : own_En Z Z.heap "com/example/holdfast/holdfast/PositionKind$Sign" "INJECTION" "Lcom/example/holdfast/holdfast/PositionKind$Sign;" w_INJECTION (1 : Int32)) (U_EITHER : own_En Z Z.heap "com/example/holdfast/holdfast/PositionKind$Sign" "EITHER" "Lcom/example/holdfast/holdfast/PositionKind$Sign;" w_EITHER (2 : Int32)) (G_EXTERNAL_SALE : Fld Z Z.heap w_EXTERNAL_SALE "com/example/holdfast/holdfast/PositionKind" "sign" "Lcom/example/holdfast/holdfast/PositionKind$Sign;" (.ref w_WITHDRAWAL)) (G_EXTERNAL_PURCHASE : Fld Z Z.heap w_EXTERNAL_PURCHASE "com/example/holdfast/holdfast/PositionKind" "sign" "Lcom/example/holdfast/holdfast/PositionKind$Sign;" (.ref w_INJECTION)) :
    MetFree l (⟨"com/example/holdfast/holdfast/PositionKind", "crossesBorder", "()Z"⟩ : MethodName) (head1 (Jvm.Cond.code (⟨"com/example/holdfast/holdfast/PositionKind", "crossesBorder", "()Z"⟩ : MethodName) prog_23_method_7_code 1 (some .boolean) :: ws) ({ frames := 0, cells := 0, slots := 0, locals := 0 } : Room)) (fun ar U => ar = #[(.ref w_IBT_MARKET)] ∧ Z.Warmed39 U.vm ∧ U.heap = h0) (fun _ _ _ _ _ => True) (fun _ U oc U' => ∃ v L, oc = .returned v ∧ own_m_IBT_MARKET_Q Z w_DEMAND_BID w_DECREMENT_BID w_METERED_LOAD w_EXTERNAL_SALE w_IBT_LOAD w_SUPPLY_OFFER w_INCREMENT_OFFER w_METERED_GENERATION w_EXTERNAL_PURCHASE w_IBT_MARKET w_IBT_MARKET_EXCL w_WITHDRAWAL w_INJECTION w_EITHER h0 n0 v U'.heap L ∧ FrameEnd U oc U' L ({ frames := 0, cells := 0, slots := 0, locals := 0 } : Room).cells ({ frames := 0, cells := 0, slots := 0, locals := 0 } : Room).slots) := by
  refine MetFree.of_bodySF (plainFor_of_name own_pn0) hisR ?_
  intro p e s m args below meth c s₁ Bd hml0 hP hK
  obtain ⟨rfl, hZ, hh⟩ := hP
  have hx := Bd.exec
  have hby := Bd.bytes
  have hml : c.maxLocals = 1 := hml0
  have hown : s.vm.findClass "com/example/holdfast/holdfast/PositionKind" = some m.cls := findClass_of_methodNamed Bd.named
  have hnm := (name_of_methodNamed Bd.named Bd.method).1
  have X0 : Stand p l e ({ frames := 0, cells := 0, slots := 0, locals := 0 } : Room) s m #[(.ref w_IBT_MARKET)] below meth c s₁ [] 0 0 := Stand.of_body Bd
  have e0 : s₁.heap = h0 := by rw [← hh, Bd.state]; rfl
  have N0 := Fr.nil n0
  have pre0 : ∀ t, Steps p.tables e below (s₁.setTop (mkF m 0 #[rv w_IBT_MARKET] [])) t → Steps p.tables e below (s₁.setTop (entryFrame m #[(.ref w_IBT_MARKET)] 1)) t := fun t k => castTop (own_m_IBT_MARKET_ef m w_IBT_MARKET) k
  obtain ⟨T1, X1, e1, st1⟩ := getS2 X0 hx hZ hown (host := "") (Or.inl (hw _ (own_m 33 rfl))) Via.refl e0 (U_EXTERNAL_PURCHASE.1.ext O0.2) (g := (mkF m 1 #[rv w_IBT_MARKET] [(.ref w_IBT_MARKET)])) rfl (hb hby own_d1_1)
  obtain ⟨T2, X2, e2, st2⟩ := getS2 X1 hx hZ hown (host := "") (Or.inl (hw _ (own_m 34 rfl))) Via.refl e1 (U_EXTERNAL_SALE.1.ext O0.2) (g := (mkF m 8 #[rv w_IBT_MARKET] [(.ref w_IBT_MARKET)])) rfl (hb hby own_d1_8)
  obtain ⟨fs, hr, hrun, hended, hW, hsame⟩ := X2.leave (v := some (.int 0)) (fun h => by rw [Bd.returns] at h; cases h)
  refine ⟨_, _, pre0 _ ?_, hrun, hended, _, _, rfl, ?_, ⟨_, rfl⟩, hW, hsame.mono (by decide) (by decide)⟩
  · show Steps p.tables e below (s₁.setTop (mkF m 0 #[rv w_IBT_MARKET] [])) _
    refine XS.aloadN X0.here hx rfl (hb hby own_d1_0) rfl rfl ?_
    show Steps p.tables e below (s₁.setTop (mkF m 1 #[rv w_IBT_MARKET] [(.ref w_IBT_MARKET)])) _
    refine st1 _ ?_
    show Steps p.tables e below (T1.setTop (mkF m 4 #[rv w_IBT_MARKET] [(.ref w_EXTERNAL_PURCHASE), (.ref w_IBT_MARKET)])) _
    refine Jvm.RoadKit.acmp (g := (mkF m 4 #[rv w_IBT_MARKET] [(.ref w_EXTERNAL_PURCHASE), (.ref w_IBT_MARKET)])) X1 hx rfl rfl rfl (pc0 := 4) (pc' := 7) (same := false) rfl (hb hby own_d1_4) rfl (decide_eq_false fun q => (Ne.symm (Fld.ne U_EXTERNAL_PURCHASE.2.2 U_IBT_MARKET.2.2 (by decide))) (Value.ref.inj q)) (by decide) (by decide) ?_
    show Steps p.tables e below (T1.setTop (mkF m 7 #[rv w_IBT_MARKET] [])) _
    refine XS.aloadN X1.here hx rfl (hb hby own_d1_7) rfl rfl ?_
    show Steps p.tables e below (T1.setTop (mkF m 8 #[rv w_IBT_MARKET] [(.ref w_IBT_MARKET)])) _
    refine st2 _ ?_
    show Steps p.tables e below (T2.setTop (mkF m 11 #[rv w_IBT_MARKET] [(.ref w_EXTERNAL_SALE), (.ref w_IBT_MARKET)])) _
    refine Jvm.RoadKit.acmp (g := (mkF m 11 #[rv w_IBT_MARKET] [(.ref w_EXTERNAL_SALE), (.ref w_IBT_MARKET)])) X2 hx rfl rfl rfl (pc0 := 11) (pc' := 18) (same := false) rfl (hb hby own_d1_11) rfl (decide_eq_false fun q => (Ne.symm (Fld.ne U_EXTERNAL_SALE.2.2 U_IBT_MARKET.2.2 (by decide))) (Value.ref.inj q)) (by decide) (by decide) ?_
    show Steps p.tables e below (T2.setTop (mkF m 18 #[rv w_IBT_MARKET] [])) _
    refine XS.iconst X2.here hx rfl (hb hby own_d1_18) ?_
    show Steps p.tables e below (T2.setTop (mkF m 19 #[rv w_IBT_MARKET] [(.int 0)])) _
    exact retN X2 hx (t := .boolean) Bd.returns (by simp) (hb hby own_d1_19) hr
  · show own_m_IBT_MARKET_Q Z w_DEMAND_BID w_DECREMENT_BID w_METERED_LOAD w_EXTERNAL_SALE w_IBT_LOAD w_SUPPLY_OFFER w_INCREMENT_OFFER w_METERED_GENERATION w_EXTERNAL_PURCHASE w_IBT_MARKET w_IBT_MARKET_EXCL w_WITHDRAWAL w_INJECTION w_EITHER h0 n0 _ T2.heap _
    rw [e2]
    exact ⟨rfl, N0, rfl⟩
theorem own_m_IBT_MARKET_EXCL_ef (m : MethodId) (w_IBT_MARKET_EXCL : Addr) : entryFrame m #[(.ref w_IBT_MARKET_EXCL)] 1 = mkF m 0 #[rv w_IBT_MARKET_EXCL] [] := by first | (simp [entryFrame, mkF, argsToLocals, Value.category]; done) | rfl
def own_m_IBT_MARKET_EXCL_Q (Z : State) (w_DEMAND_BID : Addr) (w_DECREMENT_BID : Addr) (w_METERED_LOAD : Addr) (w_EXTERNAL_SALE : Addr) (w_IBT_LOAD : Addr) (w_SUPPLY_OFFER : Addr) (w_INCREMENT_OFFER : Addr) (w_METERED_GENERATION : Addr) (w_EXTERNAL_PURCHASE : Addr) (w_IBT_MARKET : Addr) (w_IBT_MARKET_EXCL : Addr) (w_WITHDRAWAL : Addr) (w_INJECTION : Addr) (w_EITHER : Addr) (h0 : Heap) (n0 : Nat) (v : Option Value) (h : Heap) (L : List Loc) : Prop := v = some (.int 0) ∧ Fr n0 L ∧ h = h0
set_option maxRecDepth 65536 in
set_option maxHeartbeats 40000000 in
theorem own_m_IBT_MARKET_EXCL (l : Launch) (Z : State) (a0 : Array Value) (hw : ∀ d ∈ tables_1, d.before a0 Z = true) (ws : List Jvm.Cond) (w_DEMAND_BID : Addr) (w_DECREMENT_BID : Addr) (w_METERED_LOAD : Addr) (w_EXTERNAL_SALE : Addr) (w_IBT_LOAD : Addr) (w_SUPPLY_OFFER : Addr) (w_INCREMENT_OFFER : Addr) (w_METERED_GENERATION : Addr) (w_EXTERNAL_PURCHASE : Addr) (w_IBT_MARKET : Addr) (w_IBT_MARKET_EXCL : Addr) (w_WITHDRAWAL : Addr) (w_INJECTION : Addr) (w_EITHER : Addr) (h0 : Heap) (n0 : Nat) (O0 : Old Z n0 h0) (U_DEMAND_BID : own_En Z Z.heap "com/example/holdfast/holdfast/PositionKind" "DEMAND_BID" "Lcom/example/holdfast/holdfast/PositionKind;" w_DEMAND_BID (0 : Int32)) (U_DECREMENT_BID : own_En Z Z.heap "com/example/holdfast/holdfast/PositionKind" "DECREMENT_BID" "Lcom/example/holdfast/holdfast/PositionKind;" w_DECREMENT_BID (1 : Int32)) (U_METERED_LOAD : own_En Z Z.heap "com/example/holdfast/holdfast/PositionKind" "METERED_LOAD" "Lcom/example/holdfast/holdfast/PositionKind;" w_METERED_LOAD (2 : Int32)) (U_EXTERNAL_SALE : own_En Z Z.heap "com/example/holdfast/holdfast/PositionKind" "EXTERNAL_SALE" "Lcom/example/holdfast/holdfast/PositionKind;" w_EXTERNAL_SALE (3 : Int32)) (U_IBT_LOAD : own_En Z Z.heap "com/example/holdfast/holdfast/PositionKind" "IBT_LOAD" "Lcom/example/holdfast/holdfast/PositionKind;" w_IBT_LOAD (4 : Int32)) (U_SUPPLY_OFFER : own_En Z Z.heap "com/example/holdfast/holdfast/PositionKind" "SUPPLY_OFFER" "Lcom/example/holdfast/holdfast/PositionKind;" w_SUPPLY_OFFER (5 : Int32)) (U_INCREMENT_OFFER : own_En Z Z.heap "com/example/holdfast/holdfast/PositionKind" "INCREMENT_OFFER" "Lcom/example/holdfast/holdfast/PositionKind;" w_INCREMENT_OFFER (6 : Int32)) (U_METERED_GENERATION : own_En Z Z.heap "com/example/holdfast/holdfast/PositionKind" "METERED_GENERATION" "Lcom/example/holdfast/holdfast/PositionKind;" w_METERED_GENERATION (7 : Int32)) (U_EXTERNAL_PURCHASE : own_En Z Z.heap "com/example/holdfast/holdfast/PositionKind" "EXTERNAL_PURCHASE" "Lcom/example/holdfast/holdfast/PositionKind;" w_EXTERNAL_PURCHASE (8 : Int32)) (U_IBT_MARKET : own_En Z Z.heap "com/example/holdfast/holdfast/PositionKind" "IBT_MARKET" "Lcom/example/holdfast/holdfast/PositionKind;" w_IBT_MARKET (9 : Int32)) (U_IBT_MARKET_EXCL : own_En Z Z.heap "com/example/holdfast/holdfast/PositionKind" "IBT_MARKET_EXCL" "Lcom/example/holdfast/holdfast/PositionKind;" w_IBT_MARKET_EXCL (10 : Int32)) (U_WITHDRAWAL : own_En Z Z.heap "com/example/holdfast/holdfast/PositionKind$Sign" "WITHDRAWAL" "Lcom/example/holdfast/holdfast/PositionKind$Sign;" w_WITHDRAWAL (0 : Int32)) (U_INJECTION : own_En Z Z.heap "com/example/holdfast/holdfast/PositionKind$Sign" "INJECTION" "Lcom/example/holdfast/holdfast/PositionKind$Sign;" w_INJECTION (1 : Int32)) (U_EITHER : own_En Z Z.heap "com/example/holdfast/holdfast/PositionKind$Sign" "EITHER" "Lcom/example/holdfast/holdfast/PositionKind$Sign;" w_EITHER (2 : Int32)) (G_EXTERNAL_SALE : Fld Z Z.heap w_EXTERNAL_SALE "com/example/holdfast/holdfast/PositionKind" "sign" "Lcom/example/holdfast/holdfast/PositionKind$Sign;" (.ref w_WITHDRAWAL)) (G_EXTERNAL_PURCHASE : Fld Z Z.heap w_EXTERNAL_PURCHASE "com/example/holdfast/holdfast/PositionKind" "sign" "Lcom/example/holdfast/holdfast/PositionKind$Sign;" (.ref w_INJECTION)) :
    MetFree l (⟨"com/example/holdfast/holdfast/PositionKind", "crossesBorder", "()Z"⟩ : MethodName) (head1 (Jvm.Cond.code (⟨"com/example/holdfast/holdfast/PositionKind", "crossesBorder", "()Z"⟩ : MethodName) prog_23_method_7_code 1 (some .boolean) :: ws) ({ frames := 0, cells := 0, slots := 0, locals := 0 } : Room)) (fun ar U => ar = #[(.ref w_IBT_MARKET_EXCL)] ∧ Z.Warmed39 U.vm ∧ U.heap = h0) (fun _ _ _ _ _ => True) (fun _ U oc U' => ∃ v L, oc = .returned v ∧ own_m_IBT_MARKET_EXCL_Q Z w_DEMAND_BID w_DECREMENT_BID w_METERED_LOAD w_EXTERNAL_SALE w_IBT_LOAD w_SUPPLY_OFFER w_INCREMENT_OFFER w_METERED_GENERATION w_EXTERNAL_PURCHASE w_IBT_MARKET w_IBT_MARKET_EXCL w_WITHDRAWAL w_INJECTION w_EITHER h0 n0 v U'.heap L ∧ FrameEnd U oc U' L ({ frames := 0, cells := 0, slots := 0, locals := 0 } : Room).cells ({ frames := 0, cells := 0, slots := 0, locals := 0 } : Room).slots) := by
  refine MetFree.of_bodySF (plainFor_of_name own_pn0) hisR ?_
  intro p e s m args below meth c s₁ Bd hml0 hP hK
  obtain ⟨rfl, hZ, hh⟩ := hP
  have hx := Bd.exec
  have hby := Bd.bytes
  have hml : c.maxLocals = 1 := hml0
  have hown : s.vm.findClass "com/example/holdfast/holdfast/PositionKind" = some m.cls := findClass_of_methodNamed Bd.named
  have hnm := (name_of_methodNamed Bd.named Bd.method).1
  have X0 : Stand p l e ({ frames := 0, cells := 0, slots := 0, locals := 0 } : Room) s m #[(.ref w_IBT_MARKET_EXCL)] below meth c s₁ [] 0 0 := Stand.of_body Bd
  have e0 : s₁.heap = h0 := by rw [← hh, Bd.state]; rfl
  have N0 := Fr.nil n0
  have pre0 : ∀ t, Steps p.tables e below (s₁.setTop (mkF m 0 #[rv w_IBT_MARKET_EXCL] [])) t → Steps p.tables e below (s₁.setTop (entryFrame m #[(.ref w_IBT_MARKET_EXCL)] 1)) t := fun t k => castTop (own_m_IBT_MARKET_EXCL_ef m w_IBT_MARKET_EXCL) k
  obtain ⟨T1, X1, e1, st1⟩ := getS2 X0 hx hZ hown (host := "") (Or.inl (hw _ (own_m 33 rfl))) Via.refl e0 (U_EXTERNAL_PURCHASE.1.ext O0.2) (g := (mkF m 1 #[rv w_IBT_MARKET_EXCL] [(.ref w_IBT_MARKET_EXCL)])) rfl (hb hby own_d1_1)
  obtain ⟨T2, X2, e2, st2⟩ := getS2 X1 hx hZ hown (host := "") (Or.inl (hw _ (own_m 34 rfl))) Via.refl e1 (U_EXTERNAL_SALE.1.ext O0.2) (g := (mkF m 8 #[rv w_IBT_MARKET_EXCL] [(.ref w_IBT_MARKET_EXCL)])) rfl (hb hby own_d1_8)
  obtain ⟨fs, hr, hrun, hended, hW, hsame⟩ := X2.leave (v := some (.int 0)) (fun h => by rw [Bd.returns] at h; cases h)
  refine ⟨_, _, pre0 _ ?_, hrun, hended, _, _, rfl, ?_, ⟨_, rfl⟩, hW, hsame.mono (by decide) (by decide)⟩
  · show Steps p.tables e below (s₁.setTop (mkF m 0 #[rv w_IBT_MARKET_EXCL] [])) _
    refine XS.aloadN X0.here hx rfl (hb hby own_d1_0) rfl rfl ?_
    show Steps p.tables e below (s₁.setTop (mkF m 1 #[rv w_IBT_MARKET_EXCL] [(.ref w_IBT_MARKET_EXCL)])) _
    refine st1 _ ?_
    show Steps p.tables e below (T1.setTop (mkF m 4 #[rv w_IBT_MARKET_EXCL] [(.ref w_EXTERNAL_PURCHASE), (.ref w_IBT_MARKET_EXCL)])) _
    refine Jvm.RoadKit.acmp (g := (mkF m 4 #[rv w_IBT_MARKET_EXCL] [(.ref w_EXTERNAL_PURCHASE), (.ref w_IBT_MARKET_EXCL)])) X1 hx rfl rfl rfl (pc0 := 4) (pc' := 7) (same := false) rfl (hb hby own_d1_4) rfl (decide_eq_false fun q => (Ne.symm (Fld.ne U_EXTERNAL_PURCHASE.2.2 U_IBT_MARKET_EXCL.2.2 (by decide))) (Value.ref.inj q)) (by decide) (by decide) ?_
    show Steps p.tables e below (T1.setTop (mkF m 7 #[rv w_IBT_MARKET_EXCL] [])) _
    refine XS.aloadN X1.here hx rfl (hb hby own_d1_7) rfl rfl ?_
    show Steps p.tables e below (T1.setTop (mkF m 8 #[rv w_IBT_MARKET_EXCL] [(.ref w_IBT_MARKET_EXCL)])) _
    refine st2 _ ?_
    show Steps p.tables e below (T2.setTop (mkF m 11 #[rv w_IBT_MARKET_EXCL] [(.ref w_EXTERNAL_SALE), (.ref w_IBT_MARKET_EXCL)])) _
    refine Jvm.RoadKit.acmp (g := (mkF m 11 #[rv w_IBT_MARKET_EXCL] [(.ref w_EXTERNAL_SALE), (.ref w_IBT_MARKET_EXCL)])) X2 hx rfl rfl rfl (pc0 := 11) (pc' := 18) (same := false) rfl (hb hby own_d1_11) rfl (decide_eq_false fun q => (Ne.symm (Fld.ne U_EXTERNAL_SALE.2.2 U_IBT_MARKET_EXCL.2.2 (by decide))) (Value.ref.inj q)) (by decide) (by decide) ?_
    show Steps p.tables e below (T2.setTop (mkF m 18 #[rv w_IBT_MARKET_EXCL] [])) _
    refine XS.iconst X2.here hx rfl (hb hby own_d1_18) ?_
    show Steps p.tables e below (T2.setTop (mkF m 19 #[rv w_IBT_MARKET_EXCL] [(.int 0)])) _
    exact retN X2 hx (t := .boolean) Bd.returns (by simp) (hb hby own_d1_19) hr
  · show own_m_IBT_MARKET_EXCL_Q Z w_DEMAND_BID w_DECREMENT_BID w_METERED_LOAD w_EXTERNAL_SALE w_IBT_LOAD w_SUPPLY_OFFER w_INCREMENT_OFFER w_METERED_GENERATION w_EXTERNAL_PURCHASE w_IBT_MARKET w_IBT_MARKET_EXCL w_WITHDRAWAL w_INJECTION w_EITHER h0 n0 _ T2.heap _
    rw [e2]
    exact ⟨rfl, N0, rfl⟩
theorem own_s_EXTERNAL_SALE_ef (m : MethodId) (w_EXTERNAL_SALE : Addr) : entryFrame m #[(.ref w_EXTERNAL_SALE)] 1 = mkF m 0 #[rv w_EXTERNAL_SALE] [] := by first | (simp [entryFrame, mkF, argsToLocals, Value.category]; done) | rfl
def own_s_EXTERNAL_SALE_Q (Z : State) (w_DEMAND_BID : Addr) (w_DECREMENT_BID : Addr) (w_METERED_LOAD : Addr) (w_EXTERNAL_SALE : Addr) (w_IBT_LOAD : Addr) (w_SUPPLY_OFFER : Addr) (w_INCREMENT_OFFER : Addr) (w_METERED_GENERATION : Addr) (w_EXTERNAL_PURCHASE : Addr) (w_IBT_MARKET : Addr) (w_IBT_MARKET_EXCL : Addr) (w_WITHDRAWAL : Addr) (w_INJECTION : Addr) (w_EITHER : Addr) (h0 : Heap) (n0 : Nat) (v : Option Value) (h : Heap) (L : List Loc) : Prop := v = some (.ref w_WITHDRAWAL) ∧ Fr n0 L ∧ h = h0
set_option maxRecDepth 65536 in
set_option maxHeartbeats 40000000 in
theorem own_s_EXTERNAL_SALE (l : Launch) (Z : State) (a0 : Array Value) (hw : ∀ d ∈ tables_1, d.before a0 Z = true) (ws : List Jvm.Cond) (w_DEMAND_BID : Addr) (w_DECREMENT_BID : Addr) (w_METERED_LOAD : Addr) (w_EXTERNAL_SALE : Addr) (w_IBT_LOAD : Addr) (w_SUPPLY_OFFER : Addr) (w_INCREMENT_OFFER : Addr) (w_METERED_GENERATION : Addr) (w_EXTERNAL_PURCHASE : Addr) (w_IBT_MARKET : Addr) (w_IBT_MARKET_EXCL : Addr) (w_WITHDRAWAL : Addr) (w_INJECTION : Addr) (w_EITHER : Addr) (h0 : Heap) (n0 : Nat) (O0 : Old Z n0 h0) (U_DEMAND_BID : own_En Z Z.heap "com/example/holdfast/holdfast/PositionKind" "DEMAND_BID" "Lcom/example/holdfast/holdfast/PositionKind;" w_DEMAND_BID (0 : Int32)) (U_DECREMENT_BID : own_En Z Z.heap "com/example/holdfast/holdfast/PositionKind" "DECREMENT_BID" "Lcom/example/holdfast/holdfast/PositionKind;" w_DECREMENT_BID (1 : Int32)) (U_METERED_LOAD : own_En Z Z.heap "com/example/holdfast/holdfast/PositionKind" "METERED_LOAD" "Lcom/example/holdfast/holdfast/PositionKind;" w_METERED_LOAD (2 : Int32)) (U_EXTERNAL_SALE : own_En Z Z.heap "com/example/holdfast/holdfast/PositionKind" "EXTERNAL_SALE" "Lcom/example/holdfast/holdfast/PositionKind;" w_EXTERNAL_SALE (3 : Int32)) (U_IBT_LOAD : own_En Z Z.heap "com/example/holdfast/holdfast/PositionKind" "IBT_LOAD" "Lcom/example/holdfast/holdfast/PositionKind;" w_IBT_LOAD (4 : Int32)) (U_SUPPLY_OFFER : own_En Z Z.heap "com/example/holdfast/holdfast/PositionKind" "SUPPLY_OFFER" "Lcom/example/holdfast/holdfast/PositionKind;" w_SUPPLY_OFFER (5 : Int32)) (U_INCREMENT_OFFER : own_En Z Z.heap "com/example/holdfast/holdfast/PositionKind" "INCREMENT_OFFER" "Lcom/example/holdfast/holdfast/PositionKind;" w_INCREMENT_OFFER (6 : Int32)) (U_METERED_GENERATION : own_En Z Z.heap "com/example/holdfast/holdfast/PositionKind" "METERED_GENERATION" "Lcom/example/holdfast/holdfast/PositionKind;" w_METERED_GENERATION (7 : Int32)) (U_EXTERNAL_PURCHASE : own_En Z Z.heap "com/example/holdfast/holdfast/PositionKind" "EXTERNAL_PURCHASE" "Lcom/example/holdfast/holdfast/PositionKind;" w_EXTERNAL_PURCHASE (8 : Int32)) (U_IBT_MARKET : own_En Z Z.heap "com/example/holdfast/holdfast/PositionKind" "IBT_MARKET" "Lcom/example/holdfast/holdfast/PositionKind;" w_IBT_MARKET (9 : Int32)) (U_IBT_MARKET_EXCL : own_En Z Z.heap "com/example/holdfast/holdfast/PositionKind" "IBT_MARKET_EXCL" "Lcom/example/holdfast/holdfast/PositionKind;" w_IBT_MARKET_EXCL (10 : Int32)) (U_WITHDRAWAL : own_En Z Z.heap "com/example/holdfast/holdfast/PositionKind$Sign" "WITHDRAWAL" "Lcom/example/holdfast/holdfast/PositionKind$Sign;" w_WITHDRAWAL (0 : Int32)) (U_INJECTION : own_En Z Z.heap "com/example/holdfast/holdfast/PositionKind$Sign" "INJECTION" "Lcom/example/holdfast/holdfast/PositionKind$Sign;" w_INJECTION (1 : Int32)) (U_EITHER : own_En Z Z.heap "com/example/holdfast/holdfast/PositionKind$Sign" "EITHER" "Lcom/example/holdfast/holdfast/PositionKind$Sign;" w_EITHER (2 : Int32)) (G_EXTERNAL_SALE : Fld Z Z.heap w_EXTERNAL_SALE "com/example/holdfast/holdfast/PositionKind" "sign" "Lcom/example/holdfast/holdfast/PositionKind$Sign;" (.ref w_WITHDRAWAL)) (G_EXTERNAL_PURCHASE : Fld Z Z.heap w_EXTERNAL_PURCHASE "com/example/holdfast/holdfast/PositionKind" "sign" "Lcom/example/holdfast/holdfast/PositionKind$Sign;" (.ref w_INJECTION)) :
    MetFree l (⟨"com/example/holdfast/holdfast/PositionKind", "sign", "()Lcom/example/holdfast/holdfast/PositionKind$Sign;"⟩ : MethodName) (head1 (Jvm.Cond.code (⟨"com/example/holdfast/holdfast/PositionKind", "sign", "()Lcom/example/holdfast/holdfast/PositionKind$Sign;"⟩ : MethodName) prog_23_method_5_code 1 (some (.object "com/example/holdfast/holdfast/PositionKind$Sign")) :: ws) ({ frames := 0, cells := 0, slots := 0, locals := 0 } : Room)) (fun ar U => ar = #[(.ref w_EXTERNAL_SALE)] ∧ Z.Warmed39 U.vm ∧ U.heap = h0) (fun _ _ _ _ _ => True) (fun _ U oc U' => ∃ v L, oc = .returned v ∧ own_s_EXTERNAL_SALE_Q Z w_DEMAND_BID w_DECREMENT_BID w_METERED_LOAD w_EXTERNAL_SALE w_IBT_LOAD w_SUPPLY_OFFER w_INCREMENT_OFFER w_METERED_GENERATION w_EXTERNAL_PURCHASE w_IBT_MARKET w_IBT_MARKET_EXCL w_WITHDRAWAL w_INJECTION w_EITHER h0 n0 v U'.heap L ∧ FrameEnd U oc U' L ({ frames := 0, cells := 0, slots := 0, locals := 0 } : Room).cells ({ frames := 0, cells := 0, slots := 0, locals := 0 } : Room).slots) := by
  refine MetFree.of_bodySF (plainFor_of_name own_pn0) hisR ?_
  intro p e s m args below meth c s₁ Bd hml0 hP hK
  obtain ⟨rfl, hZ, hh⟩ := hP
  have hx := Bd.exec
  have hby := Bd.bytes
  have hml : c.maxLocals = 1 := hml0
  have hown : s.vm.findClass "com/example/holdfast/holdfast/PositionKind" = some m.cls := findClass_of_methodNamed Bd.named
  have hnm := (name_of_methodNamed Bd.named Bd.method).1
  have X0 : Stand p l e ({ frames := 0, cells := 0, slots := 0, locals := 0 } : Room) s m #[(.ref w_EXTERNAL_SALE)] below meth c s₁ [] 0 0 := Stand.of_body Bd
  have e0 : s₁.heap = h0 := by rw [← hh, Bd.state]; rfl
  have N0 := Fr.nil n0
  have pre0 : ∀ t, Steps p.tables e below (s₁.setTop (mkF m 0 #[rv w_EXTERNAL_SALE] [])) t → Steps p.tables e below (s₁.setTop (entryFrame m #[(.ref w_EXTERNAL_SALE)] 1)) t := fun t k => castTop (own_s_EXTERNAL_SALE_ef m w_EXTERNAL_SALE) k
  obtain ⟨T1, X1, e1, st1⟩ := getF X0 hx hZ hown (host := "") (Or.inl (hw _ (own_m 40 rfl))) Via.refl e0 (G_EXTERNAL_SALE.ext O0.2) (g := (mkF m 1 #[rv w_EXTERNAL_SALE] [(.ref w_EXTERNAL_SALE)])) rfl rfl (hb hby own_d2_1)
  obtain ⟨fs, hr, hrun, hended, hW, hsame⟩ := X1.leave (v := some (.ref w_WITHDRAWAL)) (fun h => by rw [Bd.returns] at h; cases h)
  refine ⟨_, _, pre0 _ ?_, hrun, hended, _, _, rfl, ?_, ⟨_, rfl⟩, hW, hsame.mono (by decide) (by decide)⟩
  · show Steps p.tables e below (s₁.setTop (mkF m 0 #[rv w_EXTERNAL_SALE] [])) _
    refine XS.aloadN X0.here hx rfl (hb hby own_d2_0) rfl rfl ?_
    show Steps p.tables e below (s₁.setTop (mkF m 1 #[rv w_EXTERNAL_SALE] [(.ref w_EXTERNAL_SALE)])) _
    refine st1 _ ?_
    show Steps p.tables e below (T1.setTop (mkF m 4 #[rv w_EXTERNAL_SALE] [(.ref w_WITHDRAWAL)])) _
    jvm_step X1.here [X1.here.top, hx, (hb hby own_d2_4), X1.method', Bd.returns, Value.isRef, FieldType.isReference]
    first | (intro acts; rw [hr _ acts rfl rfl rfl]) | rw [hr _ _ rfl rfl rfl]
    exact Steps.refl _
  · show own_s_EXTERNAL_SALE_Q Z w_DEMAND_BID w_DECREMENT_BID w_METERED_LOAD w_EXTERNAL_SALE w_IBT_LOAD w_SUPPLY_OFFER w_INCREMENT_OFFER w_METERED_GENERATION w_EXTERNAL_PURCHASE w_IBT_MARKET w_IBT_MARKET_EXCL w_WITHDRAWAL w_INJECTION w_EITHER h0 n0 _ T1.heap _
    rw [e1]
    exact ⟨rfl, N0, rfl⟩
theorem own_s_EXTERNAL_PURCHASE_ef (m : MethodId) (w_EXTERNAL_PURCHASE : Addr) : entryFrame m #[(.ref w_EXTERNAL_PURCHASE)] 1 = mkF m 0 #[rv w_EXTERNAL_PURCHASE] [] := by first | (simp [entryFrame, mkF, argsToLocals, Value.category]; done) | rfl
def own_s_EXTERNAL_PURCHASE_Q (Z : State) (w_DEMAND_BID : Addr) (w_DECREMENT_BID : Addr) (w_METERED_LOAD : Addr) (w_EXTERNAL_SALE : Addr) (w_IBT_LOAD : Addr) (w_SUPPLY_OFFER : Addr) (w_INCREMENT_OFFER : Addr) (w_METERED_GENERATION : Addr) (w_EXTERNAL_PURCHASE : Addr) (w_IBT_MARKET : Addr) (w_IBT_MARKET_EXCL : Addr) (w_WITHDRAWAL : Addr) (w_INJECTION : Addr) (w_EITHER : Addr) (h0 : Heap) (n0 : Nat) (v : Option Value) (h : Heap) (L : List Loc) : Prop := v = some (.ref w_INJECTION) ∧ Fr n0 L ∧ h = h0
set_option maxRecDepth 65536 in
set_option maxHeartbeats 40000000 in
theorem own_s_EXTERNAL_PURCHASE (l : Launch) (Z : State) (a0 : Array Value) (hw : ∀ d ∈ tables_1, d.before a0 Z = true) (ws : List Jvm.Cond) (w_DEMAND_BID : Addr) (w_DECREMENT_BID : Addr) (w_METERED_LOAD : Addr) (w_EXTERNAL_SALE : Addr) (w_IBT_LOAD : Addr) (w_SUPPLY_OFFER : Addr) (w_INCREMENT_OFFER : Addr) (w_METERED_GENERATION : Addr) (w_EXTERNAL_PURCHASE : Addr) (w_IBT_MARKET : Addr) (w_IBT_MARKET_EXCL : Addr) (w_WITHDRAWAL : Addr) (w_INJECTION : Addr) (w_EITHER : Addr) (h0 : Heap) (n0 : Nat) (O0 : Old Z n0 h0) (U_DEMAND_BID : own_En Z Z.heap "com/example/holdfast/holdfast/PositionKind" "DEMAND_BID" "Lcom/example/holdfast/holdfast/PositionKind;" w_DEMAND_BID (0 : Int32)) (U_DECREMENT_BID : own_En Z Z.heap "com/example/holdfast/holdfast/PositionKind" "DECREMENT_BID" "Lcom/example/holdfast/holdfast/PositionKind;" w_DECREMENT_BID (1 : Int32)) (U_METERED_LOAD : own_En Z Z.heap "com/example/holdfast/holdfast/PositionKind" "METERED_LOAD" "Lcom/example/holdfast/holdfast/PositionKind;" w_METERED_LOAD (2 : Int32)) (U_EXTERNAL_SALE : own_En Z Z.heap "com/example/holdfast/holdfast/PositionKind" "EXTERNAL_SALE" "Lcom/example/holdfast/holdfast/PositionKind;" w_EXTERNAL_SALE (3 : Int32)) (U_IBT_LOAD : own_En Z Z.heap "com/example/holdfast/holdfast/PositionKind" "IBT_LOAD" "Lcom/example/holdfast/holdfast/PositionKind;" w_IBT_LOAD (4 : Int32)) (U_SUPPLY_OFFER : own_En Z Z.heap "com/example/holdfast/holdfast/PositionKind" "SUPPLY_OFFER" "Lcom/example/holdfast/holdfast/PositionKind;" w_SUPPLY_OFFER (5 : Int32)) (U_INCREMENT_OFFER : own_En Z Z.heap "com/example/holdfast/holdfast/PositionKind" "INCREMENT_OFFER" "Lcom/example/holdfast/holdfast/PositionKind;" w_INCREMENT_OFFER (6 : Int32)) (U_METERED_GENERATION : own_En Z Z.heap "com/example/holdfast/holdfast/PositionKind" "METERED_GENERATION" "Lcom/example/holdfast/holdfast/PositionKind;" w_METERED_GENERATION (7 : Int32)) (U_EXTERNAL_PURCHASE : own_En Z Z.heap "com/example/holdfast/holdfast/PositionKind" "EXTERNAL_PURCHASE" "Lcom/example/holdfast/holdfast/PositionKind;" w_EXTERNAL_PURCHASE (8 : Int32)) (U_IBT_MARKET : own_En Z Z.heap "com/example/holdfast/holdfast/PositionKind" "IBT_MARKET" "Lcom/example/holdfast/holdfast/PositionKind;" w_IBT_MARKET (9 : Int32)) (U_IBT_MARKET_EXCL : own_En Z Z.heap "com/example/holdfast/holdfast/PositionKind" "IBT_MARKET_EXCL" "Lcom/example/holdfast/holdfast/PositionKind;" w_IBT_MARKET_EXCL (10 : Int32)) (U_WITHDRAWAL : own_En Z Z.heap "com/example/holdfast/holdfast/PositionKind$Sign" "WITHDRAWAL" "Lcom/example/holdfast/holdfast/PositionKind$Sign;" w_WITHDRAWAL (0 : Int32)) (U_INJECTION : own_En Z Z.heap "com/example/holdfast/holdfast/PositionKind$Sign" "INJECTION" "Lcom/example/holdfast/holdfast/PositionKind$Sign;" w_INJECTION (1 : Int32)) (U_EITHER : own_En Z Z.heap "com/example/holdfast/holdfast/PositionKind$Sign" "EITHER" "Lcom/example/holdfast/holdfast/PositionKind$Sign;" w_EITHER (2 : Int32)) (G_EXTERNAL_SALE : Fld Z Z.heap w_EXTERNAL_SALE "com/example/holdfast/holdfast/PositionKind" "sign" "Lcom/example/holdfast/holdfast/PositionKind$Sign;" (.ref w_WITHDRAWAL)) (G_EXTERNAL_PURCHASE : Fld Z Z.heap w_EXTERNAL_PURCHASE "com/example/holdfast/holdfast/PositionKind" "sign" "Lcom/example/holdfast/holdfast/PositionKind$Sign;" (.ref w_INJECTION)) :
    MetFree l (⟨"com/example/holdfast/holdfast/PositionKind", "sign", "()Lcom/example/holdfast/holdfast/PositionKind$Sign;"⟩ : MethodName) (head1 (Jvm.Cond.code (⟨"com/example/holdfast/holdfast/PositionKind", "sign", "()Lcom/example/holdfast/holdfast/PositionKind$Sign;"⟩ : MethodName) prog_23_method_5_code 1 (some (.object "com/example/holdfast/holdfast/PositionKind$Sign")) :: ws) ({ frames := 0, cells := 0, slots := 0, locals := 0 } : Room)) (fun ar U => ar = #[(.ref w_EXTERNAL_PURCHASE)] ∧ Z.Warmed39 U.vm ∧ U.heap = h0) (fun _ _ _ _ _ => True) (fun _ U oc U' => ∃ v L, oc = .returned v ∧ own_s_EXTERNAL_PURCHASE_Q Z w_DEMAND_BID w_DECREMENT_BID w_METERED_LOAD w_EXTERNAL_SALE w_IBT_LOAD w_SUPPLY_OFFER w_INCREMENT_OFFER w_METERED_GENERATION w_EXTERNAL_PURCHASE w_IBT_MARKET w_IBT_MARKET_EXCL w_WITHDRAWAL w_INJECTION w_EITHER h0 n0 v U'.heap L ∧ FrameEnd U oc U' L ({ frames := 0, cells := 0, slots := 0, locals := 0 } : Room).cells ({ frames := 0, cells := 0, slots := 0, locals := 0 } : Room).slots) := by
  refine MetFree.of_bodySF (plainFor_of_name own_pn0) hisR ?_
  intro p e s m args below meth c s₁ Bd hml0 hP hK
  obtain ⟨rfl, hZ, hh⟩ := hP
  have hx := Bd.exec
  have hby := Bd.bytes
  have hml : c.maxLocals = 1 := hml0
  have hown : s.vm.findClass "com/example/holdfast/holdfast/PositionKind" = some m.cls := findClass_of_methodNamed Bd.named
  have hnm := (name_of_methodNamed Bd.named Bd.method).1
  have X0 : Stand p l e ({ frames := 0, cells := 0, slots := 0, locals := 0 } : Room) s m #[(.ref w_EXTERNAL_PURCHASE)] below meth c s₁ [] 0 0 := Stand.of_body Bd
  have e0 : s₁.heap = h0 := by rw [← hh, Bd.state]; rfl
  have N0 := Fr.nil n0
  have pre0 : ∀ t, Steps p.tables e below (s₁.setTop (mkF m 0 #[rv w_EXTERNAL_PURCHASE] [])) t → Steps p.tables e below (s₁.setTop (entryFrame m #[(.ref w_EXTERNAL_PURCHASE)] 1)) t := fun t k => castTop (own_s_EXTERNAL_PURCHASE_ef m w_EXTERNAL_PURCHASE) k
  obtain ⟨T1, X1, e1, st1⟩ := getF X0 hx hZ hown (host := "") (Or.inl (hw _ (own_m 40 rfl))) Via.refl e0 (G_EXTERNAL_PURCHASE.ext O0.2) (g := (mkF m 1 #[rv w_EXTERNAL_PURCHASE] [(.ref w_EXTERNAL_PURCHASE)])) rfl rfl (hb hby own_d2_1)
  obtain ⟨fs, hr, hrun, hended, hW, hsame⟩ := X1.leave (v := some (.ref w_INJECTION)) (fun h => by rw [Bd.returns] at h; cases h)
  refine ⟨_, _, pre0 _ ?_, hrun, hended, _, _, rfl, ?_, ⟨_, rfl⟩, hW, hsame.mono (by decide) (by decide)⟩
  · show Steps p.tables e below (s₁.setTop (mkF m 0 #[rv w_EXTERNAL_PURCHASE] [])) _
    refine XS.aloadN X0.here hx rfl (hb hby own_d2_0) rfl rfl ?_
    show Steps p.tables e below (s₁.setTop (mkF m 1 #[rv w_EXTERNAL_PURCHASE] [(.ref w_EXTERNAL_PURCHASE)])) _
    refine st1 _ ?_
    show Steps p.tables e below (T1.setTop (mkF m 4 #[rv w_EXTERNAL_PURCHASE] [(.ref w_INJECTION)])) _
    jvm_step X1.here [X1.here.top, hx, (hb hby own_d2_4), X1.method', Bd.returns, Value.isRef, FieldType.isReference]
    first | (intro acts; rw [hr _ acts rfl rfl rfl]) | rw [hr _ _ rfl rfl rfl]
    exact Steps.refl _
  · show own_s_EXTERNAL_PURCHASE_Q Z w_DEMAND_BID w_DECREMENT_BID w_METERED_LOAD w_EXTERNAL_SALE w_IBT_LOAD w_SUPPLY_OFFER w_INCREMENT_OFFER w_METERED_GENERATION w_EXTERNAL_PURCHASE w_IBT_MARKET w_IBT_MARKET_EXCL w_WITHDRAWAL w_INJECTION w_EITHER h0 n0 _ T1.heap _
    rw [e1]
    exact ⟨rfl, N0, rfl⟩
theorem own_law_ef (m : MethodId) (p0 : Int32) : entryFrame m #[(.int p0)] maxLocals = mkF m 0 #[iv p0, .unset, .unset, .unset, .unset, .unset] [] := by first | (simp [entryFrame, mkF, argsToLocals, Value.category, maxLocals]; done) | rfl
def own_law_Q (Z : State) (w_DEMAND_BID : Addr) (w_DECREMENT_BID : Addr) (w_METERED_LOAD : Addr) (w_EXTERNAL_SALE : Addr) (w_IBT_LOAD : Addr) (w_SUPPLY_OFFER : Addr) (w_INCREMENT_OFFER : Addr) (w_METERED_GENERATION : Addr) (w_EXTERNAL_PURCHASE : Addr) (w_IBT_MARKET : Addr) (w_IBT_MARKET_EXCL : Addr) (w_WITHDRAWAL : Addr) (w_INJECTION : Addr) (w_EITHER : Addr) (p0 : Int32) (h0 : Heap) (n0 : Nat) (v : Option Value) (h : Heap) (L : List Loc) : Prop := v = some (.int 1) ∧ Fr n0 L
set_option maxRecDepth 65536 in
set_option maxHeartbeats 40000000 in
theorem own_law (l : Launch) (Z : State) (a0 : Array Value) (hw : ∀ d ∈ tables_1, d.before a0 Z = true) (ws : List Jvm.Cond) (w_DEMAND_BID : Addr) (w_DECREMENT_BID : Addr) (w_METERED_LOAD : Addr) (w_EXTERNAL_SALE : Addr) (w_IBT_LOAD : Addr) (w_SUPPLY_OFFER : Addr) (w_INCREMENT_OFFER : Addr) (w_METERED_GENERATION : Addr) (w_EXTERNAL_PURCHASE : Addr) (w_IBT_MARKET : Addr) (w_IBT_MARKET_EXCL : Addr) (w_WITHDRAWAL : Addr) (w_INJECTION : Addr) (w_EITHER : Addr) (p0 : Int32) (h0 : Heap) (n0 : Nat) (O0 : Old Z n0 h0) (U_DEMAND_BID : own_En Z Z.heap "com/example/holdfast/holdfast/PositionKind" "DEMAND_BID" "Lcom/example/holdfast/holdfast/PositionKind;" w_DEMAND_BID (0 : Int32)) (U_DECREMENT_BID : own_En Z Z.heap "com/example/holdfast/holdfast/PositionKind" "DECREMENT_BID" "Lcom/example/holdfast/holdfast/PositionKind;" w_DECREMENT_BID (1 : Int32)) (U_METERED_LOAD : own_En Z Z.heap "com/example/holdfast/holdfast/PositionKind" "METERED_LOAD" "Lcom/example/holdfast/holdfast/PositionKind;" w_METERED_LOAD (2 : Int32)) (U_EXTERNAL_SALE : own_En Z Z.heap "com/example/holdfast/holdfast/PositionKind" "EXTERNAL_SALE" "Lcom/example/holdfast/holdfast/PositionKind;" w_EXTERNAL_SALE (3 : Int32)) (U_IBT_LOAD : own_En Z Z.heap "com/example/holdfast/holdfast/PositionKind" "IBT_LOAD" "Lcom/example/holdfast/holdfast/PositionKind;" w_IBT_LOAD (4 : Int32)) (U_SUPPLY_OFFER : own_En Z Z.heap "com/example/holdfast/holdfast/PositionKind" "SUPPLY_OFFER" "Lcom/example/holdfast/holdfast/PositionKind;" w_SUPPLY_OFFER (5 : Int32)) (U_INCREMENT_OFFER : own_En Z Z.heap "com/example/holdfast/holdfast/PositionKind" "INCREMENT_OFFER" "Lcom/example/holdfast/holdfast/PositionKind;" w_INCREMENT_OFFER (6 : Int32)) (U_METERED_GENERATION : own_En Z Z.heap "com/example/holdfast/holdfast/PositionKind" "METERED_GENERATION" "Lcom/example/holdfast/holdfast/PositionKind;" w_METERED_GENERATION (7 : Int32)) (U_EXTERNAL_PURCHASE : own_En Z Z.heap "com/example/holdfast/holdfast/PositionKind" "EXTERNAL_PURCHASE" "Lcom/example/holdfast/holdfast/PositionKind;" w_EXTERNAL_PURCHASE (8 : Int32)) (U_IBT_MARKET : own_En Z Z.heap "com/example/holdfast/holdfast/PositionKind" "IBT_MARKET" "Lcom/example/holdfast/holdfast/PositionKind;" w_IBT_MARKET (9 : Int32)) (U_IBT_MARKET_EXCL : own_En Z Z.heap "com/example/holdfast/holdfast/PositionKind" "IBT_MARKET_EXCL" "Lcom/example/holdfast/holdfast/PositionKind;" w_IBT_MARKET_EXCL (10 : Int32)) (U_WITHDRAWAL : own_En Z Z.heap "com/example/holdfast/holdfast/PositionKind$Sign" "WITHDRAWAL" "Lcom/example/holdfast/holdfast/PositionKind$Sign;" w_WITHDRAWAL (0 : Int32)) (U_INJECTION : own_En Z Z.heap "com/example/holdfast/holdfast/PositionKind$Sign" "INJECTION" "Lcom/example/holdfast/holdfast/PositionKind$Sign;" w_INJECTION (1 : Int32)) (U_EITHER : own_En Z Z.heap "com/example/holdfast/holdfast/PositionKind$Sign" "EITHER" "Lcom/example/holdfast/holdfast/PositionKind$Sign;" w_EITHER (2 : Int32)) (G_EXTERNAL_SALE : Fld Z Z.heap w_EXTERNAL_SALE "com/example/holdfast/holdfast/PositionKind" "sign" "Lcom/example/holdfast/holdfast/PositionKind$Sign;" (.ref w_WITHDRAWAL)) (G_EXTERNAL_PURCHASE : Fld Z Z.heap w_EXTERNAL_PURCHASE "com/example/holdfast/holdfast/PositionKind" "sign" "Lcom/example/holdfast/holdfast/PositionKind$Sign;" (.ref w_INJECTION)) :
    MetFree l x (head1 (Jvm.Cond.code x code maxLocals ret :: ws) room_1) (fun ar U => ar = #[(.int p0)] ∧ Z.Warmed39 U.vm ∧ U.heap = h0) (fun _ _ _ _ _ => True) (fun _ U oc U' => ∃ v L, oc = .returned v ∧ own_law_Q Z w_DEMAND_BID w_DECREMENT_BID w_METERED_LOAD w_EXTERNAL_SALE w_IBT_LOAD w_SUPPLY_OFFER w_INCREMENT_OFFER w_METERED_GENERATION w_EXTERNAL_PURCHASE w_IBT_MARKET w_IBT_MARKET_EXCL w_WITHDRAWAL w_INJECTION w_EITHER p0 h0 n0 v U'.heap L ∧ FrameEnd U oc U' L 16 128) := by
  refine MetFree.of_bodySF (plainFor_of_name own_pn1) hisR ?_
  intro p e s m args below meth c s₁ Bd hml0 hP hK
  obtain ⟨rfl, hZ, hh⟩ := hP
  have hx := Bd.exec
  have hby := Bd.bytes
  have hml : c.maxLocals = 6 := hml0
  have hown : s.vm.findClass "com/example/holdfast/holdfast/PositionKindCrossesBorderPinLaw" = some m.cls := findClass_of_methodNamed Bd.named
  have hnm := (name_of_methodNamed Bd.named Bd.method).1
  have X0 : Stand p l e room_1 s m #[(.int p0)] below meth c s₁ [] 0 0 := Stand.of_body Bd
  have e0 : s₁.heap = h0 := by rw [← hh, Bd.state]; rfl
  have N0 := Fr.nil n0
  have pre0 : ∀ t, Steps p.tables e below (s₁.setTop (mkF m 0 #[iv p0, .unset, .unset, .unset, .unset, .unset] [])) t → Steps p.tables e below (s₁.setTop (entryFrame m #[(.int p0)] maxLocals)) t := fun t k => castTop (own_law_ef m p0) k
  obtain ⟨T1, h1, k1, X1, e1, E1, A1, O1, st1⟩ := newR X0 hx hZ hown (hw _ (own_m 0 rfl)) (hw _ (own_m 1 rfl)) e0 (g := (mkF m 2 #[iv p0, .unset, .unset, .unset, .unset, .unset] [(.int 11)])) rfl (hb hby at_2) rfl (by decide) (cap := 11) (by decide) (by decide) (by decide) (by decide)
  obtain ⟨b1, g1⟩ : ∃ z, z = h0.size := ⟨_, rfl⟩
  rw [← g1] at A1  st1
  have gg_b1 : n0 ≤ b1 := g1 ▸ own_le O0
  have O2 := O0.ext E1
  have V_b1 : Arv Z h1 b1 k1 (.object "com/example/holdfast/holdfast/PositionKind") (11 : Int32) [.null, .null, .null, .null, .null, .null, .null, .null, .null, .null, .null] .null := (Arv.new A1 (by decide)).pad (pad_rep [] .null 11)
  obtain ⟨T3, X3, e3, st3⟩ := getS2 X1 hx hZ hown (host := "") (Or.inl (hw _ (own_m 2 rfl))) Via.refl e1 (U_DEMAND_BID.1.ext O2.2) (g := (mkF m 7 #[iv p0, .unset, .unset, .unset, .unset, .unset] [(.int 0), (.ref b1), (.ref b1)])) rfl (hb hby at_7)
  obtain ⟨c4, c4A, c4q, c4S, c4N, c4H, c4G⟩ := id V_b1
  have c4in : ¬ ((0 : Int32) < 0 ∨ c4.slots.size ≤ ((0 : Int32)).toNatClampNeg) := inb_of c4S ⟨by decide, by decide⟩
  obtain ⟨T5, h5, X5, e5, W5, st5⟩ := stR X3 hx hZ e3 c4A (j := (0 : Int32)) c4in rfl (Sto.ofV c4A c4q O1 (Ins.self (U_DEMAND_BID.2.1.ext O2.2))) (g := (mkF m 10 #[iv p0, .unset, .unset, .unset, .unset, .unset] [(.ref w_DEMAND_BID), (.int 0), (.ref b1), (.ref b1)])) rfl rfl (hb hby at_10)
  have V5 : Arv Z h5 b1 k1 (.object "com/example/holdfast/holdfast/PositionKind") (11 : Int32) [(.ref w_DEMAND_BID), .null, .null, .null, .null, .null, .null, .null, .null, .null, .null] .null := Arv.set c4A c4q c4S c4N c4H c4G rfl W5 0 rfl (Nat.le_of_ble_eq_true rfl)
  have O6 := O2.wr W5 gg_b1
  have N5 := Fr.snoc X5 N0 gg_b1
  obtain ⟨T7, X7, e7, st7⟩ := getS2 X5 hx hZ hown (host := "") (Or.inl (hw _ (own_m 6 rfl))) Via.refl e5 (U_DECREMENT_BID.1.ext O6.2) (g := (mkF m 13 #[iv p0, .unset, .unset, .unset, .unset, .unset] [(.int 1), (.ref b1), (.ref b1)])) rfl (hb hby at_13)
  obtain ⟨c8, c8A, c8q, c8S, c8N, c8H, c8G⟩ := id V5
  have c8in : ¬ ((1 : Int32) < 0 ∨ c8.slots.size ≤ ((1 : Int32)).toNatClampNeg) := inb_of c8S ⟨by decide, by decide⟩
  obtain ⟨T9, h9, X9, e9, W9, st9⟩ := stR X7 hx hZ e7 c8A (j := (1 : Int32)) c8in rfl (Sto.ofV c8A c8q O1 (Ins.self (U_DECREMENT_BID.2.1.ext O6.2))) (g := (mkF m 16 #[iv p0, .unset, .unset, .unset, .unset, .unset] [(.ref w_DECREMENT_BID), (.int 1), (.ref b1), (.ref b1)])) rfl rfl (hb hby at_16)
  have V9 : Arv Z h9 b1 k1 (.object "com/example/holdfast/holdfast/PositionKind") (11 : Int32) [(.ref w_DEMAND_BID), (.ref w_DECREMENT_BID), .null, .null, .null, .null, .null, .null, .null, .null, .null] .null := Arv.set c8A c8q c8S c8N c8H c8G rfl W9 1 rfl (Nat.le_of_ble_eq_true rfl)
  have O10 := O6.wr W9 gg_b1
  have N9 := Fr.snoc X9 N5 gg_b1
  obtain ⟨T11, X11, e11, st11⟩ := getS2 X9 hx hZ hown (host := "") (Or.inl (hw _ (own_m 8 rfl))) Via.refl e9 (U_METERED_LOAD.1.ext O10.2) (g := (mkF m 19 #[iv p0, .unset, .unset, .unset, .unset, .unset] [(.int 2), (.ref b1), (.ref b1)])) rfl (hb hby at_19)
  obtain ⟨c12, c12A, c12q, c12S, c12N, c12H, c12G⟩ := id V9
  have c12in : ¬ ((2 : Int32) < 0 ∨ c12.slots.size ≤ ((2 : Int32)).toNatClampNeg) := inb_of c12S ⟨by decide, by decide⟩
  obtain ⟨T13, h13, X13, e13, W13, st13⟩ := stR X11 hx hZ e11 c12A (j := (2 : Int32)) c12in rfl (Sto.ofV c12A c12q O1 (Ins.self (U_METERED_LOAD.2.1.ext O10.2))) (g := (mkF m 22 #[iv p0, .unset, .unset, .unset, .unset, .unset] [(.ref w_METERED_LOAD), (.int 2), (.ref b1), (.ref b1)])) rfl rfl (hb hby at_22)
  have V13 : Arv Z h13 b1 k1 (.object "com/example/holdfast/holdfast/PositionKind") (11 : Int32) [(.ref w_DEMAND_BID), (.ref w_DECREMENT_BID), (.ref w_METERED_LOAD), .null, .null, .null, .null, .null, .null, .null, .null] .null := Arv.set c12A c12q c12S c12N c12H c12G rfl W13 2 rfl (Nat.le_of_ble_eq_true rfl)
  have O14 := O10.wr W13 gg_b1
  have N13 := Fr.snoc X13 N9 gg_b1
  obtain ⟨T15, X15, e15, st15⟩ := getS2 X13 hx hZ hown (host := "") (Or.inl (hw _ (own_m 10 rfl))) Via.refl e13 (U_EXTERNAL_SALE.1.ext O14.2) (g := (mkF m 25 #[iv p0, .unset, .unset, .unset, .unset, .unset] [(.int 3), (.ref b1), (.ref b1)])) rfl (hb hby at_25)
  obtain ⟨c16, c16A, c16q, c16S, c16N, c16H, c16G⟩ := id V13
  have c16in : ¬ ((3 : Int32) < 0 ∨ c16.slots.size ≤ ((3 : Int32)).toNatClampNeg) := inb_of c16S ⟨by decide, by decide⟩
  obtain ⟨T17, h17, X17, e17, W17, st17⟩ := stR X15 hx hZ e15 c16A (j := (3 : Int32)) c16in rfl (Sto.ofV c16A c16q O1 (Ins.self (U_EXTERNAL_SALE.2.1.ext O14.2))) (g := (mkF m 28 #[iv p0, .unset, .unset, .unset, .unset, .unset] [(.ref w_EXTERNAL_SALE), (.int 3), (.ref b1), (.ref b1)])) rfl rfl (hb hby at_28)
  have V17 : Arv Z h17 b1 k1 (.object "com/example/holdfast/holdfast/PositionKind") (11 : Int32) [(.ref w_DEMAND_BID), (.ref w_DECREMENT_BID), (.ref w_METERED_LOAD), (.ref w_EXTERNAL_SALE), .null, .null, .null, .null, .null, .null, .null] .null := Arv.set c16A c16q c16S c16N c16H c16G rfl W17 3 rfl (Nat.le_of_ble_eq_true rfl)
  have O18 := O14.wr W17 gg_b1
  have N17 := Fr.snoc X17 N13 gg_b1
  obtain ⟨T19, X19, e19, st19⟩ := getS2 X17 hx hZ hown (host := "") (Or.inl (hw _ (own_m 12 rfl))) Via.refl e17 (U_IBT_LOAD.1.ext O18.2) (g := (mkF m 31 #[iv p0, .unset, .unset, .unset, .unset, .unset] [(.int 4), (.ref b1), (.ref b1)])) rfl (hb hby at_31)
  obtain ⟨c20, c20A, c20q, c20S, c20N, c20H, c20G⟩ := id V17
  have c20in : ¬ ((4 : Int32) < 0 ∨ c20.slots.size ≤ ((4 : Int32)).toNatClampNeg) := inb_of c20S ⟨by decide, by decide⟩
  obtain ⟨T21, h21, X21, e21, W21, st21⟩ := stR X19 hx hZ e19 c20A (j := (4 : Int32)) c20in rfl (Sto.ofV c20A c20q O1 (Ins.self (U_IBT_LOAD.2.1.ext O18.2))) (g := (mkF m 34 #[iv p0, .unset, .unset, .unset, .unset, .unset] [(.ref w_IBT_LOAD), (.int 4), (.ref b1), (.ref b1)])) rfl rfl (hb hby at_34)
  have V21 : Arv Z h21 b1 k1 (.object "com/example/holdfast/holdfast/PositionKind") (11 : Int32) [(.ref w_DEMAND_BID), (.ref w_DECREMENT_BID), (.ref w_METERED_LOAD), (.ref w_EXTERNAL_SALE), (.ref w_IBT_LOAD), .null, .null, .null, .null, .null, .null] .null := Arv.set c20A c20q c20S c20N c20H c20G rfl W21 4 rfl (Nat.le_of_ble_eq_true rfl)
  have O22 := O18.wr W21 gg_b1
  have N21 := Fr.snoc X21 N17 gg_b1
  obtain ⟨T23, X23, e23, st23⟩ := getS2 X21 hx hZ hown (host := "") (Or.inl (hw _ (own_m 14 rfl))) Via.refl e21 (U_SUPPLY_OFFER.1.ext O22.2) (g := (mkF m 37 #[iv p0, .unset, .unset, .unset, .unset, .unset] [(.int 5), (.ref b1), (.ref b1)])) rfl (hb hby at_37)
  obtain ⟨c24, c24A, c24q, c24S, c24N, c24H, c24G⟩ := id V21
  have c24in : ¬ ((5 : Int32) < 0 ∨ c24.slots.size ≤ ((5 : Int32)).toNatClampNeg) := inb_of c24S ⟨by decide, by decide⟩
  obtain ⟨T25, h25, X25, e25, W25, st25⟩ := stR X23 hx hZ e23 c24A (j := (5 : Int32)) c24in rfl (Sto.ofV c24A c24q O1 (Ins.self (U_SUPPLY_OFFER.2.1.ext O22.2))) (g := (mkF m 40 #[iv p0, .unset, .unset, .unset, .unset, .unset] [(.ref w_SUPPLY_OFFER), (.int 5), (.ref b1), (.ref b1)])) rfl rfl (hb hby at_40)
  have V25 : Arv Z h25 b1 k1 (.object "com/example/holdfast/holdfast/PositionKind") (11 : Int32) [(.ref w_DEMAND_BID), (.ref w_DECREMENT_BID), (.ref w_METERED_LOAD), (.ref w_EXTERNAL_SALE), (.ref w_IBT_LOAD), (.ref w_SUPPLY_OFFER), .null, .null, .null, .null, .null] .null := Arv.set c24A c24q c24S c24N c24H c24G rfl W25 5 rfl (Nat.le_of_ble_eq_true rfl)
  have O26 := O22.wr W25 gg_b1
  have N25 := Fr.snoc X25 N21 gg_b1
  obtain ⟨T27, X27, e27, st27⟩ := getS2 X25 hx hZ hown (host := "") (Or.inl (hw _ (own_m 16 rfl))) Via.refl e25 (U_INCREMENT_OFFER.1.ext O26.2) (g := (mkF m 44 #[iv p0, .unset, .unset, .unset, .unset, .unset] [(.int 6), (.ref b1), (.ref b1)])) rfl (hb hby at_44)
  obtain ⟨c28, c28A, c28q, c28S, c28N, c28H, c28G⟩ := id V25
  have c28in : ¬ ((6 : Int32) < 0 ∨ c28.slots.size ≤ ((6 : Int32)).toNatClampNeg) := inb_of c28S ⟨by decide, by decide⟩
  obtain ⟨T29, h29, X29, e29, W29, st29⟩ := stR X27 hx hZ e27 c28A (j := (6 : Int32)) c28in rfl (Sto.ofV c28A c28q O1 (Ins.self (U_INCREMENT_OFFER.2.1.ext O26.2))) (g := (mkF m 47 #[iv p0, .unset, .unset, .unset, .unset, .unset] [(.ref w_INCREMENT_OFFER), (.int 6), (.ref b1), (.ref b1)])) rfl rfl (hb hby at_47)
  have V29 : Arv Z h29 b1 k1 (.object "com/example/holdfast/holdfast/PositionKind") (11 : Int32) [(.ref w_DEMAND_BID), (.ref w_DECREMENT_BID), (.ref w_METERED_LOAD), (.ref w_EXTERNAL_SALE), (.ref w_IBT_LOAD), (.ref w_SUPPLY_OFFER), (.ref w_INCREMENT_OFFER), .null, .null, .null, .null] .null := Arv.set c28A c28q c28S c28N c28H c28G rfl W29 6 rfl (Nat.le_of_ble_eq_true rfl)
  have O30 := O26.wr W29 gg_b1
  have N29 := Fr.snoc X29 N25 gg_b1
  obtain ⟨T31, X31, e31, st31⟩ := getS2 X29 hx hZ hown (host := "") (Or.inl (hw _ (own_m 18 rfl))) Via.refl e29 (U_METERED_GENERATION.1.ext O30.2) (g := (mkF m 51 #[iv p0, .unset, .unset, .unset, .unset, .unset] [(.int 7), (.ref b1), (.ref b1)])) rfl (hb hby at_51)
  obtain ⟨c32, c32A, c32q, c32S, c32N, c32H, c32G⟩ := id V29
  have c32in : ¬ ((7 : Int32) < 0 ∨ c32.slots.size ≤ ((7 : Int32)).toNatClampNeg) := inb_of c32S ⟨by decide, by decide⟩
  obtain ⟨T33, h33, X33, e33, W33, st33⟩ := stR X31 hx hZ e31 c32A (j := (7 : Int32)) c32in rfl (Sto.ofV c32A c32q O1 (Ins.self (U_METERED_GENERATION.2.1.ext O30.2))) (g := (mkF m 54 #[iv p0, .unset, .unset, .unset, .unset, .unset] [(.ref w_METERED_GENERATION), (.int 7), (.ref b1), (.ref b1)])) rfl rfl (hb hby at_54)
  have V33 : Arv Z h33 b1 k1 (.object "com/example/holdfast/holdfast/PositionKind") (11 : Int32) [(.ref w_DEMAND_BID), (.ref w_DECREMENT_BID), (.ref w_METERED_LOAD), (.ref w_EXTERNAL_SALE), (.ref w_IBT_LOAD), (.ref w_SUPPLY_OFFER), (.ref w_INCREMENT_OFFER), (.ref w_METERED_GENERATION), .null, .null, .null] .null := Arv.set c32A c32q c32S c32N c32H c32G rfl W33 7 rfl (Nat.le_of_ble_eq_true rfl)
  have O34 := O30.wr W33 gg_b1
  have N33 := Fr.snoc X33 N29 gg_b1
  obtain ⟨T35, X35, e35, st35⟩ := getS2 X33 hx hZ hown (host := "") (Or.inl (hw _ (own_m 20 rfl))) Via.refl e33 (U_EXTERNAL_PURCHASE.1.ext O34.2) (g := (mkF m 58 #[iv p0, .unset, .unset, .unset, .unset, .unset] [(.int 8), (.ref b1), (.ref b1)])) rfl (hb hby at_58)
  obtain ⟨c36, c36A, c36q, c36S, c36N, c36H, c36G⟩ := id V33
  have c36in : ¬ ((8 : Int32) < 0 ∨ c36.slots.size ≤ ((8 : Int32)).toNatClampNeg) := inb_of c36S ⟨by decide, by decide⟩
  obtain ⟨T37, h37, X37, e37, W37, st37⟩ := stR X35 hx hZ e35 c36A (j := (8 : Int32)) c36in rfl (Sto.ofV c36A c36q O1 (Ins.self (U_EXTERNAL_PURCHASE.2.1.ext O34.2))) (g := (mkF m 61 #[iv p0, .unset, .unset, .unset, .unset, .unset] [(.ref w_EXTERNAL_PURCHASE), (.int 8), (.ref b1), (.ref b1)])) rfl rfl (hb hby at_61)
  have V37 : Arv Z h37 b1 k1 (.object "com/example/holdfast/holdfast/PositionKind") (11 : Int32) [(.ref w_DEMAND_BID), (.ref w_DECREMENT_BID), (.ref w_METERED_LOAD), (.ref w_EXTERNAL_SALE), (.ref w_IBT_LOAD), (.ref w_SUPPLY_OFFER), (.ref w_INCREMENT_OFFER), (.ref w_METERED_GENERATION), (.ref w_EXTERNAL_PURCHASE), .null, .null] .null := Arv.set c36A c36q c36S c36N c36H c36G rfl W37 8 rfl (Nat.le_of_ble_eq_true rfl)
  have O38 := O34.wr W37 gg_b1
  have N37 := Fr.snoc X37 N33 gg_b1
  obtain ⟨T39, X39, e39, st39⟩ := getS2 X37 hx hZ hown (host := "") (Or.inl (hw _ (own_m 22 rfl))) Via.refl e37 (U_IBT_MARKET.1.ext O38.2) (g := (mkF m 65 #[iv p0, .unset, .unset, .unset, .unset, .unset] [(.int 9), (.ref b1), (.ref b1)])) rfl (hb hby at_65)
  obtain ⟨c40, c40A, c40q, c40S, c40N, c40H, c40G⟩ := id V37
  have c40in : ¬ ((9 : Int32) < 0 ∨ c40.slots.size ≤ ((9 : Int32)).toNatClampNeg) := inb_of c40S ⟨by decide, by decide⟩
  obtain ⟨T41, h41, X41, e41, W41, st41⟩ := stR X39 hx hZ e39 c40A (j := (9 : Int32)) c40in rfl (Sto.ofV c40A c40q O1 (Ins.self (U_IBT_MARKET.2.1.ext O38.2))) (g := (mkF m 68 #[iv p0, .unset, .unset, .unset, .unset, .unset] [(.ref w_IBT_MARKET), (.int 9), (.ref b1), (.ref b1)])) rfl rfl (hb hby at_68)
  have V41 : Arv Z h41 b1 k1 (.object "com/example/holdfast/holdfast/PositionKind") (11 : Int32) [(.ref w_DEMAND_BID), (.ref w_DECREMENT_BID), (.ref w_METERED_LOAD), (.ref w_EXTERNAL_SALE), (.ref w_IBT_LOAD), (.ref w_SUPPLY_OFFER), (.ref w_INCREMENT_OFFER), (.ref w_METERED_GENERATION), (.ref w_EXTERNAL_PURCHASE), (.ref w_IBT_MARKET), .null] .null := Arv.set c40A c40q c40S c40N c40H c40G rfl W41 9 rfl (Nat.le_of_ble_eq_true rfl)
  have O42 := O38.wr W41 gg_b1
  have N41 := Fr.snoc X41 N37 gg_b1
  obtain ⟨T43, X43, e43, st43⟩ := getS2 X41 hx hZ hown (host := "") (Or.inl (hw _ (own_m 24 rfl))) Via.refl e41 (U_IBT_MARKET_EXCL.1.ext O42.2) (g := (mkF m 72 #[iv p0, .unset, .unset, .unset, .unset, .unset] [(.int 10), (.ref b1), (.ref b1)])) rfl (hb hby at_72)
  obtain ⟨c44, c44A, c44q, c44S, c44N, c44H, c44G⟩ := id V41
  have c44in : ¬ ((10 : Int32) < 0 ∨ c44.slots.size ≤ ((10 : Int32)).toNatClampNeg) := inb_of c44S ⟨by decide, by decide⟩
  obtain ⟨T45, h45, X45, e45, W45, st45⟩ := stR X43 hx hZ e43 c44A (j := (10 : Int32)) c44in rfl (Sto.ofV c44A c44q O1 (Ins.self (U_IBT_MARKET_EXCL.2.1.ext O42.2))) (g := (mkF m 75 #[iv p0, .unset, .unset, .unset, .unset, .unset] [(.ref w_IBT_MARKET_EXCL), (.int 10), (.ref b1), (.ref b1)])) rfl rfl (hb hby at_75)
  have V45 : Arv Z h45 b1 k1 (.object "com/example/holdfast/holdfast/PositionKind") (11 : Int32) [(.ref w_DEMAND_BID), (.ref w_DECREMENT_BID), (.ref w_METERED_LOAD), (.ref w_EXTERNAL_SALE), (.ref w_IBT_LOAD), (.ref w_SUPPLY_OFFER), (.ref w_INCREMENT_OFFER), (.ref w_METERED_GENERATION), (.ref w_EXTERNAL_PURCHASE), (.ref w_IBT_MARKET), (.ref w_IBT_MARKET_EXCL)] .null := Arv.set c44A c44q c44S c44N c44H c44G rfl W45 10 rfl (Nat.le_of_ble_eq_true rfl)
  have O46 := O42.wr W45 gg_b1
  have N45 := Fr.snoc X45 N41 gg_b1
  obtain ⟨T47, h47, k47, X47, e47, E47, A47, st47⟩ := newP X45 hx hZ (hw _ (own_m 26 rfl)) e45 (g := (mkF m 79 #[iv p0, rv b1, .unset, .unset, .unset, .unset] [(.int 11)])) rfl (hb hby at_79) rfl (by decide) (cap := 11) (by decide) (by decide) (by decide) (by decide)
  obtain ⟨b47, g47⟩ : ∃ z, z = h45.size := ⟨_, rfl⟩
  rw [← g47] at A47  st47
  have ne_b1_b47 : b1 ≠ b47 := Nat.ne_of_lt (g47 ▸ V45.lt)
  have gg_b47 : n0 ≤ b47 := g47 ▸ own_le O46
  have O48 := O46.ext E47
  have V_b47 : Arv Z h47 b47 k47 .boolean (11 : Int32) [(.int 0), (.int 0), (.int 0), (.int 0), (.int 0), (.int 0), (.int 0), (.int 0), (.int 0), (.int 0), (.int 0)] (.int 0) := (Arv.new A47 (by decide)).pad (pad_rep [] (.int 0) 11)
  obtain ⟨c49, c49A, c49q, c49S, c49N, c49H, c49G⟩ := id V_b47
  have c49in : ¬ ((0 : Int32) < 0 ∨ c49.slots.size ≤ ((0 : Int32)).toNatClampNeg) := inb_of c49S ⟨by decide, by decide⟩
  obtain ⟨T50, h50, X50, e50, W50, st50⟩ := stZ X47 hx hZ e47 c49A (j := (0 : Int32)) c49in (g := (mkF m 84 #[iv p0, rv b1, .unset, .unset, .unset, .unset] [(.int 0), (.int 0), (.ref b47), (.ref b47)])) rfl rfl (hb hby at_84)
  have V50 : Arv Z h50 b47 k47 .boolean (11 : Int32) [(.int 0), (.int 0), (.int 0), (.int 0), (.int 0), (.int 0), (.int 0), (.int 0), (.int 0), (.int 0), (.int 0)] (.int 0) := Arv.set c49A c49q c49S c49N c49H c49G (by decide) W50 0 rfl (Nat.le_of_ble_eq_true rfl)
  have O51 := O48.wr W50 gg_b47
  have N50 := Fr.snoc X50 N45 gg_b47
  obtain ⟨c52, c52A, c52q, c52S, c52N, c52H, c52G⟩ := id V50
  have c52in : ¬ ((1 : Int32) < 0 ∨ c52.slots.size ≤ ((1 : Int32)).toNatClampNeg) := inb_of c52S ⟨by decide, by decide⟩
  obtain ⟨T53, h53, X53, e53, W53, st53⟩ := stZ X50 hx hZ e50 c52A (j := (1 : Int32)) c52in (g := (mkF m 88 #[iv p0, rv b1, .unset, .unset, .unset, .unset] [(.int 0), (.int 1), (.ref b47), (.ref b47)])) rfl rfl (hb hby at_88)
  have V53 : Arv Z h53 b47 k47 .boolean (11 : Int32) [(.int 0), (.int 0), (.int 0), (.int 0), (.int 0), (.int 0), (.int 0), (.int 0), (.int 0), (.int 0), (.int 0)] (.int 0) := Arv.set c52A c52q c52S c52N c52H c52G (by decide) W53 1 rfl (Nat.le_of_ble_eq_true rfl)
  have O54 := O51.wr W53 gg_b47
  have N53 := Fr.snoc X53 N50 gg_b47
  obtain ⟨c55, c55A, c55q, c55S, c55N, c55H, c55G⟩ := id V53
  have c55in : ¬ ((2 : Int32) < 0 ∨ c55.slots.size ≤ ((2 : Int32)).toNatClampNeg) := inb_of c55S ⟨by decide, by decide⟩
  obtain ⟨T56, h56, X56, e56, W56, st56⟩ := stZ X53 hx hZ e53 c55A (j := (2 : Int32)) c55in (g := (mkF m 92 #[iv p0, rv b1, .unset, .unset, .unset, .unset] [(.int 0), (.int 2), (.ref b47), (.ref b47)])) rfl rfl (hb hby at_92)
  have V56 : Arv Z h56 b47 k47 .boolean (11 : Int32) [(.int 0), (.int 0), (.int 0), (.int 0), (.int 0), (.int 0), (.int 0), (.int 0), (.int 0), (.int 0), (.int 0)] (.int 0) := Arv.set c55A c55q c55S c55N c55H c55G (by decide) W56 2 rfl (Nat.le_of_ble_eq_true rfl)
  have O57 := O54.wr W56 gg_b47
  have N56 := Fr.snoc X56 N53 gg_b47
  obtain ⟨c58, c58A, c58q, c58S, c58N, c58H, c58G⟩ := id V56
  have c58in : ¬ ((3 : Int32) < 0 ∨ c58.slots.size ≤ ((3 : Int32)).toNatClampNeg) := inb_of c58S ⟨by decide, by decide⟩
  obtain ⟨T59, h59, X59, e59, W59, st59⟩ := stZ X56 hx hZ e56 c58A (j := (3 : Int32)) c58in (g := (mkF m 96 #[iv p0, rv b1, .unset, .unset, .unset, .unset] [(.int 1), (.int 3), (.ref b47), (.ref b47)])) rfl rfl (hb hby at_96)
  have V59 : Arv Z h59 b47 k47 .boolean (11 : Int32) [(.int 0), (.int 0), (.int 0), (.int 1), (.int 0), (.int 0), (.int 0), (.int 0), (.int 0), (.int 0), (.int 0)] (.int 0) := Arv.set c58A c58q c58S c58N c58H c58G (by decide) W59 3 rfl (Nat.le_of_ble_eq_true rfl)
  have O60 := O57.wr W59 gg_b47
  have N59 := Fr.snoc X59 N56 gg_b47
  obtain ⟨c61, c61A, c61q, c61S, c61N, c61H, c61G⟩ := id V59
  have c61in : ¬ ((4 : Int32) < 0 ∨ c61.slots.size ≤ ((4 : Int32)).toNatClampNeg) := inb_of c61S ⟨by decide, by decide⟩
  obtain ⟨T62, h62, X62, e62, W62, st62⟩ := stZ X59 hx hZ e59 c61A (j := (4 : Int32)) c61in (g := (mkF m 100 #[iv p0, rv b1, .unset, .unset, .unset, .unset] [(.int 0), (.int 4), (.ref b47), (.ref b47)])) rfl rfl (hb hby at_100)
  have V62 : Arv Z h62 b47 k47 .boolean (11 : Int32) [(.int 0), (.int 0), (.int 0), (.int 1), (.int 0), (.int 0), (.int 0), (.int 0), (.int 0), (.int 0), (.int 0)] (.int 0) := Arv.set c61A c61q c61S c61N c61H c61G (by decide) W62 4 rfl (Nat.le_of_ble_eq_true rfl)
  have O63 := O60.wr W62 gg_b47
  have N62 := Fr.snoc X62 N59 gg_b47
  obtain ⟨c64, c64A, c64q, c64S, c64N, c64H, c64G⟩ := id V62
  have c64in : ¬ ((5 : Int32) < 0 ∨ c64.slots.size ≤ ((5 : Int32)).toNatClampNeg) := inb_of c64S ⟨by decide, by decide⟩
  obtain ⟨T65, h65, X65, e65, W65, st65⟩ := stZ X62 hx hZ e62 c64A (j := (5 : Int32)) c64in (g := (mkF m 104 #[iv p0, rv b1, .unset, .unset, .unset, .unset] [(.int 0), (.int 5), (.ref b47), (.ref b47)])) rfl rfl (hb hby at_104)
  have V65 : Arv Z h65 b47 k47 .boolean (11 : Int32) [(.int 0), (.int 0), (.int 0), (.int 1), (.int 0), (.int 0), (.int 0), (.int 0), (.int 0), (.int 0), (.int 0)] (.int 0) := Arv.set c64A c64q c64S c64N c64H c64G (by decide) W65 5 rfl (Nat.le_of_ble_eq_true rfl)
  have O66 := O63.wr W65 gg_b47
  have N65 := Fr.snoc X65 N62 gg_b47
  obtain ⟨c67, c67A, c67q, c67S, c67N, c67H, c67G⟩ := id V65
  have c67in : ¬ ((6 : Int32) < 0 ∨ c67.slots.size ≤ ((6 : Int32)).toNatClampNeg) := inb_of c67S ⟨by decide, by decide⟩
  obtain ⟨T68, h68, X68, e68, W68, st68⟩ := stZ X65 hx hZ e65 c67A (j := (6 : Int32)) c67in (g := (mkF m 109 #[iv p0, rv b1, .unset, .unset, .unset, .unset] [(.int 0), (.int 6), (.ref b47), (.ref b47)])) rfl rfl (hb hby at_109)
  have V68 : Arv Z h68 b47 k47 .boolean (11 : Int32) [(.int 0), (.int 0), (.int 0), (.int 1), (.int 0), (.int 0), (.int 0), (.int 0), (.int 0), (.int 0), (.int 0)] (.int 0) := Arv.set c67A c67q c67S c67N c67H c67G (by decide) W68 6 rfl (Nat.le_of_ble_eq_true rfl)
  have O69 := O66.wr W68 gg_b47
  have N68 := Fr.snoc X68 N65 gg_b47
  obtain ⟨c70, c70A, c70q, c70S, c70N, c70H, c70G⟩ := id V68
  have c70in : ¬ ((7 : Int32) < 0 ∨ c70.slots.size ≤ ((7 : Int32)).toNatClampNeg) := inb_of c70S ⟨by decide, by decide⟩
  obtain ⟨T71, h71, X71, e71, W71, st71⟩ := stZ X68 hx hZ e68 c70A (j := (7 : Int32)) c70in (g := (mkF m 114 #[iv p0, rv b1, .unset, .unset, .unset, .unset] [(.int 0), (.int 7), (.ref b47), (.ref b47)])) rfl rfl (hb hby at_114)
  have V71 : Arv Z h71 b47 k47 .boolean (11 : Int32) [(.int 0), (.int 0), (.int 0), (.int 1), (.int 0), (.int 0), (.int 0), (.int 0), (.int 0), (.int 0), (.int 0)] (.int 0) := Arv.set c70A c70q c70S c70N c70H c70G (by decide) W71 7 rfl (Nat.le_of_ble_eq_true rfl)
  have O72 := O69.wr W71 gg_b47
  have N71 := Fr.snoc X71 N68 gg_b47
  obtain ⟨c73, c73A, c73q, c73S, c73N, c73H, c73G⟩ := id V71
  have c73in : ¬ ((8 : Int32) < 0 ∨ c73.slots.size ≤ ((8 : Int32)).toNatClampNeg) := inb_of c73S ⟨by decide, by decide⟩
  obtain ⟨T74, h74, X74, e74, W74, st74⟩ := stZ X71 hx hZ e71 c73A (j := (8 : Int32)) c73in (g := (mkF m 119 #[iv p0, rv b1, .unset, .unset, .unset, .unset] [(.int 1), (.int 8), (.ref b47), (.ref b47)])) rfl rfl (hb hby at_119)
  have V74 : Arv Z h74 b47 k47 .boolean (11 : Int32) [(.int 0), (.int 0), (.int 0), (.int 1), (.int 0), (.int 0), (.int 0), (.int 0), (.int 1), (.int 0), (.int 0)] (.int 0) := Arv.set c73A c73q c73S c73N c73H c73G (by decide) W74 8 rfl (Nat.le_of_ble_eq_true rfl)
  have O75 := O72.wr W74 gg_b47
  have N74 := Fr.snoc X74 N71 gg_b47
  obtain ⟨c76, c76A, c76q, c76S, c76N, c76H, c76G⟩ := id V74
  have c76in : ¬ ((9 : Int32) < 0 ∨ c76.slots.size ≤ ((9 : Int32)).toNatClampNeg) := inb_of c76S ⟨by decide, by decide⟩
  obtain ⟨T77, h77, X77, e77, W77, st77⟩ := stZ X74 hx hZ e74 c76A (j := (9 : Int32)) c76in (g := (mkF m 124 #[iv p0, rv b1, .unset, .unset, .unset, .unset] [(.int 0), (.int 9), (.ref b47), (.ref b47)])) rfl rfl (hb hby at_124)
  have V77 : Arv Z h77 b47 k47 .boolean (11 : Int32) [(.int 0), (.int 0), (.int 0), (.int 1), (.int 0), (.int 0), (.int 0), (.int 0), (.int 1), (.int 0), (.int 0)] (.int 0) := Arv.set c76A c76q c76S c76N c76H c76G (by decide) W77 9 rfl (Nat.le_of_ble_eq_true rfl)
  have O78 := O75.wr W77 gg_b47
  have N77 := Fr.snoc X77 N74 gg_b47
  obtain ⟨c79, c79A, c79q, c79S, c79N, c79H, c79G⟩ := id V77
  have c79in : ¬ ((10 : Int32) < 0 ∨ c79.slots.size ≤ ((10 : Int32)).toNatClampNeg) := inb_of c79S ⟨by decide, by decide⟩
  obtain ⟨T80, h80, X80, e80, W80, st80⟩ := stZ X77 hx hZ e77 c79A (j := (10 : Int32)) c79in (g := (mkF m 129 #[iv p0, rv b1, .unset, .unset, .unset, .unset] [(.int 0), (.int 10), (.ref b47), (.ref b47)])) rfl rfl (hb hby at_129)
  have V80 : Arv Z h80 b47 k47 .boolean (11 : Int32) [(.int 0), (.int 0), (.int 0), (.int 1), (.int 0), (.int 0), (.int 0), (.int 0), (.int 1), (.int 0), (.int 0)] (.int 0) := Arv.set c79A c79q c79S c79N c79H c79G (by decide) W80 10 rfl (Nat.le_of_ble_eq_true rfl)
  have O81 := O78.wr W80 gg_b47
  have N80 := Fr.snoc X80 N77 gg_b47
  have pre82 : ∀ t, Steps p.tables e below (T80.setTop (mkF m 137 #[iv p0, rv b1, rv b47, .unset, .unset, .unset] [(.int 11), (.int (p0 &&& (2147483647 : Int32)))])) t → Steps p.tables e below (s₁.setTop (entryFrame m #[(.int p0)] maxLocals)) t := fun t kt => by
    refine pre0 _ ?_
    show Steps p.tables e below (s₁.setTop (mkF m 0 #[iv p0, .unset, .unset, .unset, .unset, .unset] [])) _
    refine XS.bipush X0.here hx rfl (hb hby at_0) ?_
    show Steps p.tables e below (s₁.setTop (mkF m 2 #[iv p0, .unset, .unset, .unset, .unset, .unset] [(.int 11)])) _
    refine st1 _ ?_
    show Steps p.tables e below (T1.setTop (mkF m 5 #[iv p0, .unset, .unset, .unset, .unset, .unset] [(.ref b1)])) _
    refine XS.dup X1.here hx rfl (hb hby at_5) rfl rfl ?_
    show Steps p.tables e below (T1.setTop (mkF m 6 #[iv p0, .unset, .unset, .unset, .unset, .unset] [(.ref b1), (.ref b1)])) _
    refine XS.iconst X1.here hx rfl (hb hby at_6) ?_
    show Steps p.tables e below (T1.setTop (mkF m 7 #[iv p0, .unset, .unset, .unset, .unset, .unset] [(.int 0), (.ref b1), (.ref b1)])) _
    refine st3 _ ?_
    show Steps p.tables e below (T3.setTop (mkF m 10 #[iv p0, .unset, .unset, .unset, .unset, .unset] [(.ref w_DEMAND_BID), (.int 0), (.ref b1), (.ref b1)])) _
    refine st5 _ ?_
    show Steps p.tables e below (T5.setTop (mkF m 11 #[iv p0, .unset, .unset, .unset, .unset, .unset] [(.ref b1)])) _
    refine XS.dup X5.here hx rfl (hb hby at_11) rfl rfl ?_
    show Steps p.tables e below (T5.setTop (mkF m 12 #[iv p0, .unset, .unset, .unset, .unset, .unset] [(.ref b1), (.ref b1)])) _
    refine XS.iconst X5.here hx rfl (hb hby at_12) ?_
    show Steps p.tables e below (T5.setTop (mkF m 13 #[iv p0, .unset, .unset, .unset, .unset, .unset] [(.int 1), (.ref b1), (.ref b1)])) _
    refine st7 _ ?_
    show Steps p.tables e below (T7.setTop (mkF m 16 #[iv p0, .unset, .unset, .unset, .unset, .unset] [(.ref w_DECREMENT_BID), (.int 1), (.ref b1), (.ref b1)])) _
    refine st9 _ ?_
    show Steps p.tables e below (T9.setTop (mkF m 17 #[iv p0, .unset, .unset, .unset, .unset, .unset] [(.ref b1)])) _
    refine XS.dup X9.here hx rfl (hb hby at_17) rfl rfl ?_
    show Steps p.tables e below (T9.setTop (mkF m 18 #[iv p0, .unset, .unset, .unset, .unset, .unset] [(.ref b1), (.ref b1)])) _
    refine XS.iconst X9.here hx rfl (hb hby at_18) ?_
    show Steps p.tables e below (T9.setTop (mkF m 19 #[iv p0, .unset, .unset, .unset, .unset, .unset] [(.int 2), (.ref b1), (.ref b1)])) _
    refine st11 _ ?_
    show Steps p.tables e below (T11.setTop (mkF m 22 #[iv p0, .unset, .unset, .unset, .unset, .unset] [(.ref w_METERED_LOAD), (.int 2), (.ref b1), (.ref b1)])) _
    refine st13 _ ?_
    show Steps p.tables e below (T13.setTop (mkF m 23 #[iv p0, .unset, .unset, .unset, .unset, .unset] [(.ref b1)])) _
    refine XS.dup X13.here hx rfl (hb hby at_23) rfl rfl ?_
    show Steps p.tables e below (T13.setTop (mkF m 24 #[iv p0, .unset, .unset, .unset, .unset, .unset] [(.ref b1), (.ref b1)])) _
    refine XS.iconst X13.here hx rfl (hb hby at_24) ?_
    show Steps p.tables e below (T13.setTop (mkF m 25 #[iv p0, .unset, .unset, .unset, .unset, .unset] [(.int 3), (.ref b1), (.ref b1)])) _
    refine st15 _ ?_
    show Steps p.tables e below (T15.setTop (mkF m 28 #[iv p0, .unset, .unset, .unset, .unset, .unset] [(.ref w_EXTERNAL_SALE), (.int 3), (.ref b1), (.ref b1)])) _
    refine st17 _ ?_
    show Steps p.tables e below (T17.setTop (mkF m 29 #[iv p0, .unset, .unset, .unset, .unset, .unset] [(.ref b1)])) _
    refine XS.dup X17.here hx rfl (hb hby at_29) rfl rfl ?_
    show Steps p.tables e below (T17.setTop (mkF m 30 #[iv p0, .unset, .unset, .unset, .unset, .unset] [(.ref b1), (.ref b1)])) _
    refine XS.iconst X17.here hx rfl (hb hby at_30) ?_
    show Steps p.tables e below (T17.setTop (mkF m 31 #[iv p0, .unset, .unset, .unset, .unset, .unset] [(.int 4), (.ref b1), (.ref b1)])) _
    refine st19 _ ?_
    show Steps p.tables e below (T19.setTop (mkF m 34 #[iv p0, .unset, .unset, .unset, .unset, .unset] [(.ref w_IBT_LOAD), (.int 4), (.ref b1), (.ref b1)])) _
    refine st21 _ ?_
    show Steps p.tables e below (T21.setTop (mkF m 35 #[iv p0, .unset, .unset, .unset, .unset, .unset] [(.ref b1)])) _
    refine XS.dup X21.here hx rfl (hb hby at_35) rfl rfl ?_
    show Steps p.tables e below (T21.setTop (mkF m 36 #[iv p0, .unset, .unset, .unset, .unset, .unset] [(.ref b1), (.ref b1)])) _
    refine XS.iconst X21.here hx rfl (hb hby at_36) ?_
    show Steps p.tables e below (T21.setTop (mkF m 37 #[iv p0, .unset, .unset, .unset, .unset, .unset] [(.int 5), (.ref b1), (.ref b1)])) _
    refine st23 _ ?_
    show Steps p.tables e below (T23.setTop (mkF m 40 #[iv p0, .unset, .unset, .unset, .unset, .unset] [(.ref w_SUPPLY_OFFER), (.int 5), (.ref b1), (.ref b1)])) _
    refine st25 _ ?_
    show Steps p.tables e below (T25.setTop (mkF m 41 #[iv p0, .unset, .unset, .unset, .unset, .unset] [(.ref b1)])) _
    refine XS.dup X25.here hx rfl (hb hby at_41) rfl rfl ?_
    show Steps p.tables e below (T25.setTop (mkF m 42 #[iv p0, .unset, .unset, .unset, .unset, .unset] [(.ref b1), (.ref b1)])) _
    refine XS.bipush X25.here hx rfl (hb hby at_42) ?_
    show Steps p.tables e below (T25.setTop (mkF m 44 #[iv p0, .unset, .unset, .unset, .unset, .unset] [(.int 6), (.ref b1), (.ref b1)])) _
    refine st27 _ ?_
    show Steps p.tables e below (T27.setTop (mkF m 47 #[iv p0, .unset, .unset, .unset, .unset, .unset] [(.ref w_INCREMENT_OFFER), (.int 6), (.ref b1), (.ref b1)])) _
    refine st29 _ ?_
    show Steps p.tables e below (T29.setTop (mkF m 48 #[iv p0, .unset, .unset, .unset, .unset, .unset] [(.ref b1)])) _
    refine XS.dup X29.here hx rfl (hb hby at_48) rfl rfl ?_
    show Steps p.tables e below (T29.setTop (mkF m 49 #[iv p0, .unset, .unset, .unset, .unset, .unset] [(.ref b1), (.ref b1)])) _
    refine XS.bipush X29.here hx rfl (hb hby at_49) ?_
    show Steps p.tables e below (T29.setTop (mkF m 51 #[iv p0, .unset, .unset, .unset, .unset, .unset] [(.int 7), (.ref b1), (.ref b1)])) _
    refine st31 _ ?_
    show Steps p.tables e below (T31.setTop (mkF m 54 #[iv p0, .unset, .unset, .unset, .unset, .unset] [(.ref w_METERED_GENERATION), (.int 7), (.ref b1), (.ref b1)])) _
    refine st33 _ ?_
    show Steps p.tables e below (T33.setTop (mkF m 55 #[iv p0, .unset, .unset, .unset, .unset, .unset] [(.ref b1)])) _
    refine XS.dup X33.here hx rfl (hb hby at_55) rfl rfl ?_
    show Steps p.tables e below (T33.setTop (mkF m 56 #[iv p0, .unset, .unset, .unset, .unset, .unset] [(.ref b1), (.ref b1)])) _
    refine XS.bipush X33.here hx rfl (hb hby at_56) ?_
    show Steps p.tables e below (T33.setTop (mkF m 58 #[iv p0, .unset, .unset, .unset, .unset, .unset] [(.int 8), (.ref b1), (.ref b1)])) _
    refine st35 _ ?_
    show Steps p.tables e below (T35.setTop (mkF m 61 #[iv p0, .unset, .unset, .unset, .unset, .unset] [(.ref w_EXTERNAL_PURCHASE), (.int 8), (.ref b1), (.ref b1)])) _
    refine st37 _ ?_
    show Steps p.tables e below (T37.setTop (mkF m 62 #[iv p0, .unset, .unset, .unset, .unset, .unset] [(.ref b1)])) _
    refine XS.dup X37.here hx rfl (hb hby at_62) rfl rfl ?_
    show Steps p.tables e below (T37.setTop (mkF m 63 #[iv p0, .unset, .unset, .unset, .unset, .unset] [(.ref b1), (.ref b1)])) _
    refine XS.bipush X37.here hx rfl (hb hby at_63) ?_
    show Steps p.tables e below (T37.setTop (mkF m 65 #[iv p0, .unset, .unset, .unset, .unset, .unset] [(.int 9), (.ref b1), (.ref b1)])) _
    refine st39 _ ?_
    show Steps p.tables e below (T39.setTop (mkF m 68 #[iv p0, .unset, .unset, .unset, .unset, .unset] [(.ref w_IBT_MARKET), (.int 9), (.ref b1), (.ref b1)])) _
    refine st41 _ ?_
    show Steps p.tables e below (T41.setTop (mkF m 69 #[iv p0, .unset, .unset, .unset, .unset, .unset] [(.ref b1)])) _
    refine XS.dup X41.here hx rfl (hb hby at_69) rfl rfl ?_
    show Steps p.tables e below (T41.setTop (mkF m 70 #[iv p0, .unset, .unset, .unset, .unset, .unset] [(.ref b1), (.ref b1)])) _
    refine XS.bipush X41.here hx rfl (hb hby at_70) ?_
    show Steps p.tables e below (T41.setTop (mkF m 72 #[iv p0, .unset, .unset, .unset, .unset, .unset] [(.int 10), (.ref b1), (.ref b1)])) _
    refine st43 _ ?_
    show Steps p.tables e below (T43.setTop (mkF m 75 #[iv p0, .unset, .unset, .unset, .unset, .unset] [(.ref w_IBT_MARKET_EXCL), (.int 10), (.ref b1), (.ref b1)])) _
    refine st45 _ ?_
    show Steps p.tables e below (T45.setTop (mkF m 76 #[iv p0, .unset, .unset, .unset, .unset, .unset] [(.ref b1)])) _
    refine XS.astoreN X45.here hx rfl (hb hby at_76) rfl rfl (l' := #[iv p0, rv b1, .unset, .unset, .unset, .unset]) rfl ?_
    show Steps p.tables e below (T45.setTop (mkF m 77 #[iv p0, rv b1, .unset, .unset, .unset, .unset] [])) _
    refine XS.bipush X45.here hx rfl (hb hby at_77) ?_
    show Steps p.tables e below (T45.setTop (mkF m 79 #[iv p0, rv b1, .unset, .unset, .unset, .unset] [(.int 11)])) _
    refine st47 _ ?_
    show Steps p.tables e below (T47.setTop (mkF m 81 #[iv p0, rv b1, .unset, .unset, .unset, .unset] [(.ref b47)])) _
    refine XS.dup X47.here hx rfl (hb hby at_81) rfl rfl ?_
    show Steps p.tables e below (T47.setTop (mkF m 82 #[iv p0, rv b1, .unset, .unset, .unset, .unset] [(.ref b47), (.ref b47)])) _
    refine XS.iconst X47.here hx rfl (hb hby at_82) ?_
    show Steps p.tables e below (T47.setTop (mkF m 83 #[iv p0, rv b1, .unset, .unset, .unset, .unset] [(.int 0), (.ref b47), (.ref b47)])) _
    refine XS.iconst X47.here hx rfl (hb hby at_83) ?_
    show Steps p.tables e below (T47.setTop (mkF m 84 #[iv p0, rv b1, .unset, .unset, .unset, .unset] [(.int 0), (.int 0), (.ref b47), (.ref b47)])) _
    refine st50 _ ?_
    show Steps p.tables e below (T50.setTop (mkF m 85 #[iv p0, rv b1, .unset, .unset, .unset, .unset] [(.ref b47)])) _
    refine XS.dup X50.here hx rfl (hb hby at_85) rfl rfl ?_
    show Steps p.tables e below (T50.setTop (mkF m 86 #[iv p0, rv b1, .unset, .unset, .unset, .unset] [(.ref b47), (.ref b47)])) _
    refine XS.iconst X50.here hx rfl (hb hby at_86) ?_
    show Steps p.tables e below (T50.setTop (mkF m 87 #[iv p0, rv b1, .unset, .unset, .unset, .unset] [(.int 1), (.ref b47), (.ref b47)])) _
    refine XS.iconst X50.here hx rfl (hb hby at_87) ?_
    show Steps p.tables e below (T50.setTop (mkF m 88 #[iv p0, rv b1, .unset, .unset, .unset, .unset] [(.int 0), (.int 1), (.ref b47), (.ref b47)])) _
    refine st53 _ ?_
    show Steps p.tables e below (T53.setTop (mkF m 89 #[iv p0, rv b1, .unset, .unset, .unset, .unset] [(.ref b47)])) _
    refine XS.dup X53.here hx rfl (hb hby at_89) rfl rfl ?_
    show Steps p.tables e below (T53.setTop (mkF m 90 #[iv p0, rv b1, .unset, .unset, .unset, .unset] [(.ref b47), (.ref b47)])) _
    refine XS.iconst X53.here hx rfl (hb hby at_90) ?_
    show Steps p.tables e below (T53.setTop (mkF m 91 #[iv p0, rv b1, .unset, .unset, .unset, .unset] [(.int 2), (.ref b47), (.ref b47)])) _
    refine XS.iconst X53.here hx rfl (hb hby at_91) ?_
    show Steps p.tables e below (T53.setTop (mkF m 92 #[iv p0, rv b1, .unset, .unset, .unset, .unset] [(.int 0), (.int 2), (.ref b47), (.ref b47)])) _
    refine st56 _ ?_
    show Steps p.tables e below (T56.setTop (mkF m 93 #[iv p0, rv b1, .unset, .unset, .unset, .unset] [(.ref b47)])) _
    refine XS.dup X56.here hx rfl (hb hby at_93) rfl rfl ?_
    show Steps p.tables e below (T56.setTop (mkF m 94 #[iv p0, rv b1, .unset, .unset, .unset, .unset] [(.ref b47), (.ref b47)])) _
    refine XS.iconst X56.here hx rfl (hb hby at_94) ?_
    show Steps p.tables e below (T56.setTop (mkF m 95 #[iv p0, rv b1, .unset, .unset, .unset, .unset] [(.int 3), (.ref b47), (.ref b47)])) _
    refine XS.iconst X56.here hx rfl (hb hby at_95) ?_
    show Steps p.tables e below (T56.setTop (mkF m 96 #[iv p0, rv b1, .unset, .unset, .unset, .unset] [(.int 1), (.int 3), (.ref b47), (.ref b47)])) _
    refine st59 _ ?_
    show Steps p.tables e below (T59.setTop (mkF m 97 #[iv p0, rv b1, .unset, .unset, .unset, .unset] [(.ref b47)])) _
    refine XS.dup X59.here hx rfl (hb hby at_97) rfl rfl ?_
    show Steps p.tables e below (T59.setTop (mkF m 98 #[iv p0, rv b1, .unset, .unset, .unset, .unset] [(.ref b47), (.ref b47)])) _
    refine XS.iconst X59.here hx rfl (hb hby at_98) ?_
    show Steps p.tables e below (T59.setTop (mkF m 99 #[iv p0, rv b1, .unset, .unset, .unset, .unset] [(.int 4), (.ref b47), (.ref b47)])) _
    refine XS.iconst X59.here hx rfl (hb hby at_99) ?_
    show Steps p.tables e below (T59.setTop (mkF m 100 #[iv p0, rv b1, .unset, .unset, .unset, .unset] [(.int 0), (.int 4), (.ref b47), (.ref b47)])) _
    refine st62 _ ?_
    show Steps p.tables e below (T62.setTop (mkF m 101 #[iv p0, rv b1, .unset, .unset, .unset, .unset] [(.ref b47)])) _
    refine XS.dup X62.here hx rfl (hb hby at_101) rfl rfl ?_
    show Steps p.tables e below (T62.setTop (mkF m 102 #[iv p0, rv b1, .unset, .unset, .unset, .unset] [(.ref b47), (.ref b47)])) _
    refine XS.iconst X62.here hx rfl (hb hby at_102) ?_
    show Steps p.tables e below (T62.setTop (mkF m 103 #[iv p0, rv b1, .unset, .unset, .unset, .unset] [(.int 5), (.ref b47), (.ref b47)])) _
    refine XS.iconst X62.here hx rfl (hb hby at_103) ?_
    show Steps p.tables e below (T62.setTop (mkF m 104 #[iv p0, rv b1, .unset, .unset, .unset, .unset] [(.int 0), (.int 5), (.ref b47), (.ref b47)])) _
    refine st65 _ ?_
    show Steps p.tables e below (T65.setTop (mkF m 105 #[iv p0, rv b1, .unset, .unset, .unset, .unset] [(.ref b47)])) _
    refine XS.dup X65.here hx rfl (hb hby at_105) rfl rfl ?_
    show Steps p.tables e below (T65.setTop (mkF m 106 #[iv p0, rv b1, .unset, .unset, .unset, .unset] [(.ref b47), (.ref b47)])) _
    refine XS.bipush X65.here hx rfl (hb hby at_106) ?_
    show Steps p.tables e below (T65.setTop (mkF m 108 #[iv p0, rv b1, .unset, .unset, .unset, .unset] [(.int 6), (.ref b47), (.ref b47)])) _
    refine XS.iconst X65.here hx rfl (hb hby at_108) ?_
    show Steps p.tables e below (T65.setTop (mkF m 109 #[iv p0, rv b1, .unset, .unset, .unset, .unset] [(.int 0), (.int 6), (.ref b47), (.ref b47)])) _
    refine st68 _ ?_
    show Steps p.tables e below (T68.setTop (mkF m 110 #[iv p0, rv b1, .unset, .unset, .unset, .unset] [(.ref b47)])) _
    refine XS.dup X68.here hx rfl (hb hby at_110) rfl rfl ?_
    show Steps p.tables e below (T68.setTop (mkF m 111 #[iv p0, rv b1, .unset, .unset, .unset, .unset] [(.ref b47), (.ref b47)])) _
    refine XS.bipush X68.here hx rfl (hb hby at_111) ?_
    show Steps p.tables e below (T68.setTop (mkF m 113 #[iv p0, rv b1, .unset, .unset, .unset, .unset] [(.int 7), (.ref b47), (.ref b47)])) _
    refine XS.iconst X68.here hx rfl (hb hby at_113) ?_
    show Steps p.tables e below (T68.setTop (mkF m 114 #[iv p0, rv b1, .unset, .unset, .unset, .unset] [(.int 0), (.int 7), (.ref b47), (.ref b47)])) _
    refine st71 _ ?_
    show Steps p.tables e below (T71.setTop (mkF m 115 #[iv p0, rv b1, .unset, .unset, .unset, .unset] [(.ref b47)])) _
    refine XS.dup X71.here hx rfl (hb hby at_115) rfl rfl ?_
    show Steps p.tables e below (T71.setTop (mkF m 116 #[iv p0, rv b1, .unset, .unset, .unset, .unset] [(.ref b47), (.ref b47)])) _
    refine XS.bipush X71.here hx rfl (hb hby at_116) ?_
    show Steps p.tables e below (T71.setTop (mkF m 118 #[iv p0, rv b1, .unset, .unset, .unset, .unset] [(.int 8), (.ref b47), (.ref b47)])) _
    refine XS.iconst X71.here hx rfl (hb hby at_118) ?_
    show Steps p.tables e below (T71.setTop (mkF m 119 #[iv p0, rv b1, .unset, .unset, .unset, .unset] [(.int 1), (.int 8), (.ref b47), (.ref b47)])) _
    refine st74 _ ?_
    show Steps p.tables e below (T74.setTop (mkF m 120 #[iv p0, rv b1, .unset, .unset, .unset, .unset] [(.ref b47)])) _
    refine XS.dup X74.here hx rfl (hb hby at_120) rfl rfl ?_
    show Steps p.tables e below (T74.setTop (mkF m 121 #[iv p0, rv b1, .unset, .unset, .unset, .unset] [(.ref b47), (.ref b47)])) _
    refine XS.bipush X74.here hx rfl (hb hby at_121) ?_
    show Steps p.tables e below (T74.setTop (mkF m 123 #[iv p0, rv b1, .unset, .unset, .unset, .unset] [(.int 9), (.ref b47), (.ref b47)])) _
    refine XS.iconst X74.here hx rfl (hb hby at_123) ?_
    show Steps p.tables e below (T74.setTop (mkF m 124 #[iv p0, rv b1, .unset, .unset, .unset, .unset] [(.int 0), (.int 9), (.ref b47), (.ref b47)])) _
    refine st77 _ ?_
    show Steps p.tables e below (T77.setTop (mkF m 125 #[iv p0, rv b1, .unset, .unset, .unset, .unset] [(.ref b47)])) _
    refine XS.dup X77.here hx rfl (hb hby at_125) rfl rfl ?_
    show Steps p.tables e below (T77.setTop (mkF m 126 #[iv p0, rv b1, .unset, .unset, .unset, .unset] [(.ref b47), (.ref b47)])) _
    refine XS.bipush X77.here hx rfl (hb hby at_126) ?_
    show Steps p.tables e below (T77.setTop (mkF m 128 #[iv p0, rv b1, .unset, .unset, .unset, .unset] [(.int 10), (.ref b47), (.ref b47)])) _
    refine XS.iconst X77.here hx rfl (hb hby at_128) ?_
    show Steps p.tables e below (T77.setTop (mkF m 129 #[iv p0, rv b1, .unset, .unset, .unset, .unset] [(.int 0), (.int 10), (.ref b47), (.ref b47)])) _
    refine st80 _ ?_
    show Steps p.tables e below (T80.setTop (mkF m 130 #[iv p0, rv b1, .unset, .unset, .unset, .unset] [(.ref b47)])) _
    refine XS.astoreN X80.here hx rfl (hb hby at_130) rfl rfl (l' := #[iv p0, rv b1, rv b47, .unset, .unset, .unset]) rfl ?_
    show Steps p.tables e below (T80.setTop (mkF m 131 #[iv p0, rv b1, rv b47, .unset, .unset, .unset] [])) _
    refine XS.iloadN X80.here hx rfl (hb hby at_131) rfl ?_
    show Steps p.tables e below (T80.setTop (mkF m 132 #[iv p0, rv b1, rv b47, .unset, .unset, .unset] [(.int p0)])) _
    refine X80.ldcInt hx hown (mvT hZ (hw _ (own_m 27 rfl))) (g := (mkF m 132 #[iv p0, rv b1, rv b47, .unset, .unset, .unset] [(.int p0)])) rfl (hb hby at_132) _ ?_
    show Steps p.tables e below (T80.setTop (mkF m 134 #[iv p0, rv b1, rv b47, .unset, .unset, .unset] [(.int 2147483647), (.int p0)])) _
    refine XS.iand X80.here hx rfl (hb hby at_134) rfl ?_
    show Steps p.tables e below (T80.setTop (mkF m 135 #[iv p0, rv b1, rv b47, .unset, .unset, .unset] [(.int (p0 &&& (2147483647 : Int32)))])) _
    refine XS.bipush X80.here hx rfl (hb hby at_135) ?_
    show Steps p.tables e below (T80.setTop (mkF m 137 #[iv p0, rv b1, rv b47, .unset, .unset, .unset] [(.int 11), (.int (p0 &&& (2147483647 : Int32)))])) _
    exact kt
  rcases own_rem11 p0 with hk | hk | hk | hk | hk | hk | hk | hk | hk | hk | hk
  · have f83 := ((((((((((((V45.ext E47).other W50 ne_b1_b47).other W53 ne_b1_b47).other W56 ne_b1_b47).other W59 ne_b1_b47).other W62 ne_b1_b47).other W65 ne_b1_b47).other W68 ne_b1_b47).other W71 ne_b1_b47).other W74 ne_b1_b47).other W77 ne_b1_b47).other W80 ne_b1_b47)
    obtain ⟨c84, c84A, c84q, c84S, c84N, c84H, c84G⟩ := id f83
    have c84in : ¬ ((0 : Int32) < 0 ∨ c84.slots.size ≤ ((0 : Int32)).toNatClampNeg) := inb_of c84S ⟨by decide, by decide⟩
    have c84at : c84.slots[((0 : Int32)).toNatClampNeg]? = some (.ref w_DEMAND_BID) := Has.at c84H c84in rfl
    obtain ⟨cq85, kq85, q85a, q85b, q85c⟩ := isOf hZ e80 (U_DEMAND_BID.2.1.ext O81.2)
    obtain ⟨_, _, ⟨T85, L85, k85, n85⟩, -, X85, ⟨Lc85, hQ85, l85, y85, z85⟩, st85⟩ := X80.virtualBack hx (y := (⟨"com/example/holdfast/holdfast/PositionKind", "crossesBorder", "()Z"⟩ : MethodName)) (z := (⟨"com/example/holdfast/holdfast/PositionKind", "crossesBorder", "()Z"⟩ : MethodName)) hown (mvT hZ (hw _ (own_m 28 rfl))) (mvT hZ (hw _ (own_m 29 rfl))) (notFace_of_selects (args := #[]) (mvT hZ (hw _ (own_m 31 rfl)))) (mvT hZ (hw _ (own_m 31 rfl))) (mvT hZ (hw _ (own_m 30 rfl))) (by decide) (backOf (W := 0) (own_m_DEMAND_BID l Z a0 hw [] w_DEMAND_BID w_DECREMENT_BID w_METERED_LOAD w_EXTERNAL_SALE w_IBT_LOAD w_SUPPLY_OFFER w_INCREMENT_OFFER w_METERED_GENERATION w_EXTERNAL_PURCHASE w_IBT_MARKET w_IBT_MARKET_EXCL w_WITHDRAWAL w_INJECTION w_EITHER  h80 n0 O81 U_DEMAND_BID U_DECREMENT_BID U_METERED_LOAD U_EXTERNAL_SALE U_IBT_LOAD U_SUPPLY_OFFER U_INCREMENT_OFFER U_METERED_GENERATION U_EXTERNAL_PURCHASE U_IBT_MARKET U_IBT_MARKET_EXCL U_WITHDRAWAL U_INJECTION U_EITHER G_EXTERNAL_SALE G_EXTERNAL_PURCHASE ) hZ (hw _ (own_m 32 rfl)) (hw _ (own_m 3 rfl)) (by decide) (by decide)) q85a q85c (g := (mkF m 146 #[iv p0, rv b1, rv b47, iv 0, rv w_DEMAND_BID, .unset] [(.ref w_DEMAND_BID)])) rfl (by rw [hml]; rfl) (Steps.refl _) (argsL := []) (rest := []) (lenOf own_pd0 rfl) rfl (by show 2 * 0 + _ ≤ _; exact Nat.le_of_eq rfl) (hb hby at_146) (fun _ _ => ⟨rfl, e80, (by decide : 2 + 0 ≤ _), (by decide : 22 + 0 ≤ _)⟩)
    dsimp only [Pt.U, Pt.locs, Pt.cells, Pt.slots] at X85 l85 y85 z85 st85 hQ85
    subst y85 z85
    obtain ⟨rfl, N85q, e85⟩ := hQ85
    have N85 : Fr n0 L85 := by rw [l85]; exact Fr.app N80 N85q
    obtain ⟨c86, c86A, c86q, c86S, c86N, c86H, c86G⟩ := id V80
    have c86in : ¬ ((0 : Int32) < 0 ∨ c86.slots.size ≤ ((0 : Int32)).toNatClampNeg) := inb_of c86S ⟨by decide, by decide⟩
    have c86at : c86.slots[((0 : Int32)).toNatClampNeg]? = some (.int 0) := Has.at c86H c86in rfl
    obtain ⟨fs, hr, hrun, hended, hW, hsame⟩ := X85.leave (v := some (.int 1)) (fun h => by rw [Bd.returns] at h; cases h)
    refine ⟨_, _, pre82 _ ?_, hrun, hended, _, _, rfl, ?_, ⟨_, rfl⟩, hW, hsame.mono (by decide) (by decide)⟩
    · show Steps p.tables e below (T80.setTop (mkF m 137 #[iv p0, rv b1, rv b47, .unset, .unset, .unset] [(.int 11), (.int (p0 &&& (2147483647 : Int32)))])) _
      refine iremM X80 hx rfl (hb hby at_137) rfl (by decide) ?_
      show Steps p.tables e below (T80.setTop (mkF m 138 #[iv p0, rv b1, rv b47, .unset, .unset, .unset] [(.int ((p0 &&& (2147483647 : Int32)) % (11 : Int32)))])) _
      refine own_top (v' := (.int 0)) (congrArg Value.int hk) ?_
      show Steps p.tables e below (T80.setTop (mkF m 138 #[iv p0, rv b1, rv b47, .unset, .unset, .unset] [(.int 0)])) _
      refine XS.istoreN X80.here hx rfl (hb hby at_138) rfl (l' := #[iv p0, rv b1, rv b47, iv 0, .unset, .unset]) rfl ?_
      show Steps p.tables e below (T80.setTop (mkF m 139 #[iv p0, rv b1, rv b47, iv 0, .unset, .unset] [])) _
      refine XS.aloadN X80.here hx rfl (hb hby at_139) rfl rfl ?_
      show Steps p.tables e below (T80.setTop (mkF m 140 #[iv p0, rv b1, rv b47, iv 0, .unset, .unset] [(.ref b1)])) _
      refine XS.iloadN X80.here hx rfl (hb hby at_140) rfl ?_
      show Steps p.tables e below (T80.setTop (mkF m 141 #[iv p0, rv b1, rv b47, iv 0, .unset, .unset] [(.int 0), (.ref b1)])) _
      refine X80.aaload hx (j := (0 : Int32)) (v := (.ref w_DEMAND_BID)) (by rw [e80]; exact c84A.1) (State.isArrayOf_alike hZ.alike c84A.2.1) rfl c84A.2.2 c84in c84at (g := (mkF m 141 #[iv p0, rv b1, rv b47, iv 0, .unset, .unset] [(.int 0), (.ref b1)])) rfl rfl (hb hby at_141) _ ?_
      show Steps p.tables e below (T80.setTop (mkF m 142 #[iv p0, rv b1, rv b47, iv 0, .unset, .unset] [(.ref w_DEMAND_BID)])) _
      refine XS.astore X80.here hx rfl (hb hby at_142) rfl rfl (l' := #[iv p0, rv b1, rv b47, iv 0, rv w_DEMAND_BID, .unset]) rfl ?_
      show Steps p.tables e below (T80.setTop (mkF m 144 #[iv p0, rv b1, rv b47, iv 0, rv w_DEMAND_BID, .unset] [])) _
      refine XS.aload X80.here hx rfl (hb hby at_144) rfl rfl ?_
      show Steps p.tables e below (T80.setTop (mkF m 146 #[iv p0, rv b1, rv b47, iv 0, rv w_DEMAND_BID, .unset] [(.ref w_DEMAND_BID)])) _
      refine st85.trans ?_
      show Steps p.tables e below (T85.setTop (mkF m 149 #[iv p0, rv b1, rv b47, iv 0, rv w_DEMAND_BID, .unset] [(.int 0)])) _
      refine XS.istore X85.here hx rfl (hb hby at_149) rfl (l' := #[iv p0, rv b1, rv b47, iv 0, rv w_DEMAND_BID, iv 0]) rfl ?_
      show Steps p.tables e below (T85.setTop (mkF m 151 #[iv p0, rv b1, rv b47, iv 0, rv w_DEMAND_BID, iv 0] [])) _
      refine XS.iload X85.here hx rfl (hb hby at_151) rfl ?_
      show Steps p.tables e below (T85.setTop (mkF m 153 #[iv p0, rv b1, rv b47, iv 0, rv w_DEMAND_BID, iv 0] [(.int 0)])) _
      refine XS.aloadN X85.here hx rfl (hb hby at_153) rfl rfl ?_
      show Steps p.tables e below (T85.setTop (mkF m 154 #[iv p0, rv b1, rv b47, iv 0, rv w_DEMAND_BID, iv 0] [(.ref b47), (.int 0)])) _
      refine XS.iloadN X85.here hx rfl (hb hby at_154) rfl ?_
      show Steps p.tables e below (T85.setTop (mkF m 155 #[iv p0, rv b1, rv b47, iv 0, rv w_DEMAND_BID, iv 0] [(.int 0), (.ref b47), (.int 0)])) _
      refine X85.baloadBooleans hx (j := (0 : Int32)) (v := (.int 0)) (by rw [e85]; exact c86A.1) (State.isArrayOf_alike hZ.alike c86A.2.1) c86A.2.2 c86in c86at (g := (mkF m 155 #[iv p0, rv b1, rv b47, iv 0, rv w_DEMAND_BID, iv 0] [(.int 0), (.ref b47), (.int 0)])) rfl rfl (hb hby at_155) _ ?_
      show Steps p.tables e below (T85.setTop (mkF m 156 #[iv p0, rv b1, rv b47, iv 0, rv w_DEMAND_BID, iv 0] [(.int 0), (.int 0)])) _
      refine XS.icmpYes X85.here hx rfl (pc0 := 156) (pc' := 161) rfl (hb hby at_156) rfl (teq (by decide)).1 (by decide) (by decide) ?_
      show Steps p.tables e below (T85.setTop (mkF m 161 #[iv p0, rv b1, rv b47, iv 0, rv w_DEMAND_BID, iv 0] [])) _
      refine XS.iload X85.here hx rfl (hb hby at_161) rfl ?_
      show Steps p.tables e below (T85.setTop (mkF m 163 #[iv p0, rv b1, rv b47, iv 0, rv w_DEMAND_BID, iv 0] [(.int 0)])) _
      refine XS.ifYes X85.here hx rfl (pc0 := 163) (pc' := 179) rfl (hb hby at_163) rfl ((if0 _ _).trans (teq (by decide)).1) (by decide) (by decide) ?_
      show Steps p.tables e below (T85.setTop (mkF m 179 #[iv p0, rv b1, rv b47, iv 0, rv w_DEMAND_BID, iv 0] [])) _
      refine XS.iconst X85.here hx rfl (hb hby at_179) ?_
      show Steps p.tables e below (T85.setTop (mkF m 180 #[iv p0, rv b1, rv b47, iv 0, rv w_DEMAND_BID, iv 0] [(.int 1)])) _
      exact retN X85 hx (t := .boolean) Bd.returns (by simp) (hb hby at_180) hr
    · show own_law_Q Z w_DEMAND_BID w_DECREMENT_BID w_METERED_LOAD w_EXTERNAL_SALE w_IBT_LOAD w_SUPPLY_OFFER w_INCREMENT_OFFER w_METERED_GENERATION w_EXTERNAL_PURCHASE w_IBT_MARKET w_IBT_MARKET_EXCL w_WITHDRAWAL w_INJECTION w_EITHER p0 h0 n0 _ T85.heap _
      rw [e85]
      exact ⟨rfl, N85⟩
  · have f87 := ((((((((((((V45.ext E47).other W50 ne_b1_b47).other W53 ne_b1_b47).other W56 ne_b1_b47).other W59 ne_b1_b47).other W62 ne_b1_b47).other W65 ne_b1_b47).other W68 ne_b1_b47).other W71 ne_b1_b47).other W74 ne_b1_b47).other W77 ne_b1_b47).other W80 ne_b1_b47)
    obtain ⟨c88, c88A, c88q, c88S, c88N, c88H, c88G⟩ := id f87
    have c88in : ¬ ((1 : Int32) < 0 ∨ c88.slots.size ≤ ((1 : Int32)).toNatClampNeg) := inb_of c88S ⟨by decide, by decide⟩
    have c88at : c88.slots[((1 : Int32)).toNatClampNeg]? = some (.ref w_DECREMENT_BID) := Has.at c88H c88in rfl
    obtain ⟨cq89, kq89, q89a, q89b, q89c⟩ := isOf hZ e80 (U_DECREMENT_BID.2.1.ext O81.2)
    obtain ⟨_, _, ⟨T89, L89, k89, n89⟩, -, X89, ⟨Lc89, hQ89, l89, y89, z89⟩, st89⟩ := X80.virtualBack hx (y := (⟨"com/example/holdfast/holdfast/PositionKind", "crossesBorder", "()Z"⟩ : MethodName)) (z := (⟨"com/example/holdfast/holdfast/PositionKind", "crossesBorder", "()Z"⟩ : MethodName)) hown (mvT hZ (hw _ (own_m 28 rfl))) (mvT hZ (hw _ (own_m 29 rfl))) (notFace_of_selects (args := #[]) (mvT hZ (hw _ (own_m 31 rfl)))) (mvT hZ (hw _ (own_m 31 rfl))) (mvT hZ (hw _ (own_m 30 rfl))) (by decide) (backOf (W := 0) (own_m_DECREMENT_BID l Z a0 hw [] w_DEMAND_BID w_DECREMENT_BID w_METERED_LOAD w_EXTERNAL_SALE w_IBT_LOAD w_SUPPLY_OFFER w_INCREMENT_OFFER w_METERED_GENERATION w_EXTERNAL_PURCHASE w_IBT_MARKET w_IBT_MARKET_EXCL w_WITHDRAWAL w_INJECTION w_EITHER  h80 n0 O81 U_DEMAND_BID U_DECREMENT_BID U_METERED_LOAD U_EXTERNAL_SALE U_IBT_LOAD U_SUPPLY_OFFER U_INCREMENT_OFFER U_METERED_GENERATION U_EXTERNAL_PURCHASE U_IBT_MARKET U_IBT_MARKET_EXCL U_WITHDRAWAL U_INJECTION U_EITHER G_EXTERNAL_SALE G_EXTERNAL_PURCHASE ) hZ (hw _ (own_m 32 rfl)) (hw _ (own_m 3 rfl)) (by decide) (by decide)) q89a q89c (g := (mkF m 146 #[iv p0, rv b1, rv b47, iv 1, rv w_DECREMENT_BID, .unset] [(.ref w_DECREMENT_BID)])) rfl (by rw [hml]; rfl) (Steps.refl _) (argsL := []) (rest := []) (lenOf own_pd0 rfl) rfl (by show 2 * 0 + _ ≤ _; exact Nat.le_of_eq rfl) (hb hby at_146) (fun _ _ => ⟨rfl, e80, (by decide : 2 + 0 ≤ _), (by decide : 22 + 0 ≤ _)⟩)
    dsimp only [Pt.U, Pt.locs, Pt.cells, Pt.slots] at X89 l89 y89 z89 st89 hQ89
    subst y89 z89
    obtain ⟨rfl, N89q, e89⟩ := hQ89
    have N89 : Fr n0 L89 := by rw [l89]; exact Fr.app N80 N89q
    obtain ⟨c90, c90A, c90q, c90S, c90N, c90H, c90G⟩ := id V80
    have c90in : ¬ ((1 : Int32) < 0 ∨ c90.slots.size ≤ ((1 : Int32)).toNatClampNeg) := inb_of c90S ⟨by decide, by decide⟩
    have c90at : c90.slots[((1 : Int32)).toNatClampNeg]? = some (.int 0) := Has.at c90H c90in rfl
    obtain ⟨fs, hr, hrun, hended, hW, hsame⟩ := X89.leave (v := some (.int 1)) (fun h => by rw [Bd.returns] at h; cases h)
    refine ⟨_, _, pre82 _ ?_, hrun, hended, _, _, rfl, ?_, ⟨_, rfl⟩, hW, hsame.mono (by decide) (by decide)⟩
    · show Steps p.tables e below (T80.setTop (mkF m 137 #[iv p0, rv b1, rv b47, .unset, .unset, .unset] [(.int 11), (.int (p0 &&& (2147483647 : Int32)))])) _
      refine iremM X80 hx rfl (hb hby at_137) rfl (by decide) ?_
      show Steps p.tables e below (T80.setTop (mkF m 138 #[iv p0, rv b1, rv b47, .unset, .unset, .unset] [(.int ((p0 &&& (2147483647 : Int32)) % (11 : Int32)))])) _
      refine own_top (v' := (.int 1)) (congrArg Value.int hk) ?_
      show Steps p.tables e below (T80.setTop (mkF m 138 #[iv p0, rv b1, rv b47, .unset, .unset, .unset] [(.int 1)])) _
      refine XS.istoreN X80.here hx rfl (hb hby at_138) rfl (l' := #[iv p0, rv b1, rv b47, iv 1, .unset, .unset]) rfl ?_
      show Steps p.tables e below (T80.setTop (mkF m 139 #[iv p0, rv b1, rv b47, iv 1, .unset, .unset] [])) _
      refine XS.aloadN X80.here hx rfl (hb hby at_139) rfl rfl ?_
      show Steps p.tables e below (T80.setTop (mkF m 140 #[iv p0, rv b1, rv b47, iv 1, .unset, .unset] [(.ref b1)])) _
      refine XS.iloadN X80.here hx rfl (hb hby at_140) rfl ?_
      show Steps p.tables e below (T80.setTop (mkF m 141 #[iv p0, rv b1, rv b47, iv 1, .unset, .unset] [(.int 1), (.ref b1)])) _
      refine X80.aaload hx (j := (1 : Int32)) (v := (.ref w_DECREMENT_BID)) (by rw [e80]; exact c88A.1) (State.isArrayOf_alike hZ.alike c88A.2.1) rfl c88A.2.2 c88in c88at (g := (mkF m 141 #[iv p0, rv b1, rv b47, iv 1, .unset, .unset] [(.int 1), (.ref b1)])) rfl rfl (hb hby at_141) _ ?_
      show Steps p.tables e below (T80.setTop (mkF m 142 #[iv p0, rv b1, rv b47, iv 1, .unset, .unset] [(.ref w_DECREMENT_BID)])) _
      refine XS.astore X80.here hx rfl (hb hby at_142) rfl rfl (l' := #[iv p0, rv b1, rv b47, iv 1, rv w_DECREMENT_BID, .unset]) rfl ?_
      show Steps p.tables e below (T80.setTop (mkF m 144 #[iv p0, rv b1, rv b47, iv 1, rv w_DECREMENT_BID, .unset] [])) _
      refine XS.aload X80.here hx rfl (hb hby at_144) rfl rfl ?_
      show Steps p.tables e below (T80.setTop (mkF m 146 #[iv p0, rv b1, rv b47, iv 1, rv w_DECREMENT_BID, .unset] [(.ref w_DECREMENT_BID)])) _
      refine st89.trans ?_
      show Steps p.tables e below (T89.setTop (mkF m 149 #[iv p0, rv b1, rv b47, iv 1, rv w_DECREMENT_BID, .unset] [(.int 0)])) _
      refine XS.istore X89.here hx rfl (hb hby at_149) rfl (l' := #[iv p0, rv b1, rv b47, iv 1, rv w_DECREMENT_BID, iv 0]) rfl ?_
      show Steps p.tables e below (T89.setTop (mkF m 151 #[iv p0, rv b1, rv b47, iv 1, rv w_DECREMENT_BID, iv 0] [])) _
      refine XS.iload X89.here hx rfl (hb hby at_151) rfl ?_
      show Steps p.tables e below (T89.setTop (mkF m 153 #[iv p0, rv b1, rv b47, iv 1, rv w_DECREMENT_BID, iv 0] [(.int 0)])) _
      refine XS.aloadN X89.here hx rfl (hb hby at_153) rfl rfl ?_
      show Steps p.tables e below (T89.setTop (mkF m 154 #[iv p0, rv b1, rv b47, iv 1, rv w_DECREMENT_BID, iv 0] [(.ref b47), (.int 0)])) _
      refine XS.iloadN X89.here hx rfl (hb hby at_154) rfl ?_
      show Steps p.tables e below (T89.setTop (mkF m 155 #[iv p0, rv b1, rv b47, iv 1, rv w_DECREMENT_BID, iv 0] [(.int 1), (.ref b47), (.int 0)])) _
      refine X89.baloadBooleans hx (j := (1 : Int32)) (v := (.int 0)) (by rw [e89]; exact c90A.1) (State.isArrayOf_alike hZ.alike c90A.2.1) c90A.2.2 c90in c90at (g := (mkF m 155 #[iv p0, rv b1, rv b47, iv 1, rv w_DECREMENT_BID, iv 0] [(.int 1), (.ref b47), (.int 0)])) rfl rfl (hb hby at_155) _ ?_
      show Steps p.tables e below (T89.setTop (mkF m 156 #[iv p0, rv b1, rv b47, iv 1, rv w_DECREMENT_BID, iv 0] [(.int 0), (.int 0)])) _
      refine XS.icmpYes X89.here hx rfl (pc0 := 156) (pc' := 161) rfl (hb hby at_156) rfl (teq (by decide)).1 (by decide) (by decide) ?_
      show Steps p.tables e below (T89.setTop (mkF m 161 #[iv p0, rv b1, rv b47, iv 1, rv w_DECREMENT_BID, iv 0] [])) _
      refine XS.iload X89.here hx rfl (hb hby at_161) rfl ?_
      show Steps p.tables e below (T89.setTop (mkF m 163 #[iv p0, rv b1, rv b47, iv 1, rv w_DECREMENT_BID, iv 0] [(.int 0)])) _
      refine XS.ifYes X89.here hx rfl (pc0 := 163) (pc' := 179) rfl (hb hby at_163) rfl ((if0 _ _).trans (teq (by decide)).1) (by decide) (by decide) ?_
      show Steps p.tables e below (T89.setTop (mkF m 179 #[iv p0, rv b1, rv b47, iv 1, rv w_DECREMENT_BID, iv 0] [])) _
      refine XS.iconst X89.here hx rfl (hb hby at_179) ?_
      show Steps p.tables e below (T89.setTop (mkF m 180 #[iv p0, rv b1, rv b47, iv 1, rv w_DECREMENT_BID, iv 0] [(.int 1)])) _
      exact retN X89 hx (t := .boolean) Bd.returns (by simp) (hb hby at_180) hr
    · show own_law_Q Z w_DEMAND_BID w_DECREMENT_BID w_METERED_LOAD w_EXTERNAL_SALE w_IBT_LOAD w_SUPPLY_OFFER w_INCREMENT_OFFER w_METERED_GENERATION w_EXTERNAL_PURCHASE w_IBT_MARKET w_IBT_MARKET_EXCL w_WITHDRAWAL w_INJECTION w_EITHER p0 h0 n0 _ T89.heap _
      rw [e89]
      exact ⟨rfl, N89⟩
  · have f91 := ((((((((((((V45.ext E47).other W50 ne_b1_b47).other W53 ne_b1_b47).other W56 ne_b1_b47).other W59 ne_b1_b47).other W62 ne_b1_b47).other W65 ne_b1_b47).other W68 ne_b1_b47).other W71 ne_b1_b47).other W74 ne_b1_b47).other W77 ne_b1_b47).other W80 ne_b1_b47)
    obtain ⟨c92, c92A, c92q, c92S, c92N, c92H, c92G⟩ := id f91
    have c92in : ¬ ((2 : Int32) < 0 ∨ c92.slots.size ≤ ((2 : Int32)).toNatClampNeg) := inb_of c92S ⟨by decide, by decide⟩
    have c92at : c92.slots[((2 : Int32)).toNatClampNeg]? = some (.ref w_METERED_LOAD) := Has.at c92H c92in rfl
    obtain ⟨cq93, kq93, q93a, q93b, q93c⟩ := isOf hZ e80 (U_METERED_LOAD.2.1.ext O81.2)
    obtain ⟨_, _, ⟨T93, L93, k93, n93⟩, -, X93, ⟨Lc93, hQ93, l93, y93, z93⟩, st93⟩ := X80.virtualBack hx (y := (⟨"com/example/holdfast/holdfast/PositionKind", "crossesBorder", "()Z"⟩ : MethodName)) (z := (⟨"com/example/holdfast/holdfast/PositionKind", "crossesBorder", "()Z"⟩ : MethodName)) hown (mvT hZ (hw _ (own_m 28 rfl))) (mvT hZ (hw _ (own_m 29 rfl))) (notFace_of_selects (args := #[]) (mvT hZ (hw _ (own_m 31 rfl)))) (mvT hZ (hw _ (own_m 31 rfl))) (mvT hZ (hw _ (own_m 30 rfl))) (by decide) (backOf (W := 0) (own_m_METERED_LOAD l Z a0 hw [] w_DEMAND_BID w_DECREMENT_BID w_METERED_LOAD w_EXTERNAL_SALE w_IBT_LOAD w_SUPPLY_OFFER w_INCREMENT_OFFER w_METERED_GENERATION w_EXTERNAL_PURCHASE w_IBT_MARKET w_IBT_MARKET_EXCL w_WITHDRAWAL w_INJECTION w_EITHER  h80 n0 O81 U_DEMAND_BID U_DECREMENT_BID U_METERED_LOAD U_EXTERNAL_SALE U_IBT_LOAD U_SUPPLY_OFFER U_INCREMENT_OFFER U_METERED_GENERATION U_EXTERNAL_PURCHASE U_IBT_MARKET U_IBT_MARKET_EXCL U_WITHDRAWAL U_INJECTION U_EITHER G_EXTERNAL_SALE G_EXTERNAL_PURCHASE ) hZ (hw _ (own_m 32 rfl)) (hw _ (own_m 3 rfl)) (by decide) (by decide)) q93a q93c (g := (mkF m 146 #[iv p0, rv b1, rv b47, iv 2, rv w_METERED_LOAD, .unset] [(.ref w_METERED_LOAD)])) rfl (by rw [hml]; rfl) (Steps.refl _) (argsL := []) (rest := []) (lenOf own_pd0 rfl) rfl (by show 2 * 0 + _ ≤ _; exact Nat.le_of_eq rfl) (hb hby at_146) (fun _ _ => ⟨rfl, e80, (by decide : 2 + 0 ≤ _), (by decide : 22 + 0 ≤ _)⟩)
    dsimp only [Pt.U, Pt.locs, Pt.cells, Pt.slots] at X93 l93 y93 z93 st93 hQ93
    subst y93 z93
    obtain ⟨rfl, N93q, e93⟩ := hQ93
    have N93 : Fr n0 L93 := by rw [l93]; exact Fr.app N80 N93q
    obtain ⟨c94, c94A, c94q, c94S, c94N, c94H, c94G⟩ := id V80
    have c94in : ¬ ((2 : Int32) < 0 ∨ c94.slots.size ≤ ((2 : Int32)).toNatClampNeg) := inb_of c94S ⟨by decide, by decide⟩
    have c94at : c94.slots[((2 : Int32)).toNatClampNeg]? = some (.int 0) := Has.at c94H c94in rfl
    obtain ⟨fs, hr, hrun, hended, hW, hsame⟩ := X93.leave (v := some (.int 1)) (fun h => by rw [Bd.returns] at h; cases h)
    refine ⟨_, _, pre82 _ ?_, hrun, hended, _, _, rfl, ?_, ⟨_, rfl⟩, hW, hsame.mono (by decide) (by decide)⟩
    · show Steps p.tables e below (T80.setTop (mkF m 137 #[iv p0, rv b1, rv b47, .unset, .unset, .unset] [(.int 11), (.int (p0 &&& (2147483647 : Int32)))])) _
      refine iremM X80 hx rfl (hb hby at_137) rfl (by decide) ?_
      show Steps p.tables e below (T80.setTop (mkF m 138 #[iv p0, rv b1, rv b47, .unset, .unset, .unset] [(.int ((p0 &&& (2147483647 : Int32)) % (11 : Int32)))])) _
      refine own_top (v' := (.int 2)) (congrArg Value.int hk) ?_
      show Steps p.tables e below (T80.setTop (mkF m 138 #[iv p0, rv b1, rv b47, .unset, .unset, .unset] [(.int 2)])) _
      refine XS.istoreN X80.here hx rfl (hb hby at_138) rfl (l' := #[iv p0, rv b1, rv b47, iv 2, .unset, .unset]) rfl ?_
      show Steps p.tables e below (T80.setTop (mkF m 139 #[iv p0, rv b1, rv b47, iv 2, .unset, .unset] [])) _
      refine XS.aloadN X80.here hx rfl (hb hby at_139) rfl rfl ?_
      show Steps p.tables e below (T80.setTop (mkF m 140 #[iv p0, rv b1, rv b47, iv 2, .unset, .unset] [(.ref b1)])) _
      refine XS.iloadN X80.here hx rfl (hb hby at_140) rfl ?_
      show Steps p.tables e below (T80.setTop (mkF m 141 #[iv p0, rv b1, rv b47, iv 2, .unset, .unset] [(.int 2), (.ref b1)])) _
      refine X80.aaload hx (j := (2 : Int32)) (v := (.ref w_METERED_LOAD)) (by rw [e80]; exact c92A.1) (State.isArrayOf_alike hZ.alike c92A.2.1) rfl c92A.2.2 c92in c92at (g := (mkF m 141 #[iv p0, rv b1, rv b47, iv 2, .unset, .unset] [(.int 2), (.ref b1)])) rfl rfl (hb hby at_141) _ ?_
      show Steps p.tables e below (T80.setTop (mkF m 142 #[iv p0, rv b1, rv b47, iv 2, .unset, .unset] [(.ref w_METERED_LOAD)])) _
      refine XS.astore X80.here hx rfl (hb hby at_142) rfl rfl (l' := #[iv p0, rv b1, rv b47, iv 2, rv w_METERED_LOAD, .unset]) rfl ?_
      show Steps p.tables e below (T80.setTop (mkF m 144 #[iv p0, rv b1, rv b47, iv 2, rv w_METERED_LOAD, .unset] [])) _
      refine XS.aload X80.here hx rfl (hb hby at_144) rfl rfl ?_
      show Steps p.tables e below (T80.setTop (mkF m 146 #[iv p0, rv b1, rv b47, iv 2, rv w_METERED_LOAD, .unset] [(.ref w_METERED_LOAD)])) _
      refine st93.trans ?_
      show Steps p.tables e below (T93.setTop (mkF m 149 #[iv p0, rv b1, rv b47, iv 2, rv w_METERED_LOAD, .unset] [(.int 0)])) _
      refine XS.istore X93.here hx rfl (hb hby at_149) rfl (l' := #[iv p0, rv b1, rv b47, iv 2, rv w_METERED_LOAD, iv 0]) rfl ?_
      show Steps p.tables e below (T93.setTop (mkF m 151 #[iv p0, rv b1, rv b47, iv 2, rv w_METERED_LOAD, iv 0] [])) _
      refine XS.iload X93.here hx rfl (hb hby at_151) rfl ?_
      show Steps p.tables e below (T93.setTop (mkF m 153 #[iv p0, rv b1, rv b47, iv 2, rv w_METERED_LOAD, iv 0] [(.int 0)])) _
      refine XS.aloadN X93.here hx rfl (hb hby at_153) rfl rfl ?_
      show Steps p.tables e below (T93.setTop (mkF m 154 #[iv p0, rv b1, rv b47, iv 2, rv w_METERED_LOAD, iv 0] [(.ref b47), (.int 0)])) _
      refine XS.iloadN X93.here hx rfl (hb hby at_154) rfl ?_
      show Steps p.tables e below (T93.setTop (mkF m 155 #[iv p0, rv b1, rv b47, iv 2, rv w_METERED_LOAD, iv 0] [(.int 2), (.ref b47), (.int 0)])) _
      refine X93.baloadBooleans hx (j := (2 : Int32)) (v := (.int 0)) (by rw [e93]; exact c94A.1) (State.isArrayOf_alike hZ.alike c94A.2.1) c94A.2.2 c94in c94at (g := (mkF m 155 #[iv p0, rv b1, rv b47, iv 2, rv w_METERED_LOAD, iv 0] [(.int 2), (.ref b47), (.int 0)])) rfl rfl (hb hby at_155) _ ?_
      show Steps p.tables e below (T93.setTop (mkF m 156 #[iv p0, rv b1, rv b47, iv 2, rv w_METERED_LOAD, iv 0] [(.int 0), (.int 0)])) _
      refine XS.icmpYes X93.here hx rfl (pc0 := 156) (pc' := 161) rfl (hb hby at_156) rfl (teq (by decide)).1 (by decide) (by decide) ?_
      show Steps p.tables e below (T93.setTop (mkF m 161 #[iv p0, rv b1, rv b47, iv 2, rv w_METERED_LOAD, iv 0] [])) _
      refine XS.iload X93.here hx rfl (hb hby at_161) rfl ?_
      show Steps p.tables e below (T93.setTop (mkF m 163 #[iv p0, rv b1, rv b47, iv 2, rv w_METERED_LOAD, iv 0] [(.int 0)])) _
      refine XS.ifYes X93.here hx rfl (pc0 := 163) (pc' := 179) rfl (hb hby at_163) rfl ((if0 _ _).trans (teq (by decide)).1) (by decide) (by decide) ?_
      show Steps p.tables e below (T93.setTop (mkF m 179 #[iv p0, rv b1, rv b47, iv 2, rv w_METERED_LOAD, iv 0] [])) _
      refine XS.iconst X93.here hx rfl (hb hby at_179) ?_
      show Steps p.tables e below (T93.setTop (mkF m 180 #[iv p0, rv b1, rv b47, iv 2, rv w_METERED_LOAD, iv 0] [(.int 1)])) _
      exact retN X93 hx (t := .boolean) Bd.returns (by simp) (hb hby at_180) hr
    · show own_law_Q Z w_DEMAND_BID w_DECREMENT_BID w_METERED_LOAD w_EXTERNAL_SALE w_IBT_LOAD w_SUPPLY_OFFER w_INCREMENT_OFFER w_METERED_GENERATION w_EXTERNAL_PURCHASE w_IBT_MARKET w_IBT_MARKET_EXCL w_WITHDRAWAL w_INJECTION w_EITHER p0 h0 n0 _ T93.heap _
      rw [e93]
      exact ⟨rfl, N93⟩
  · have f95 := ((((((((((((V45.ext E47).other W50 ne_b1_b47).other W53 ne_b1_b47).other W56 ne_b1_b47).other W59 ne_b1_b47).other W62 ne_b1_b47).other W65 ne_b1_b47).other W68 ne_b1_b47).other W71 ne_b1_b47).other W74 ne_b1_b47).other W77 ne_b1_b47).other W80 ne_b1_b47)
    obtain ⟨c96, c96A, c96q, c96S, c96N, c96H, c96G⟩ := id f95
    have c96in : ¬ ((3 : Int32) < 0 ∨ c96.slots.size ≤ ((3 : Int32)).toNatClampNeg) := inb_of c96S ⟨by decide, by decide⟩
    have c96at : c96.slots[((3 : Int32)).toNatClampNeg]? = some (.ref w_EXTERNAL_SALE) := Has.at c96H c96in rfl
    obtain ⟨cq97, kq97, q97a, q97b, q97c⟩ := isOf hZ e80 (U_EXTERNAL_SALE.2.1.ext O81.2)
    obtain ⟨_, _, ⟨T97, L97, k97, n97⟩, -, X97, ⟨Lc97, hQ97, l97, y97, z97⟩, st97⟩ := X80.virtualBack hx (y := (⟨"com/example/holdfast/holdfast/PositionKind", "crossesBorder", "()Z"⟩ : MethodName)) (z := (⟨"com/example/holdfast/holdfast/PositionKind", "crossesBorder", "()Z"⟩ : MethodName)) hown (mvT hZ (hw _ (own_m 28 rfl))) (mvT hZ (hw _ (own_m 29 rfl))) (notFace_of_selects (args := #[]) (mvT hZ (hw _ (own_m 31 rfl)))) (mvT hZ (hw _ (own_m 31 rfl))) (mvT hZ (hw _ (own_m 30 rfl))) (by decide) (backOf (W := 0) (own_m_EXTERNAL_SALE l Z a0 hw [] w_DEMAND_BID w_DECREMENT_BID w_METERED_LOAD w_EXTERNAL_SALE w_IBT_LOAD w_SUPPLY_OFFER w_INCREMENT_OFFER w_METERED_GENERATION w_EXTERNAL_PURCHASE w_IBT_MARKET w_IBT_MARKET_EXCL w_WITHDRAWAL w_INJECTION w_EITHER  h80 n0 O81 U_DEMAND_BID U_DECREMENT_BID U_METERED_LOAD U_EXTERNAL_SALE U_IBT_LOAD U_SUPPLY_OFFER U_INCREMENT_OFFER U_METERED_GENERATION U_EXTERNAL_PURCHASE U_IBT_MARKET U_IBT_MARKET_EXCL U_WITHDRAWAL U_INJECTION U_EITHER G_EXTERNAL_SALE G_EXTERNAL_PURCHASE ) hZ (hw _ (own_m 32 rfl)) (hw _ (own_m 3 rfl)) (by decide) (by decide)) q97a q97c (g := (mkF m 146 #[iv p0, rv b1, rv b47, iv 3, rv w_EXTERNAL_SALE, .unset] [(.ref w_EXTERNAL_SALE)])) rfl (by rw [hml]; rfl) (Steps.refl _) (argsL := []) (rest := []) (lenOf own_pd0 rfl) rfl (by show 2 * 0 + _ ≤ _; exact Nat.le_of_eq rfl) (hb hby at_146) (fun _ _ => ⟨rfl, e80, (by decide : 2 + 0 ≤ _), (by decide : 22 + 0 ≤ _)⟩)
    dsimp only [Pt.U, Pt.locs, Pt.cells, Pt.slots] at X97 l97 y97 z97 st97 hQ97
    subst y97 z97
    obtain ⟨rfl, N97q, e97⟩ := hQ97
    have N97 : Fr n0 L97 := by rw [l97]; exact Fr.app N80 N97q
    obtain ⟨c98, c98A, c98q, c98S, c98N, c98H, c98G⟩ := id V80
    have c98in : ¬ ((3 : Int32) < 0 ∨ c98.slots.size ≤ ((3 : Int32)).toNatClampNeg) := inb_of c98S ⟨by decide, by decide⟩
    have c98at : c98.slots[((3 : Int32)).toNatClampNeg]? = some (.int 1) := Has.at c98H c98in rfl
    obtain ⟨cq99, kq99, q99a, q99b, q99c⟩ := isOf hZ e97 (U_EXTERNAL_SALE.2.1.ext O81.2)
    obtain ⟨_, _, ⟨T99, L99, k99, n99⟩, -, X99, ⟨Lc99, hQ99, l99, y99, z99⟩, st99⟩ := X97.virtualBack hx (y := (⟨"com/example/holdfast/holdfast/PositionKind", "sign", "()Lcom/example/holdfast/holdfast/PositionKind$Sign;"⟩ : MethodName)) (z := (⟨"com/example/holdfast/holdfast/PositionKind", "sign", "()Lcom/example/holdfast/holdfast/PositionKind$Sign;"⟩ : MethodName)) hown (mvT hZ (hw _ (own_m 35 rfl))) (mvT hZ (hw _ (own_m 36 rfl))) (notFace_of_selects (args := #[]) (mvT hZ (hw _ (own_m 38 rfl)))) (mvT hZ (hw _ (own_m 38 rfl))) (mvT hZ (hw _ (own_m 37 rfl))) (by decide) (backOf (W := 0) (own_s_EXTERNAL_SALE l Z a0 hw [] w_DEMAND_BID w_DECREMENT_BID w_METERED_LOAD w_EXTERNAL_SALE w_IBT_LOAD w_SUPPLY_OFFER w_INCREMENT_OFFER w_METERED_GENERATION w_EXTERNAL_PURCHASE w_IBT_MARKET w_IBT_MARKET_EXCL w_WITHDRAWAL w_INJECTION w_EITHER  h80 n0 O81 U_DEMAND_BID U_DECREMENT_BID U_METERED_LOAD U_EXTERNAL_SALE U_IBT_LOAD U_SUPPLY_OFFER U_INCREMENT_OFFER U_METERED_GENERATION U_EXTERNAL_PURCHASE U_IBT_MARKET U_IBT_MARKET_EXCL U_WITHDRAWAL U_INJECTION U_EITHER G_EXTERNAL_SALE G_EXTERNAL_PURCHASE ) hZ (hw _ (own_m 39 rfl)) (hw _ (own_m 3 rfl)) (by decide) (by decide)) q99a q99c (g := (mkF m 168 #[iv p0, rv b1, rv b47, iv 3, rv w_EXTERNAL_SALE, iv 1] [(.ref w_EXTERNAL_SALE)])) rfl (by rw [hml]; rfl) (Steps.refl _) (argsL := []) (rest := []) (lenOf own_pd1 rfl) rfl (by show 2 * 0 + _ ≤ _; exact Nat.le_of_eq rfl) (hb hby at_168) (fun _ _ => ⟨rfl, e97, (by decide : 2 + 0 ≤ _), (by decide : 22 + 0 ≤ _)⟩)
    dsimp only [Pt.U, Pt.locs, Pt.cells, Pt.slots] at X99 l99 y99 z99 st99 hQ99
    subst y99 z99
    obtain ⟨rfl, N99q, e99⟩ := hQ99
    have N99 : Fr n0 L99 := by rw [l99]; exact Fr.app N97 N99q
    obtain ⟨T100, X100, e100, st100⟩ := getS2 X99 hx hZ hown (host := "") (Or.inl (hw _ (own_m 44 rfl))) Via.refl e99 (U_EITHER.1.ext O81.2) (g := (mkF m 171 #[iv p0, rv b1, rv b47, iv 3, rv w_EXTERNAL_SALE, iv 1] [(.ref w_WITHDRAWAL)])) rfl (hb hby at_171)
    obtain ⟨fs, hr, hrun, hended, hW, hsame⟩ := X100.leave (v := some (.int 1)) (fun h => by rw [Bd.returns] at h; cases h)
    refine ⟨_, _, pre82 _ ?_, hrun, hended, _, _, rfl, ?_, ⟨_, rfl⟩, hW, hsame.mono (by decide) (by decide)⟩
    · show Steps p.tables e below (T80.setTop (mkF m 137 #[iv p0, rv b1, rv b47, .unset, .unset, .unset] [(.int 11), (.int (p0 &&& (2147483647 : Int32)))])) _
      refine iremM X80 hx rfl (hb hby at_137) rfl (by decide) ?_
      show Steps p.tables e below (T80.setTop (mkF m 138 #[iv p0, rv b1, rv b47, .unset, .unset, .unset] [(.int ((p0 &&& (2147483647 : Int32)) % (11 : Int32)))])) _
      refine own_top (v' := (.int 3)) (congrArg Value.int hk) ?_
      show Steps p.tables e below (T80.setTop (mkF m 138 #[iv p0, rv b1, rv b47, .unset, .unset, .unset] [(.int 3)])) _
      refine XS.istoreN X80.here hx rfl (hb hby at_138) rfl (l' := #[iv p0, rv b1, rv b47, iv 3, .unset, .unset]) rfl ?_
      show Steps p.tables e below (T80.setTop (mkF m 139 #[iv p0, rv b1, rv b47, iv 3, .unset, .unset] [])) _
      refine XS.aloadN X80.here hx rfl (hb hby at_139) rfl rfl ?_
      show Steps p.tables e below (T80.setTop (mkF m 140 #[iv p0, rv b1, rv b47, iv 3, .unset, .unset] [(.ref b1)])) _
      refine XS.iloadN X80.here hx rfl (hb hby at_140) rfl ?_
      show Steps p.tables e below (T80.setTop (mkF m 141 #[iv p0, rv b1, rv b47, iv 3, .unset, .unset] [(.int 3), (.ref b1)])) _
      refine X80.aaload hx (j := (3 : Int32)) (v := (.ref w_EXTERNAL_SALE)) (by rw [e80]; exact c96A.1) (State.isArrayOf_alike hZ.alike c96A.2.1) rfl c96A.2.2 c96in c96at (g := (mkF m 141 #[iv p0, rv b1, rv b47, iv 3, .unset, .unset] [(.int 3), (.ref b1)])) rfl rfl (hb hby at_141) _ ?_
      show Steps p.tables e below (T80.setTop (mkF m 142 #[iv p0, rv b1, rv b47, iv 3, .unset, .unset] [(.ref w_EXTERNAL_SALE)])) _
      refine XS.astore X80.here hx rfl (hb hby at_142) rfl rfl (l' := #[iv p0, rv b1, rv b47, iv 3, rv w_EXTERNAL_SALE, .unset]) rfl ?_
      show Steps p.tables e below (T80.setTop (mkF m 144 #[iv p0, rv b1, rv b47, iv 3, rv w_EXTERNAL_SALE, .unset] [])) _
      refine XS.aload X80.here hx rfl (hb hby at_144) rfl rfl ?_
      show Steps p.tables e below (T80.setTop (mkF m 146 #[iv p0, rv b1, rv b47, iv 3, rv w_EXTERNAL_SALE, .unset] [(.ref w_EXTERNAL_SALE)])) _
      refine st97.trans ?_
      show Steps p.tables e below (T97.setTop (mkF m 149 #[iv p0, rv b1, rv b47, iv 3, rv w_EXTERNAL_SALE, .unset] [(.int 1)])) _
      refine XS.istore X97.here hx rfl (hb hby at_149) rfl (l' := #[iv p0, rv b1, rv b47, iv 3, rv w_EXTERNAL_SALE, iv 1]) rfl ?_
      show Steps p.tables e below (T97.setTop (mkF m 151 #[iv p0, rv b1, rv b47, iv 3, rv w_EXTERNAL_SALE, iv 1] [])) _
      refine XS.iload X97.here hx rfl (hb hby at_151) rfl ?_
      show Steps p.tables e below (T97.setTop (mkF m 153 #[iv p0, rv b1, rv b47, iv 3, rv w_EXTERNAL_SALE, iv 1] [(.int 1)])) _
      refine XS.aloadN X97.here hx rfl (hb hby at_153) rfl rfl ?_
      show Steps p.tables e below (T97.setTop (mkF m 154 #[iv p0, rv b1, rv b47, iv 3, rv w_EXTERNAL_SALE, iv 1] [(.ref b47), (.int 1)])) _
      refine XS.iloadN X97.here hx rfl (hb hby at_154) rfl ?_
      show Steps p.tables e below (T97.setTop (mkF m 155 #[iv p0, rv b1, rv b47, iv 3, rv w_EXTERNAL_SALE, iv 1] [(.int 3), (.ref b47), (.int 1)])) _
      refine X97.baloadBooleans hx (j := (3 : Int32)) (v := (.int 1)) (by rw [e97]; exact c98A.1) (State.isArrayOf_alike hZ.alike c98A.2.1) c98A.2.2 c98in c98at (g := (mkF m 155 #[iv p0, rv b1, rv b47, iv 3, rv w_EXTERNAL_SALE, iv 1] [(.int 3), (.ref b47), (.int 1)])) rfl rfl (hb hby at_155) _ ?_
      show Steps p.tables e below (T97.setTop (mkF m 156 #[iv p0, rv b1, rv b47, iv 3, rv w_EXTERNAL_SALE, iv 1] [(.int 1), (.int 1)])) _
      refine XS.icmpYes X97.here hx rfl (pc0 := 156) (pc' := 161) rfl (hb hby at_156) rfl (teq (by decide)).1 (by decide) (by decide) ?_
      show Steps p.tables e below (T97.setTop (mkF m 161 #[iv p0, rv b1, rv b47, iv 3, rv w_EXTERNAL_SALE, iv 1] [])) _
      refine XS.iload X97.here hx rfl (hb hby at_161) rfl ?_
      show Steps p.tables e below (T97.setTop (mkF m 163 #[iv p0, rv b1, rv b47, iv 3, rv w_EXTERNAL_SALE, iv 1] [(.int 1)])) _
      refine XS.ifNo X97.here hx rfl (hb hby at_163) rfl ((if0 _ _).trans (feq (by decide)).1) ?_
      show Steps p.tables e below (T97.setTop (mkF m 166 #[iv p0, rv b1, rv b47, iv 3, rv w_EXTERNAL_SALE, iv 1] [])) _
      refine XS.aload X97.here hx rfl (hb hby at_166) rfl rfl ?_
      show Steps p.tables e below (T97.setTop (mkF m 168 #[iv p0, rv b1, rv b47, iv 3, rv w_EXTERNAL_SALE, iv 1] [(.ref w_EXTERNAL_SALE)])) _
      refine st99.trans ?_
      show Steps p.tables e below (T99.setTop (mkF m 171 #[iv p0, rv b1, rv b47, iv 3, rv w_EXTERNAL_SALE, iv 1] [(.ref w_WITHDRAWAL)])) _
      refine st100 _ ?_
      show Steps p.tables e below (T100.setTop (mkF m 174 #[iv p0, rv b1, rv b47, iv 3, rv w_EXTERNAL_SALE, iv 1] [(.ref w_EITHER), (.ref w_WITHDRAWAL)])) _
      refine Jvm.RoadKit.acmp (g := (mkF m 174 #[iv p0, rv b1, rv b47, iv 3, rv w_EXTERNAL_SALE, iv 1] [(.ref w_EITHER), (.ref w_WITHDRAWAL)])) X100 hx rfl rfl rfl (pc0 := 174) (pc' := 179) (same := false) rfl (hb hby at_174) rfl (decide_eq_false fun q => (Fld.ne U_WITHDRAWAL.2.2 U_EITHER.2.2 (by decide)) (Value.ref.inj q)) (by decide) (by decide) ?_
      show Steps p.tables e below (T100.setTop (mkF m 179 #[iv p0, rv b1, rv b47, iv 3, rv w_EXTERNAL_SALE, iv 1] [])) _
      refine XS.iconst X100.here hx rfl (hb hby at_179) ?_
      show Steps p.tables e below (T100.setTop (mkF m 180 #[iv p0, rv b1, rv b47, iv 3, rv w_EXTERNAL_SALE, iv 1] [(.int 1)])) _
      exact retN X100 hx (t := .boolean) Bd.returns (by simp) (hb hby at_180) hr
    · show own_law_Q Z w_DEMAND_BID w_DECREMENT_BID w_METERED_LOAD w_EXTERNAL_SALE w_IBT_LOAD w_SUPPLY_OFFER w_INCREMENT_OFFER w_METERED_GENERATION w_EXTERNAL_PURCHASE w_IBT_MARKET w_IBT_MARKET_EXCL w_WITHDRAWAL w_INJECTION w_EITHER p0 h0 n0 _ T100.heap _
      rw [e100]
      exact ⟨rfl, N99⟩
  · have f101 := ((((((((((((V45.ext E47).other W50 ne_b1_b47).other W53 ne_b1_b47).other W56 ne_b1_b47).other W59 ne_b1_b47).other W62 ne_b1_b47).other W65 ne_b1_b47).other W68 ne_b1_b47).other W71 ne_b1_b47).other W74 ne_b1_b47).other W77 ne_b1_b47).other W80 ne_b1_b47)
    obtain ⟨c102, c102A, c102q, c102S, c102N, c102H, c102G⟩ := id f101
    have c102in : ¬ ((4 : Int32) < 0 ∨ c102.slots.size ≤ ((4 : Int32)).toNatClampNeg) := inb_of c102S ⟨by decide, by decide⟩
    have c102at : c102.slots[((4 : Int32)).toNatClampNeg]? = some (.ref w_IBT_LOAD) := Has.at c102H c102in rfl
    obtain ⟨cq103, kq103, q103a, q103b, q103c⟩ := isOf hZ e80 (U_IBT_LOAD.2.1.ext O81.2)
    obtain ⟨_, _, ⟨T103, L103, k103, n103⟩, -, X103, ⟨Lc103, hQ103, l103, y103, z103⟩, st103⟩ := X80.virtualBack hx (y := (⟨"com/example/holdfast/holdfast/PositionKind", "crossesBorder", "()Z"⟩ : MethodName)) (z := (⟨"com/example/holdfast/holdfast/PositionKind", "crossesBorder", "()Z"⟩ : MethodName)) hown (mvT hZ (hw _ (own_m 28 rfl))) (mvT hZ (hw _ (own_m 29 rfl))) (notFace_of_selects (args := #[]) (mvT hZ (hw _ (own_m 31 rfl)))) (mvT hZ (hw _ (own_m 31 rfl))) (mvT hZ (hw _ (own_m 30 rfl))) (by decide) (backOf (W := 0) (own_m_IBT_LOAD l Z a0 hw [] w_DEMAND_BID w_DECREMENT_BID w_METERED_LOAD w_EXTERNAL_SALE w_IBT_LOAD w_SUPPLY_OFFER w_INCREMENT_OFFER w_METERED_GENERATION w_EXTERNAL_PURCHASE w_IBT_MARKET w_IBT_MARKET_EXCL w_WITHDRAWAL w_INJECTION w_EITHER  h80 n0 O81 U_DEMAND_BID U_DECREMENT_BID U_METERED_LOAD U_EXTERNAL_SALE U_IBT_LOAD U_SUPPLY_OFFER U_INCREMENT_OFFER U_METERED_GENERATION U_EXTERNAL_PURCHASE U_IBT_MARKET U_IBT_MARKET_EXCL U_WITHDRAWAL U_INJECTION U_EITHER G_EXTERNAL_SALE G_EXTERNAL_PURCHASE ) hZ (hw _ (own_m 32 rfl)) (hw _ (own_m 3 rfl)) (by decide) (by decide)) q103a q103c (g := (mkF m 146 #[iv p0, rv b1, rv b47, iv 4, rv w_IBT_LOAD, .unset] [(.ref w_IBT_LOAD)])) rfl (by rw [hml]; rfl) (Steps.refl _) (argsL := []) (rest := []) (lenOf own_pd0 rfl) rfl (by show 2 * 0 + _ ≤ _; exact Nat.le_of_eq rfl) (hb hby at_146) (fun _ _ => ⟨rfl, e80, (by decide : 2 + 0 ≤ _), (by decide : 22 + 0 ≤ _)⟩)
    dsimp only [Pt.U, Pt.locs, Pt.cells, Pt.slots] at X103 l103 y103 z103 st103 hQ103
    subst y103 z103
    obtain ⟨rfl, N103q, e103⟩ := hQ103
    have N103 : Fr n0 L103 := by rw [l103]; exact Fr.app N80 N103q
    obtain ⟨c104, c104A, c104q, c104S, c104N, c104H, c104G⟩ := id V80
    have c104in : ¬ ((4 : Int32) < 0 ∨ c104.slots.size ≤ ((4 : Int32)).toNatClampNeg) := inb_of c104S ⟨by decide, by decide⟩
    have c104at : c104.slots[((4 : Int32)).toNatClampNeg]? = some (.int 0) := Has.at c104H c104in rfl
    obtain ⟨fs, hr, hrun, hended, hW, hsame⟩ := X103.leave (v := some (.int 1)) (fun h => by rw [Bd.returns] at h; cases h)
    refine ⟨_, _, pre82 _ ?_, hrun, hended, _, _, rfl, ?_, ⟨_, rfl⟩, hW, hsame.mono (by decide) (by decide)⟩
    · show Steps p.tables e below (T80.setTop (mkF m 137 #[iv p0, rv b1, rv b47, .unset, .unset, .unset] [(.int 11), (.int (p0 &&& (2147483647 : Int32)))])) _
      refine iremM X80 hx rfl (hb hby at_137) rfl (by decide) ?_
      show Steps p.tables e below (T80.setTop (mkF m 138 #[iv p0, rv b1, rv b47, .unset, .unset, .unset] [(.int ((p0 &&& (2147483647 : Int32)) % (11 : Int32)))])) _
      refine own_top (v' := (.int 4)) (congrArg Value.int hk) ?_
      show Steps p.tables e below (T80.setTop (mkF m 138 #[iv p0, rv b1, rv b47, .unset, .unset, .unset] [(.int 4)])) _
      refine XS.istoreN X80.here hx rfl (hb hby at_138) rfl (l' := #[iv p0, rv b1, rv b47, iv 4, .unset, .unset]) rfl ?_
      show Steps p.tables e below (T80.setTop (mkF m 139 #[iv p0, rv b1, rv b47, iv 4, .unset, .unset] [])) _
      refine XS.aloadN X80.here hx rfl (hb hby at_139) rfl rfl ?_
      show Steps p.tables e below (T80.setTop (mkF m 140 #[iv p0, rv b1, rv b47, iv 4, .unset, .unset] [(.ref b1)])) _
      refine XS.iloadN X80.here hx rfl (hb hby at_140) rfl ?_
      show Steps p.tables e below (T80.setTop (mkF m 141 #[iv p0, rv b1, rv b47, iv 4, .unset, .unset] [(.int 4), (.ref b1)])) _
      refine X80.aaload hx (j := (4 : Int32)) (v := (.ref w_IBT_LOAD)) (by rw [e80]; exact c102A.1) (State.isArrayOf_alike hZ.alike c102A.2.1) rfl c102A.2.2 c102in c102at (g := (mkF m 141 #[iv p0, rv b1, rv b47, iv 4, .unset, .unset] [(.int 4), (.ref b1)])) rfl rfl (hb hby at_141) _ ?_
      show Steps p.tables e below (T80.setTop (mkF m 142 #[iv p0, rv b1, rv b47, iv 4, .unset, .unset] [(.ref w_IBT_LOAD)])) _
      refine XS.astore X80.here hx rfl (hb hby at_142) rfl rfl (l' := #[iv p0, rv b1, rv b47, iv 4, rv w_IBT_LOAD, .unset]) rfl ?_
      show Steps p.tables e below (T80.setTop (mkF m 144 #[iv p0, rv b1, rv b47, iv 4, rv w_IBT_LOAD, .unset] [])) _
      refine XS.aload X80.here hx rfl (hb hby at_144) rfl rfl ?_
      show Steps p.tables e below (T80.setTop (mkF m 146 #[iv p0, rv b1, rv b47, iv 4, rv w_IBT_LOAD, .unset] [(.ref w_IBT_LOAD)])) _
      refine st103.trans ?_
      show Steps p.tables e below (T103.setTop (mkF m 149 #[iv p0, rv b1, rv b47, iv 4, rv w_IBT_LOAD, .unset] [(.int 0)])) _
      refine XS.istore X103.here hx rfl (hb hby at_149) rfl (l' := #[iv p0, rv b1, rv b47, iv 4, rv w_IBT_LOAD, iv 0]) rfl ?_
      show Steps p.tables e below (T103.setTop (mkF m 151 #[iv p0, rv b1, rv b47, iv 4, rv w_IBT_LOAD, iv 0] [])) _
      refine XS.iload X103.here hx rfl (hb hby at_151) rfl ?_
      show Steps p.tables e below (T103.setTop (mkF m 153 #[iv p0, rv b1, rv b47, iv 4, rv w_IBT_LOAD, iv 0] [(.int 0)])) _
      refine XS.aloadN X103.here hx rfl (hb hby at_153) rfl rfl ?_
      show Steps p.tables e below (T103.setTop (mkF m 154 #[iv p0, rv b1, rv b47, iv 4, rv w_IBT_LOAD, iv 0] [(.ref b47), (.int 0)])) _
      refine XS.iloadN X103.here hx rfl (hb hby at_154) rfl ?_
      show Steps p.tables e below (T103.setTop (mkF m 155 #[iv p0, rv b1, rv b47, iv 4, rv w_IBT_LOAD, iv 0] [(.int 4), (.ref b47), (.int 0)])) _
      refine X103.baloadBooleans hx (j := (4 : Int32)) (v := (.int 0)) (by rw [e103]; exact c104A.1) (State.isArrayOf_alike hZ.alike c104A.2.1) c104A.2.2 c104in c104at (g := (mkF m 155 #[iv p0, rv b1, rv b47, iv 4, rv w_IBT_LOAD, iv 0] [(.int 4), (.ref b47), (.int 0)])) rfl rfl (hb hby at_155) _ ?_
      show Steps p.tables e below (T103.setTop (mkF m 156 #[iv p0, rv b1, rv b47, iv 4, rv w_IBT_LOAD, iv 0] [(.int 0), (.int 0)])) _
      refine XS.icmpYes X103.here hx rfl (pc0 := 156) (pc' := 161) rfl (hb hby at_156) rfl (teq (by decide)).1 (by decide) (by decide) ?_
      show Steps p.tables e below (T103.setTop (mkF m 161 #[iv p0, rv b1, rv b47, iv 4, rv w_IBT_LOAD, iv 0] [])) _
      refine XS.iload X103.here hx rfl (hb hby at_161) rfl ?_
      show Steps p.tables e below (T103.setTop (mkF m 163 #[iv p0, rv b1, rv b47, iv 4, rv w_IBT_LOAD, iv 0] [(.int 0)])) _
      refine XS.ifYes X103.here hx rfl (pc0 := 163) (pc' := 179) rfl (hb hby at_163) rfl ((if0 _ _).trans (teq (by decide)).1) (by decide) (by decide) ?_
      show Steps p.tables e below (T103.setTop (mkF m 179 #[iv p0, rv b1, rv b47, iv 4, rv w_IBT_LOAD, iv 0] [])) _
      refine XS.iconst X103.here hx rfl (hb hby at_179) ?_
      show Steps p.tables e below (T103.setTop (mkF m 180 #[iv p0, rv b1, rv b47, iv 4, rv w_IBT_LOAD, iv 0] [(.int 1)])) _
      exact retN X103 hx (t := .boolean) Bd.returns (by simp) (hb hby at_180) hr
    · show own_law_Q Z w_DEMAND_BID w_DECREMENT_BID w_METERED_LOAD w_EXTERNAL_SALE w_IBT_LOAD w_SUPPLY_OFFER w_INCREMENT_OFFER w_METERED_GENERATION w_EXTERNAL_PURCHASE w_IBT_MARKET w_IBT_MARKET_EXCL w_WITHDRAWAL w_INJECTION w_EITHER p0 h0 n0 _ T103.heap _
      rw [e103]
      exact ⟨rfl, N103⟩
  · have f105 := ((((((((((((V45.ext E47).other W50 ne_b1_b47).other W53 ne_b1_b47).other W56 ne_b1_b47).other W59 ne_b1_b47).other W62 ne_b1_b47).other W65 ne_b1_b47).other W68 ne_b1_b47).other W71 ne_b1_b47).other W74 ne_b1_b47).other W77 ne_b1_b47).other W80 ne_b1_b47)
    obtain ⟨c106, c106A, c106q, c106S, c106N, c106H, c106G⟩ := id f105
    have c106in : ¬ ((5 : Int32) < 0 ∨ c106.slots.size ≤ ((5 : Int32)).toNatClampNeg) := inb_of c106S ⟨by decide, by decide⟩
    have c106at : c106.slots[((5 : Int32)).toNatClampNeg]? = some (.ref w_SUPPLY_OFFER) := Has.at c106H c106in rfl
    obtain ⟨cq107, kq107, q107a, q107b, q107c⟩ := isOf hZ e80 (U_SUPPLY_OFFER.2.1.ext O81.2)
    obtain ⟨_, _, ⟨T107, L107, k107, n107⟩, -, X107, ⟨Lc107, hQ107, l107, y107, z107⟩, st107⟩ := X80.virtualBack hx (y := (⟨"com/example/holdfast/holdfast/PositionKind", "crossesBorder", "()Z"⟩ : MethodName)) (z := (⟨"com/example/holdfast/holdfast/PositionKind", "crossesBorder", "()Z"⟩ : MethodName)) hown (mvT hZ (hw _ (own_m 28 rfl))) (mvT hZ (hw _ (own_m 29 rfl))) (notFace_of_selects (args := #[]) (mvT hZ (hw _ (own_m 31 rfl)))) (mvT hZ (hw _ (own_m 31 rfl))) (mvT hZ (hw _ (own_m 30 rfl))) (by decide) (backOf (W := 0) (own_m_SUPPLY_OFFER l Z a0 hw [] w_DEMAND_BID w_DECREMENT_BID w_METERED_LOAD w_EXTERNAL_SALE w_IBT_LOAD w_SUPPLY_OFFER w_INCREMENT_OFFER w_METERED_GENERATION w_EXTERNAL_PURCHASE w_IBT_MARKET w_IBT_MARKET_EXCL w_WITHDRAWAL w_INJECTION w_EITHER  h80 n0 O81 U_DEMAND_BID U_DECREMENT_BID U_METERED_LOAD U_EXTERNAL_SALE U_IBT_LOAD U_SUPPLY_OFFER U_INCREMENT_OFFER U_METERED_GENERATION U_EXTERNAL_PURCHASE U_IBT_MARKET U_IBT_MARKET_EXCL U_WITHDRAWAL U_INJECTION U_EITHER G_EXTERNAL_SALE G_EXTERNAL_PURCHASE ) hZ (hw _ (own_m 32 rfl)) (hw _ (own_m 3 rfl)) (by decide) (by decide)) q107a q107c (g := (mkF m 146 #[iv p0, rv b1, rv b47, iv 5, rv w_SUPPLY_OFFER, .unset] [(.ref w_SUPPLY_OFFER)])) rfl (by rw [hml]; rfl) (Steps.refl _) (argsL := []) (rest := []) (lenOf own_pd0 rfl) rfl (by show 2 * 0 + _ ≤ _; exact Nat.le_of_eq rfl) (hb hby at_146) (fun _ _ => ⟨rfl, e80, (by decide : 2 + 0 ≤ _), (by decide : 22 + 0 ≤ _)⟩)
    dsimp only [Pt.U, Pt.locs, Pt.cells, Pt.slots] at X107 l107 y107 z107 st107 hQ107
    subst y107 z107
    obtain ⟨rfl, N107q, e107⟩ := hQ107
    have N107 : Fr n0 L107 := by rw [l107]; exact Fr.app N80 N107q
    obtain ⟨c108, c108A, c108q, c108S, c108N, c108H, c108G⟩ := id V80
    have c108in : ¬ ((5 : Int32) < 0 ∨ c108.slots.size ≤ ((5 : Int32)).toNatClampNeg) := inb_of c108S ⟨by decide, by decide⟩
    have c108at : c108.slots[((5 : Int32)).toNatClampNeg]? = some (.int 0) := Has.at c108H c108in rfl
    obtain ⟨fs, hr, hrun, hended, hW, hsame⟩ := X107.leave (v := some (.int 1)) (fun h => by rw [Bd.returns] at h; cases h)
    refine ⟨_, _, pre82 _ ?_, hrun, hended, _, _, rfl, ?_, ⟨_, rfl⟩, hW, hsame.mono (by decide) (by decide)⟩
    · show Steps p.tables e below (T80.setTop (mkF m 137 #[iv p0, rv b1, rv b47, .unset, .unset, .unset] [(.int 11), (.int (p0 &&& (2147483647 : Int32)))])) _
      refine iremM X80 hx rfl (hb hby at_137) rfl (by decide) ?_
      show Steps p.tables e below (T80.setTop (mkF m 138 #[iv p0, rv b1, rv b47, .unset, .unset, .unset] [(.int ((p0 &&& (2147483647 : Int32)) % (11 : Int32)))])) _
      refine own_top (v' := (.int 5)) (congrArg Value.int hk) ?_
      show Steps p.tables e below (T80.setTop (mkF m 138 #[iv p0, rv b1, rv b47, .unset, .unset, .unset] [(.int 5)])) _
      refine XS.istoreN X80.here hx rfl (hb hby at_138) rfl (l' := #[iv p0, rv b1, rv b47, iv 5, .unset, .unset]) rfl ?_
      show Steps p.tables e below (T80.setTop (mkF m 139 #[iv p0, rv b1, rv b47, iv 5, .unset, .unset] [])) _
      refine XS.aloadN X80.here hx rfl (hb hby at_139) rfl rfl ?_
      show Steps p.tables e below (T80.setTop (mkF m 140 #[iv p0, rv b1, rv b47, iv 5, .unset, .unset] [(.ref b1)])) _
      refine XS.iloadN X80.here hx rfl (hb hby at_140) rfl ?_
      show Steps p.tables e below (T80.setTop (mkF m 141 #[iv p0, rv b1, rv b47, iv 5, .unset, .unset] [(.int 5), (.ref b1)])) _
      refine X80.aaload hx (j := (5 : Int32)) (v := (.ref w_SUPPLY_OFFER)) (by rw [e80]; exact c106A.1) (State.isArrayOf_alike hZ.alike c106A.2.1) rfl c106A.2.2 c106in c106at (g := (mkF m 141 #[iv p0, rv b1, rv b47, iv 5, .unset, .unset] [(.int 5), (.ref b1)])) rfl rfl (hb hby at_141) _ ?_
      show Steps p.tables e below (T80.setTop (mkF m 142 #[iv p0, rv b1, rv b47, iv 5, .unset, .unset] [(.ref w_SUPPLY_OFFER)])) _
      refine XS.astore X80.here hx rfl (hb hby at_142) rfl rfl (l' := #[iv p0, rv b1, rv b47, iv 5, rv w_SUPPLY_OFFER, .unset]) rfl ?_
      show Steps p.tables e below (T80.setTop (mkF m 144 #[iv p0, rv b1, rv b47, iv 5, rv w_SUPPLY_OFFER, .unset] [])) _
      refine XS.aload X80.here hx rfl (hb hby at_144) rfl rfl ?_
      show Steps p.tables e below (T80.setTop (mkF m 146 #[iv p0, rv b1, rv b47, iv 5, rv w_SUPPLY_OFFER, .unset] [(.ref w_SUPPLY_OFFER)])) _
      refine st107.trans ?_
      show Steps p.tables e below (T107.setTop (mkF m 149 #[iv p0, rv b1, rv b47, iv 5, rv w_SUPPLY_OFFER, .unset] [(.int 0)])) _
      refine XS.istore X107.here hx rfl (hb hby at_149) rfl (l' := #[iv p0, rv b1, rv b47, iv 5, rv w_SUPPLY_OFFER, iv 0]) rfl ?_
      show Steps p.tables e below (T107.setTop (mkF m 151 #[iv p0, rv b1, rv b47, iv 5, rv w_SUPPLY_OFFER, iv 0] [])) _
      refine XS.iload X107.here hx rfl (hb hby at_151) rfl ?_
      show Steps p.tables e below (T107.setTop (mkF m 153 #[iv p0, rv b1, rv b47, iv 5, rv w_SUPPLY_OFFER, iv 0] [(.int 0)])) _
      refine XS.aloadN X107.here hx rfl (hb hby at_153) rfl rfl ?_
      show Steps p.tables e below (T107.setTop (mkF m 154 #[iv p0, rv b1, rv b47, iv 5, rv w_SUPPLY_OFFER, iv 0] [(.ref b47), (.int 0)])) _
      refine XS.iloadN X107.here hx rfl (hb hby at_154) rfl ?_
      show Steps p.tables e below (T107.setTop (mkF m 155 #[iv p0, rv b1, rv b47, iv 5, rv w_SUPPLY_OFFER, iv 0] [(.int 5), (.ref b47), (.int 0)])) _
      refine X107.baloadBooleans hx (j := (5 : Int32)) (v := (.int 0)) (by rw [e107]; exact c108A.1) (State.isArrayOf_alike hZ.alike c108A.2.1) c108A.2.2 c108in c108at (g := (mkF m 155 #[iv p0, rv b1, rv b47, iv 5, rv w_SUPPLY_OFFER, iv 0] [(.int 5), (.ref b47), (.int 0)])) rfl rfl (hb hby at_155) _ ?_
      show Steps p.tables e below (T107.setTop (mkF m 156 #[iv p0, rv b1, rv b47, iv 5, rv w_SUPPLY_OFFER, iv 0] [(.int 0), (.int 0)])) _
      refine XS.icmpYes X107.here hx rfl (pc0 := 156) (pc' := 161) rfl (hb hby at_156) rfl (teq (by decide)).1 (by decide) (by decide) ?_
      show Steps p.tables e below (T107.setTop (mkF m 161 #[iv p0, rv b1, rv b47, iv 5, rv w_SUPPLY_OFFER, iv 0] [])) _
      refine XS.iload X107.here hx rfl (hb hby at_161) rfl ?_
      show Steps p.tables e below (T107.setTop (mkF m 163 #[iv p0, rv b1, rv b47, iv 5, rv w_SUPPLY_OFFER, iv 0] [(.int 0)])) _
      refine XS.ifYes X107.here hx rfl (pc0 := 163) (pc' := 179) rfl (hb hby at_163) rfl ((if0 _ _).trans (teq (by decide)).1) (by decide) (by decide) ?_
      show Steps p.tables e below (T107.setTop (mkF m 179 #[iv p0, rv b1, rv b47, iv 5, rv w_SUPPLY_OFFER, iv 0] [])) _
      refine XS.iconst X107.here hx rfl (hb hby at_179) ?_
      show Steps p.tables e below (T107.setTop (mkF m 180 #[iv p0, rv b1, rv b47, iv 5, rv w_SUPPLY_OFFER, iv 0] [(.int 1)])) _
      exact retN X107 hx (t := .boolean) Bd.returns (by simp) (hb hby at_180) hr
    · show own_law_Q Z w_DEMAND_BID w_DECREMENT_BID w_METERED_LOAD w_EXTERNAL_SALE w_IBT_LOAD w_SUPPLY_OFFER w_INCREMENT_OFFER w_METERED_GENERATION w_EXTERNAL_PURCHASE w_IBT_MARKET w_IBT_MARKET_EXCL w_WITHDRAWAL w_INJECTION w_EITHER p0 h0 n0 _ T107.heap _
      rw [e107]
      exact ⟨rfl, N107⟩
  · have f109 := ((((((((((((V45.ext E47).other W50 ne_b1_b47).other W53 ne_b1_b47).other W56 ne_b1_b47).other W59 ne_b1_b47).other W62 ne_b1_b47).other W65 ne_b1_b47).other W68 ne_b1_b47).other W71 ne_b1_b47).other W74 ne_b1_b47).other W77 ne_b1_b47).other W80 ne_b1_b47)
    obtain ⟨c110, c110A, c110q, c110S, c110N, c110H, c110G⟩ := id f109
    have c110in : ¬ ((6 : Int32) < 0 ∨ c110.slots.size ≤ ((6 : Int32)).toNatClampNeg) := inb_of c110S ⟨by decide, by decide⟩
    have c110at : c110.slots[((6 : Int32)).toNatClampNeg]? = some (.ref w_INCREMENT_OFFER) := Has.at c110H c110in rfl
    obtain ⟨cq111, kq111, q111a, q111b, q111c⟩ := isOf hZ e80 (U_INCREMENT_OFFER.2.1.ext O81.2)
    obtain ⟨_, _, ⟨T111, L111, k111, n111⟩, -, X111, ⟨Lc111, hQ111, l111, y111, z111⟩, st111⟩ := X80.virtualBack hx (y := (⟨"com/example/holdfast/holdfast/PositionKind", "crossesBorder", "()Z"⟩ : MethodName)) (z := (⟨"com/example/holdfast/holdfast/PositionKind", "crossesBorder", "()Z"⟩ : MethodName)) hown (mvT hZ (hw _ (own_m 28 rfl))) (mvT hZ (hw _ (own_m 29 rfl))) (notFace_of_selects (args := #[]) (mvT hZ (hw _ (own_m 31 rfl)))) (mvT hZ (hw _ (own_m 31 rfl))) (mvT hZ (hw _ (own_m 30 rfl))) (by decide) (backOf (W := 0) (own_m_INCREMENT_OFFER l Z a0 hw [] w_DEMAND_BID w_DECREMENT_BID w_METERED_LOAD w_EXTERNAL_SALE w_IBT_LOAD w_SUPPLY_OFFER w_INCREMENT_OFFER w_METERED_GENERATION w_EXTERNAL_PURCHASE w_IBT_MARKET w_IBT_MARKET_EXCL w_WITHDRAWAL w_INJECTION w_EITHER  h80 n0 O81 U_DEMAND_BID U_DECREMENT_BID U_METERED_LOAD U_EXTERNAL_SALE U_IBT_LOAD U_SUPPLY_OFFER U_INCREMENT_OFFER U_METERED_GENERATION U_EXTERNAL_PURCHASE U_IBT_MARKET U_IBT_MARKET_EXCL U_WITHDRAWAL U_INJECTION U_EITHER G_EXTERNAL_SALE G_EXTERNAL_PURCHASE ) hZ (hw _ (own_m 32 rfl)) (hw _ (own_m 3 rfl)) (by decide) (by decide)) q111a q111c (g := (mkF m 146 #[iv p0, rv b1, rv b47, iv 6, rv w_INCREMENT_OFFER, .unset] [(.ref w_INCREMENT_OFFER)])) rfl (by rw [hml]; rfl) (Steps.refl _) (argsL := []) (rest := []) (lenOf own_pd0 rfl) rfl (by show 2 * 0 + _ ≤ _; exact Nat.le_of_eq rfl) (hb hby at_146) (fun _ _ => ⟨rfl, e80, (by decide : 2 + 0 ≤ _), (by decide : 22 + 0 ≤ _)⟩)
    dsimp only [Pt.U, Pt.locs, Pt.cells, Pt.slots] at X111 l111 y111 z111 st111 hQ111
    subst y111 z111
    obtain ⟨rfl, N111q, e111⟩ := hQ111
    have N111 : Fr n0 L111 := by rw [l111]; exact Fr.app N80 N111q
    obtain ⟨c112, c112A, c112q, c112S, c112N, c112H, c112G⟩ := id V80
    have c112in : ¬ ((6 : Int32) < 0 ∨ c112.slots.size ≤ ((6 : Int32)).toNatClampNeg) := inb_of c112S ⟨by decide, by decide⟩
    have c112at : c112.slots[((6 : Int32)).toNatClampNeg]? = some (.int 0) := Has.at c112H c112in rfl
    obtain ⟨fs, hr, hrun, hended, hW, hsame⟩ := X111.leave (v := some (.int 1)) (fun h => by rw [Bd.returns] at h; cases h)
    refine ⟨_, _, pre82 _ ?_, hrun, hended, _, _, rfl, ?_, ⟨_, rfl⟩, hW, hsame.mono (by decide) (by decide)⟩
    · show Steps p.tables e below (T80.setTop (mkF m 137 #[iv p0, rv b1, rv b47, .unset, .unset, .unset] [(.int 11), (.int (p0 &&& (2147483647 : Int32)))])) _
      refine iremM X80 hx rfl (hb hby at_137) rfl (by decide) ?_
      show Steps p.tables e below (T80.setTop (mkF m 138 #[iv p0, rv b1, rv b47, .unset, .unset, .unset] [(.int ((p0 &&& (2147483647 : Int32)) % (11 : Int32)))])) _
      refine own_top (v' := (.int 6)) (congrArg Value.int hk) ?_
      show Steps p.tables e below (T80.setTop (mkF m 138 #[iv p0, rv b1, rv b47, .unset, .unset, .unset] [(.int 6)])) _
      refine XS.istoreN X80.here hx rfl (hb hby at_138) rfl (l' := #[iv p0, rv b1, rv b47, iv 6, .unset, .unset]) rfl ?_
      show Steps p.tables e below (T80.setTop (mkF m 139 #[iv p0, rv b1, rv b47, iv 6, .unset, .unset] [])) _
      refine XS.aloadN X80.here hx rfl (hb hby at_139) rfl rfl ?_
      show Steps p.tables e below (T80.setTop (mkF m 140 #[iv p0, rv b1, rv b47, iv 6, .unset, .unset] [(.ref b1)])) _
      refine XS.iloadN X80.here hx rfl (hb hby at_140) rfl ?_
      show Steps p.tables e below (T80.setTop (mkF m 141 #[iv p0, rv b1, rv b47, iv 6, .unset, .unset] [(.int 6), (.ref b1)])) _
      refine X80.aaload hx (j := (6 : Int32)) (v := (.ref w_INCREMENT_OFFER)) (by rw [e80]; exact c110A.1) (State.isArrayOf_alike hZ.alike c110A.2.1) rfl c110A.2.2 c110in c110at (g := (mkF m 141 #[iv p0, rv b1, rv b47, iv 6, .unset, .unset] [(.int 6), (.ref b1)])) rfl rfl (hb hby at_141) _ ?_
      show Steps p.tables e below (T80.setTop (mkF m 142 #[iv p0, rv b1, rv b47, iv 6, .unset, .unset] [(.ref w_INCREMENT_OFFER)])) _
      refine XS.astore X80.here hx rfl (hb hby at_142) rfl rfl (l' := #[iv p0, rv b1, rv b47, iv 6, rv w_INCREMENT_OFFER, .unset]) rfl ?_
      show Steps p.tables e below (T80.setTop (mkF m 144 #[iv p0, rv b1, rv b47, iv 6, rv w_INCREMENT_OFFER, .unset] [])) _
      refine XS.aload X80.here hx rfl (hb hby at_144) rfl rfl ?_
      show Steps p.tables e below (T80.setTop (mkF m 146 #[iv p0, rv b1, rv b47, iv 6, rv w_INCREMENT_OFFER, .unset] [(.ref w_INCREMENT_OFFER)])) _
      refine st111.trans ?_
      show Steps p.tables e below (T111.setTop (mkF m 149 #[iv p0, rv b1, rv b47, iv 6, rv w_INCREMENT_OFFER, .unset] [(.int 0)])) _
      refine XS.istore X111.here hx rfl (hb hby at_149) rfl (l' := #[iv p0, rv b1, rv b47, iv 6, rv w_INCREMENT_OFFER, iv 0]) rfl ?_
      show Steps p.tables e below (T111.setTop (mkF m 151 #[iv p0, rv b1, rv b47, iv 6, rv w_INCREMENT_OFFER, iv 0] [])) _
      refine XS.iload X111.here hx rfl (hb hby at_151) rfl ?_
      show Steps p.tables e below (T111.setTop (mkF m 153 #[iv p0, rv b1, rv b47, iv 6, rv w_INCREMENT_OFFER, iv 0] [(.int 0)])) _
      refine XS.aloadN X111.here hx rfl (hb hby at_153) rfl rfl ?_
      show Steps p.tables e below (T111.setTop (mkF m 154 #[iv p0, rv b1, rv b47, iv 6, rv w_INCREMENT_OFFER, iv 0] [(.ref b47), (.int 0)])) _
      refine XS.iloadN X111.here hx rfl (hb hby at_154) rfl ?_
      show Steps p.tables e below (T111.setTop (mkF m 155 #[iv p0, rv b1, rv b47, iv 6, rv w_INCREMENT_OFFER, iv 0] [(.int 6), (.ref b47), (.int 0)])) _
      refine X111.baloadBooleans hx (j := (6 : Int32)) (v := (.int 0)) (by rw [e111]; exact c112A.1) (State.isArrayOf_alike hZ.alike c112A.2.1) c112A.2.2 c112in c112at (g := (mkF m 155 #[iv p0, rv b1, rv b47, iv 6, rv w_INCREMENT_OFFER, iv 0] [(.int 6), (.ref b47), (.int 0)])) rfl rfl (hb hby at_155) _ ?_
      show Steps p.tables e below (T111.setTop (mkF m 156 #[iv p0, rv b1, rv b47, iv 6, rv w_INCREMENT_OFFER, iv 0] [(.int 0), (.int 0)])) _
      refine XS.icmpYes X111.here hx rfl (pc0 := 156) (pc' := 161) rfl (hb hby at_156) rfl (teq (by decide)).1 (by decide) (by decide) ?_
      show Steps p.tables e below (T111.setTop (mkF m 161 #[iv p0, rv b1, rv b47, iv 6, rv w_INCREMENT_OFFER, iv 0] [])) _
      refine XS.iload X111.here hx rfl (hb hby at_161) rfl ?_
      show Steps p.tables e below (T111.setTop (mkF m 163 #[iv p0, rv b1, rv b47, iv 6, rv w_INCREMENT_OFFER, iv 0] [(.int 0)])) _
      refine XS.ifYes X111.here hx rfl (pc0 := 163) (pc' := 179) rfl (hb hby at_163) rfl ((if0 _ _).trans (teq (by decide)).1) (by decide) (by decide) ?_
      show Steps p.tables e below (T111.setTop (mkF m 179 #[iv p0, rv b1, rv b47, iv 6, rv w_INCREMENT_OFFER, iv 0] [])) _
      refine XS.iconst X111.here hx rfl (hb hby at_179) ?_
      show Steps p.tables e below (T111.setTop (mkF m 180 #[iv p0, rv b1, rv b47, iv 6, rv w_INCREMENT_OFFER, iv 0] [(.int 1)])) _
      exact retN X111 hx (t := .boolean) Bd.returns (by simp) (hb hby at_180) hr
    · show own_law_Q Z w_DEMAND_BID w_DECREMENT_BID w_METERED_LOAD w_EXTERNAL_SALE w_IBT_LOAD w_SUPPLY_OFFER w_INCREMENT_OFFER w_METERED_GENERATION w_EXTERNAL_PURCHASE w_IBT_MARKET w_IBT_MARKET_EXCL w_WITHDRAWAL w_INJECTION w_EITHER p0 h0 n0 _ T111.heap _
      rw [e111]
      exact ⟨rfl, N111⟩
  · have f113 := ((((((((((((V45.ext E47).other W50 ne_b1_b47).other W53 ne_b1_b47).other W56 ne_b1_b47).other W59 ne_b1_b47).other W62 ne_b1_b47).other W65 ne_b1_b47).other W68 ne_b1_b47).other W71 ne_b1_b47).other W74 ne_b1_b47).other W77 ne_b1_b47).other W80 ne_b1_b47)
    obtain ⟨c114, c114A, c114q, c114S, c114N, c114H, c114G⟩ := id f113
    have c114in : ¬ ((7 : Int32) < 0 ∨ c114.slots.size ≤ ((7 : Int32)).toNatClampNeg) := inb_of c114S ⟨by decide, by decide⟩
    have c114at : c114.slots[((7 : Int32)).toNatClampNeg]? = some (.ref w_METERED_GENERATION) := Has.at c114H c114in rfl
    obtain ⟨cq115, kq115, q115a, q115b, q115c⟩ := isOf hZ e80 (U_METERED_GENERATION.2.1.ext O81.2)
    obtain ⟨_, _, ⟨T115, L115, k115, n115⟩, -, X115, ⟨Lc115, hQ115, l115, y115, z115⟩, st115⟩ := X80.virtualBack hx (y := (⟨"com/example/holdfast/holdfast/PositionKind", "crossesBorder", "()Z"⟩ : MethodName)) (z := (⟨"com/example/holdfast/holdfast/PositionKind", "crossesBorder", "()Z"⟩ : MethodName)) hown (mvT hZ (hw _ (own_m 28 rfl))) (mvT hZ (hw _ (own_m 29 rfl))) (notFace_of_selects (args := #[]) (mvT hZ (hw _ (own_m 31 rfl)))) (mvT hZ (hw _ (own_m 31 rfl))) (mvT hZ (hw _ (own_m 30 rfl))) (by decide) (backOf (W := 0) (own_m_METERED_GENERATION l Z a0 hw [] w_DEMAND_BID w_DECREMENT_BID w_METERED_LOAD w_EXTERNAL_SALE w_IBT_LOAD w_SUPPLY_OFFER w_INCREMENT_OFFER w_METERED_GENERATION w_EXTERNAL_PURCHASE w_IBT_MARKET w_IBT_MARKET_EXCL w_WITHDRAWAL w_INJECTION w_EITHER  h80 n0 O81 U_DEMAND_BID U_DECREMENT_BID U_METERED_LOAD U_EXTERNAL_SALE U_IBT_LOAD U_SUPPLY_OFFER U_INCREMENT_OFFER U_METERED_GENERATION U_EXTERNAL_PURCHASE U_IBT_MARKET U_IBT_MARKET_EXCL U_WITHDRAWAL U_INJECTION U_EITHER G_EXTERNAL_SALE G_EXTERNAL_PURCHASE ) hZ (hw _ (own_m 32 rfl)) (hw _ (own_m 3 rfl)) (by decide) (by decide)) q115a q115c (g := (mkF m 146 #[iv p0, rv b1, rv b47, iv 7, rv w_METERED_GENERATION, .unset] [(.ref w_METERED_GENERATION)])) rfl (by rw [hml]; rfl) (Steps.refl _) (argsL := []) (rest := []) (lenOf own_pd0 rfl) rfl (by show 2 * 0 + _ ≤ _; exact Nat.le_of_eq rfl) (hb hby at_146) (fun _ _ => ⟨rfl, e80, (by decide : 2 + 0 ≤ _), (by decide : 22 + 0 ≤ _)⟩)
    dsimp only [Pt.U, Pt.locs, Pt.cells, Pt.slots] at X115 l115 y115 z115 st115 hQ115
    subst y115 z115
    obtain ⟨rfl, N115q, e115⟩ := hQ115
    have N115 : Fr n0 L115 := by rw [l115]; exact Fr.app N80 N115q
    obtain ⟨c116, c116A, c116q, c116S, c116N, c116H, c116G⟩ := id V80
    have c116in : ¬ ((7 : Int32) < 0 ∨ c116.slots.size ≤ ((7 : Int32)).toNatClampNeg) := inb_of c116S ⟨by decide, by decide⟩
    have c116at : c116.slots[((7 : Int32)).toNatClampNeg]? = some (.int 0) := Has.at c116H c116in rfl
    obtain ⟨fs, hr, hrun, hended, hW, hsame⟩ := X115.leave (v := some (.int 1)) (fun h => by rw [Bd.returns] at h; cases h)
    refine ⟨_, _, pre82 _ ?_, hrun, hended, _, _, rfl, ?_, ⟨_, rfl⟩, hW, hsame.mono (by decide) (by decide)⟩
    · show Steps p.tables e below (T80.setTop (mkF m 137 #[iv p0, rv b1, rv b47, .unset, .unset, .unset] [(.int 11), (.int (p0 &&& (2147483647 : Int32)))])) _
      refine iremM X80 hx rfl (hb hby at_137) rfl (by decide) ?_
      show Steps p.tables e below (T80.setTop (mkF m 138 #[iv p0, rv b1, rv b47, .unset, .unset, .unset] [(.int ((p0 &&& (2147483647 : Int32)) % (11 : Int32)))])) _
      refine own_top (v' := (.int 7)) (congrArg Value.int hk) ?_
      show Steps p.tables e below (T80.setTop (mkF m 138 #[iv p0, rv b1, rv b47, .unset, .unset, .unset] [(.int 7)])) _
      refine XS.istoreN X80.here hx rfl (hb hby at_138) rfl (l' := #[iv p0, rv b1, rv b47, iv 7, .unset, .unset]) rfl ?_
      show Steps p.tables e below (T80.setTop (mkF m 139 #[iv p0, rv b1, rv b47, iv 7, .unset, .unset] [])) _
      refine XS.aloadN X80.here hx rfl (hb hby at_139) rfl rfl ?_
      show Steps p.tables e below (T80.setTop (mkF m 140 #[iv p0, rv b1, rv b47, iv 7, .unset, .unset] [(.ref b1)])) _
      refine XS.iloadN X80.here hx rfl (hb hby at_140) rfl ?_
      show Steps p.tables e below (T80.setTop (mkF m 141 #[iv p0, rv b1, rv b47, iv 7, .unset, .unset] [(.int 7), (.ref b1)])) _
      refine X80.aaload hx (j := (7 : Int32)) (v := (.ref w_METERED_GENERATION)) (by rw [e80]; exact c114A.1) (State.isArrayOf_alike hZ.alike c114A.2.1) rfl c114A.2.2 c114in c114at (g := (mkF m 141 #[iv p0, rv b1, rv b47, iv 7, .unset, .unset] [(.int 7), (.ref b1)])) rfl rfl (hb hby at_141) _ ?_
      show Steps p.tables e below (T80.setTop (mkF m 142 #[iv p0, rv b1, rv b47, iv 7, .unset, .unset] [(.ref w_METERED_GENERATION)])) _
      refine XS.astore X80.here hx rfl (hb hby at_142) rfl rfl (l' := #[iv p0, rv b1, rv b47, iv 7, rv w_METERED_GENERATION, .unset]) rfl ?_
      show Steps p.tables e below (T80.setTop (mkF m 144 #[iv p0, rv b1, rv b47, iv 7, rv w_METERED_GENERATION, .unset] [])) _
      refine XS.aload X80.here hx rfl (hb hby at_144) rfl rfl ?_
      show Steps p.tables e below (T80.setTop (mkF m 146 #[iv p0, rv b1, rv b47, iv 7, rv w_METERED_GENERATION, .unset] [(.ref w_METERED_GENERATION)])) _
      refine st115.trans ?_
      show Steps p.tables e below (T115.setTop (mkF m 149 #[iv p0, rv b1, rv b47, iv 7, rv w_METERED_GENERATION, .unset] [(.int 0)])) _
      refine XS.istore X115.here hx rfl (hb hby at_149) rfl (l' := #[iv p0, rv b1, rv b47, iv 7, rv w_METERED_GENERATION, iv 0]) rfl ?_
      show Steps p.tables e below (T115.setTop (mkF m 151 #[iv p0, rv b1, rv b47, iv 7, rv w_METERED_GENERATION, iv 0] [])) _
      refine XS.iload X115.here hx rfl (hb hby at_151) rfl ?_
      show Steps p.tables e below (T115.setTop (mkF m 153 #[iv p0, rv b1, rv b47, iv 7, rv w_METERED_GENERATION, iv 0] [(.int 0)])) _
      refine XS.aloadN X115.here hx rfl (hb hby at_153) rfl rfl ?_
      show Steps p.tables e below (T115.setTop (mkF m 154 #[iv p0, rv b1, rv b47, iv 7, rv w_METERED_GENERATION, iv 0] [(.ref b47), (.int 0)])) _
      refine XS.iloadN X115.here hx rfl (hb hby at_154) rfl ?_
      show Steps p.tables e below (T115.setTop (mkF m 155 #[iv p0, rv b1, rv b47, iv 7, rv w_METERED_GENERATION, iv 0] [(.int 7), (.ref b47), (.int 0)])) _
      refine X115.baloadBooleans hx (j := (7 : Int32)) (v := (.int 0)) (by rw [e115]; exact c116A.1) (State.isArrayOf_alike hZ.alike c116A.2.1) c116A.2.2 c116in c116at (g := (mkF m 155 #[iv p0, rv b1, rv b47, iv 7, rv w_METERED_GENERATION, iv 0] [(.int 7), (.ref b47), (.int 0)])) rfl rfl (hb hby at_155) _ ?_
      show Steps p.tables e below (T115.setTop (mkF m 156 #[iv p0, rv b1, rv b47, iv 7, rv w_METERED_GENERATION, iv 0] [(.int 0), (.int 0)])) _
      refine XS.icmpYes X115.here hx rfl (pc0 := 156) (pc' := 161) rfl (hb hby at_156) rfl (teq (by decide)).1 (by decide) (by decide) ?_
      show Steps p.tables e below (T115.setTop (mkF m 161 #[iv p0, rv b1, rv b47, iv 7, rv w_METERED_GENERATION, iv 0] [])) _
      refine XS.iload X115.here hx rfl (hb hby at_161) rfl ?_
      show Steps p.tables e below (T115.setTop (mkF m 163 #[iv p0, rv b1, rv b47, iv 7, rv w_METERED_GENERATION, iv 0] [(.int 0)])) _
      refine XS.ifYes X115.here hx rfl (pc0 := 163) (pc' := 179) rfl (hb hby at_163) rfl ((if0 _ _).trans (teq (by decide)).1) (by decide) (by decide) ?_
      show Steps p.tables e below (T115.setTop (mkF m 179 #[iv p0, rv b1, rv b47, iv 7, rv w_METERED_GENERATION, iv 0] [])) _
      refine XS.iconst X115.here hx rfl (hb hby at_179) ?_
      show Steps p.tables e below (T115.setTop (mkF m 180 #[iv p0, rv b1, rv b47, iv 7, rv w_METERED_GENERATION, iv 0] [(.int 1)])) _
      exact retN X115 hx (t := .boolean) Bd.returns (by simp) (hb hby at_180) hr
    · show own_law_Q Z w_DEMAND_BID w_DECREMENT_BID w_METERED_LOAD w_EXTERNAL_SALE w_IBT_LOAD w_SUPPLY_OFFER w_INCREMENT_OFFER w_METERED_GENERATION w_EXTERNAL_PURCHASE w_IBT_MARKET w_IBT_MARKET_EXCL w_WITHDRAWAL w_INJECTION w_EITHER p0 h0 n0 _ T115.heap _
      rw [e115]
      exact ⟨rfl, N115⟩
  · have f117 := ((((((((((((V45.ext E47).other W50 ne_b1_b47).other W53 ne_b1_b47).other W56 ne_b1_b47).other W59 ne_b1_b47).other W62 ne_b1_b47).other W65 ne_b1_b47).other W68 ne_b1_b47).other W71 ne_b1_b47).other W74 ne_b1_b47).other W77 ne_b1_b47).other W80 ne_b1_b47)
    obtain ⟨c118, c118A, c118q, c118S, c118N, c118H, c118G⟩ := id f117
    have c118in : ¬ ((8 : Int32) < 0 ∨ c118.slots.size ≤ ((8 : Int32)).toNatClampNeg) := inb_of c118S ⟨by decide, by decide⟩
    have c118at : c118.slots[((8 : Int32)).toNatClampNeg]? = some (.ref w_EXTERNAL_PURCHASE) := Has.at c118H c118in rfl
    obtain ⟨cq119, kq119, q119a, q119b, q119c⟩ := isOf hZ e80 (U_EXTERNAL_PURCHASE.2.1.ext O81.2)
    obtain ⟨_, _, ⟨T119, L119, k119, n119⟩, -, X119, ⟨Lc119, hQ119, l119, y119, z119⟩, st119⟩ := X80.virtualBack hx (y := (⟨"com/example/holdfast/holdfast/PositionKind", "crossesBorder", "()Z"⟩ : MethodName)) (z := (⟨"com/example/holdfast/holdfast/PositionKind", "crossesBorder", "()Z"⟩ : MethodName)) hown (mvT hZ (hw _ (own_m 28 rfl))) (mvT hZ (hw _ (own_m 29 rfl))) (notFace_of_selects (args := #[]) (mvT hZ (hw _ (own_m 31 rfl)))) (mvT hZ (hw _ (own_m 31 rfl))) (mvT hZ (hw _ (own_m 30 rfl))) (by decide) (backOf (W := 0) (own_m_EXTERNAL_PURCHASE l Z a0 hw [] w_DEMAND_BID w_DECREMENT_BID w_METERED_LOAD w_EXTERNAL_SALE w_IBT_LOAD w_SUPPLY_OFFER w_INCREMENT_OFFER w_METERED_GENERATION w_EXTERNAL_PURCHASE w_IBT_MARKET w_IBT_MARKET_EXCL w_WITHDRAWAL w_INJECTION w_EITHER  h80 n0 O81 U_DEMAND_BID U_DECREMENT_BID U_METERED_LOAD U_EXTERNAL_SALE U_IBT_LOAD U_SUPPLY_OFFER U_INCREMENT_OFFER U_METERED_GENERATION U_EXTERNAL_PURCHASE U_IBT_MARKET U_IBT_MARKET_EXCL U_WITHDRAWAL U_INJECTION U_EITHER G_EXTERNAL_SALE G_EXTERNAL_PURCHASE ) hZ (hw _ (own_m 32 rfl)) (hw _ (own_m 3 rfl)) (by decide) (by decide)) q119a q119c (g := (mkF m 146 #[iv p0, rv b1, rv b47, iv 8, rv w_EXTERNAL_PURCHASE, .unset] [(.ref w_EXTERNAL_PURCHASE)])) rfl (by rw [hml]; rfl) (Steps.refl _) (argsL := []) (rest := []) (lenOf own_pd0 rfl) rfl (by show 2 * 0 + _ ≤ _; exact Nat.le_of_eq rfl) (hb hby at_146) (fun _ _ => ⟨rfl, e80, (by decide : 2 + 0 ≤ _), (by decide : 22 + 0 ≤ _)⟩)
    dsimp only [Pt.U, Pt.locs, Pt.cells, Pt.slots] at X119 l119 y119 z119 st119 hQ119
    subst y119 z119
    obtain ⟨rfl, N119q, e119⟩ := hQ119
    have N119 : Fr n0 L119 := by rw [l119]; exact Fr.app N80 N119q
    obtain ⟨c120, c120A, c120q, c120S, c120N, c120H, c120G⟩ := id V80
    have c120in : ¬ ((8 : Int32) < 0 ∨ c120.slots.size ≤ ((8 : Int32)).toNatClampNeg) := inb_of c120S ⟨by decide, by decide⟩
    have c120at : c120.slots[((8 : Int32)).toNatClampNeg]? = some (.int 1) := Has.at c120H c120in rfl
    obtain ⟨cq121, kq121, q121a, q121b, q121c⟩ := isOf hZ e119 (U_EXTERNAL_PURCHASE.2.1.ext O81.2)
    obtain ⟨_, _, ⟨T121, L121, k121, n121⟩, -, X121, ⟨Lc121, hQ121, l121, y121, z121⟩, st121⟩ := X119.virtualBack hx (y := (⟨"com/example/holdfast/holdfast/PositionKind", "sign", "()Lcom/example/holdfast/holdfast/PositionKind$Sign;"⟩ : MethodName)) (z := (⟨"com/example/holdfast/holdfast/PositionKind", "sign", "()Lcom/example/holdfast/holdfast/PositionKind$Sign;"⟩ : MethodName)) hown (mvT hZ (hw _ (own_m 35 rfl))) (mvT hZ (hw _ (own_m 36 rfl))) (notFace_of_selects (args := #[]) (mvT hZ (hw _ (own_m 38 rfl)))) (mvT hZ (hw _ (own_m 38 rfl))) (mvT hZ (hw _ (own_m 37 rfl))) (by decide) (backOf (W := 0) (own_s_EXTERNAL_PURCHASE l Z a0 hw [] w_DEMAND_BID w_DECREMENT_BID w_METERED_LOAD w_EXTERNAL_SALE w_IBT_LOAD w_SUPPLY_OFFER w_INCREMENT_OFFER w_METERED_GENERATION w_EXTERNAL_PURCHASE w_IBT_MARKET w_IBT_MARKET_EXCL w_WITHDRAWAL w_INJECTION w_EITHER  h80 n0 O81 U_DEMAND_BID U_DECREMENT_BID U_METERED_LOAD U_EXTERNAL_SALE U_IBT_LOAD U_SUPPLY_OFFER U_INCREMENT_OFFER U_METERED_GENERATION U_EXTERNAL_PURCHASE U_IBT_MARKET U_IBT_MARKET_EXCL U_WITHDRAWAL U_INJECTION U_EITHER G_EXTERNAL_SALE G_EXTERNAL_PURCHASE ) hZ (hw _ (own_m 39 rfl)) (hw _ (own_m 3 rfl)) (by decide) (by decide)) q121a q121c (g := (mkF m 168 #[iv p0, rv b1, rv b47, iv 8, rv w_EXTERNAL_PURCHASE, iv 1] [(.ref w_EXTERNAL_PURCHASE)])) rfl (by rw [hml]; rfl) (Steps.refl _) (argsL := []) (rest := []) (lenOf own_pd1 rfl) rfl (by show 2 * 0 + _ ≤ _; exact Nat.le_of_eq rfl) (hb hby at_168) (fun _ _ => ⟨rfl, e119, (by decide : 2 + 0 ≤ _), (by decide : 22 + 0 ≤ _)⟩)
    dsimp only [Pt.U, Pt.locs, Pt.cells, Pt.slots] at X121 l121 y121 z121 st121 hQ121
    subst y121 z121
    obtain ⟨rfl, N121q, e121⟩ := hQ121
    have N121 : Fr n0 L121 := by rw [l121]; exact Fr.app N119 N121q
    obtain ⟨T122, X122, e122, st122⟩ := getS2 X121 hx hZ hown (host := "") (Or.inl (hw _ (own_m 44 rfl))) Via.refl e121 (U_EITHER.1.ext O81.2) (g := (mkF m 171 #[iv p0, rv b1, rv b47, iv 8, rv w_EXTERNAL_PURCHASE, iv 1] [(.ref w_INJECTION)])) rfl (hb hby at_171)
    obtain ⟨fs, hr, hrun, hended, hW, hsame⟩ := X122.leave (v := some (.int 1)) (fun h => by rw [Bd.returns] at h; cases h)
    refine ⟨_, _, pre82 _ ?_, hrun, hended, _, _, rfl, ?_, ⟨_, rfl⟩, hW, hsame.mono (by decide) (by decide)⟩
    · show Steps p.tables e below (T80.setTop (mkF m 137 #[iv p0, rv b1, rv b47, .unset, .unset, .unset] [(.int 11), (.int (p0 &&& (2147483647 : Int32)))])) _
      refine iremM X80 hx rfl (hb hby at_137) rfl (by decide) ?_
      show Steps p.tables e below (T80.setTop (mkF m 138 #[iv p0, rv b1, rv b47, .unset, .unset, .unset] [(.int ((p0 &&& (2147483647 : Int32)) % (11 : Int32)))])) _
      refine own_top (v' := (.int 8)) (congrArg Value.int hk) ?_
      show Steps p.tables e below (T80.setTop (mkF m 138 #[iv p0, rv b1, rv b47, .unset, .unset, .unset] [(.int 8)])) _
      refine XS.istoreN X80.here hx rfl (hb hby at_138) rfl (l' := #[iv p0, rv b1, rv b47, iv 8, .unset, .unset]) rfl ?_
      show Steps p.tables e below (T80.setTop (mkF m 139 #[iv p0, rv b1, rv b47, iv 8, .unset, .unset] [])) _
      refine XS.aloadN X80.here hx rfl (hb hby at_139) rfl rfl ?_
      show Steps p.tables e below (T80.setTop (mkF m 140 #[iv p0, rv b1, rv b47, iv 8, .unset, .unset] [(.ref b1)])) _
      refine XS.iloadN X80.here hx rfl (hb hby at_140) rfl ?_
      show Steps p.tables e below (T80.setTop (mkF m 141 #[iv p0, rv b1, rv b47, iv 8, .unset, .unset] [(.int 8), (.ref b1)])) _
      refine X80.aaload hx (j := (8 : Int32)) (v := (.ref w_EXTERNAL_PURCHASE)) (by rw [e80]; exact c118A.1) (State.isArrayOf_alike hZ.alike c118A.2.1) rfl c118A.2.2 c118in c118at (g := (mkF m 141 #[iv p0, rv b1, rv b47, iv 8, .unset, .unset] [(.int 8), (.ref b1)])) rfl rfl (hb hby at_141) _ ?_
      show Steps p.tables e below (T80.setTop (mkF m 142 #[iv p0, rv b1, rv b47, iv 8, .unset, .unset] [(.ref w_EXTERNAL_PURCHASE)])) _
      refine XS.astore X80.here hx rfl (hb hby at_142) rfl rfl (l' := #[iv p0, rv b1, rv b47, iv 8, rv w_EXTERNAL_PURCHASE, .unset]) rfl ?_
      show Steps p.tables e below (T80.setTop (mkF m 144 #[iv p0, rv b1, rv b47, iv 8, rv w_EXTERNAL_PURCHASE, .unset] [])) _
      refine XS.aload X80.here hx rfl (hb hby at_144) rfl rfl ?_
      show Steps p.tables e below (T80.setTop (mkF m 146 #[iv p0, rv b1, rv b47, iv 8, rv w_EXTERNAL_PURCHASE, .unset] [(.ref w_EXTERNAL_PURCHASE)])) _
      refine st119.trans ?_
      show Steps p.tables e below (T119.setTop (mkF m 149 #[iv p0, rv b1, rv b47, iv 8, rv w_EXTERNAL_PURCHASE, .unset] [(.int 1)])) _
      refine XS.istore X119.here hx rfl (hb hby at_149) rfl (l' := #[iv p0, rv b1, rv b47, iv 8, rv w_EXTERNAL_PURCHASE, iv 1]) rfl ?_
      show Steps p.tables e below (T119.setTop (mkF m 151 #[iv p0, rv b1, rv b47, iv 8, rv w_EXTERNAL_PURCHASE, iv 1] [])) _
      refine XS.iload X119.here hx rfl (hb hby at_151) rfl ?_
      show Steps p.tables e below (T119.setTop (mkF m 153 #[iv p0, rv b1, rv b47, iv 8, rv w_EXTERNAL_PURCHASE, iv 1] [(.int 1)])) _
      refine XS.aloadN X119.here hx rfl (hb hby at_153) rfl rfl ?_
      show Steps p.tables e below (T119.setTop (mkF m 154 #[iv p0, rv b1, rv b47, iv 8, rv w_EXTERNAL_PURCHASE, iv 1] [(.ref b47), (.int 1)])) _
      refine XS.iloadN X119.here hx rfl (hb hby at_154) rfl ?_
      show Steps p.tables e below (T119.setTop (mkF m 155 #[iv p0, rv b1, rv b47, iv 8, rv w_EXTERNAL_PURCHASE, iv 1] [(.int 8), (.ref b47), (.int 1)])) _
      refine X119.baloadBooleans hx (j := (8 : Int32)) (v := (.int 1)) (by rw [e119]; exact c120A.1) (State.isArrayOf_alike hZ.alike c120A.2.1) c120A.2.2 c120in c120at (g := (mkF m 155 #[iv p0, rv b1, rv b47, iv 8, rv w_EXTERNAL_PURCHASE, iv 1] [(.int 8), (.ref b47), (.int 1)])) rfl rfl (hb hby at_155) _ ?_
      show Steps p.tables e below (T119.setTop (mkF m 156 #[iv p0, rv b1, rv b47, iv 8, rv w_EXTERNAL_PURCHASE, iv 1] [(.int 1), (.int 1)])) _
      refine XS.icmpYes X119.here hx rfl (pc0 := 156) (pc' := 161) rfl (hb hby at_156) rfl (teq (by decide)).1 (by decide) (by decide) ?_
      show Steps p.tables e below (T119.setTop (mkF m 161 #[iv p0, rv b1, rv b47, iv 8, rv w_EXTERNAL_PURCHASE, iv 1] [])) _
      refine XS.iload X119.here hx rfl (hb hby at_161) rfl ?_
      show Steps p.tables e below (T119.setTop (mkF m 163 #[iv p0, rv b1, rv b47, iv 8, rv w_EXTERNAL_PURCHASE, iv 1] [(.int 1)])) _
      refine XS.ifNo X119.here hx rfl (hb hby at_163) rfl ((if0 _ _).trans (feq (by decide)).1) ?_
      show Steps p.tables e below (T119.setTop (mkF m 166 #[iv p0, rv b1, rv b47, iv 8, rv w_EXTERNAL_PURCHASE, iv 1] [])) _
      refine XS.aload X119.here hx rfl (hb hby at_166) rfl rfl ?_
      show Steps p.tables e below (T119.setTop (mkF m 168 #[iv p0, rv b1, rv b47, iv 8, rv w_EXTERNAL_PURCHASE, iv 1] [(.ref w_EXTERNAL_PURCHASE)])) _
      refine st121.trans ?_
      show Steps p.tables e below (T121.setTop (mkF m 171 #[iv p0, rv b1, rv b47, iv 8, rv w_EXTERNAL_PURCHASE, iv 1] [(.ref w_INJECTION)])) _
      refine st122 _ ?_
      show Steps p.tables e below (T122.setTop (mkF m 174 #[iv p0, rv b1, rv b47, iv 8, rv w_EXTERNAL_PURCHASE, iv 1] [(.ref w_EITHER), (.ref w_INJECTION)])) _
      refine Jvm.RoadKit.acmp (g := (mkF m 174 #[iv p0, rv b1, rv b47, iv 8, rv w_EXTERNAL_PURCHASE, iv 1] [(.ref w_EITHER), (.ref w_INJECTION)])) X122 hx rfl rfl rfl (pc0 := 174) (pc' := 179) (same := false) rfl (hb hby at_174) rfl (decide_eq_false fun q => (Fld.ne U_INJECTION.2.2 U_EITHER.2.2 (by decide)) (Value.ref.inj q)) (by decide) (by decide) ?_
      show Steps p.tables e below (T122.setTop (mkF m 179 #[iv p0, rv b1, rv b47, iv 8, rv w_EXTERNAL_PURCHASE, iv 1] [])) _
      refine XS.iconst X122.here hx rfl (hb hby at_179) ?_
      show Steps p.tables e below (T122.setTop (mkF m 180 #[iv p0, rv b1, rv b47, iv 8, rv w_EXTERNAL_PURCHASE, iv 1] [(.int 1)])) _
      exact retN X122 hx (t := .boolean) Bd.returns (by simp) (hb hby at_180) hr
    · show own_law_Q Z w_DEMAND_BID w_DECREMENT_BID w_METERED_LOAD w_EXTERNAL_SALE w_IBT_LOAD w_SUPPLY_OFFER w_INCREMENT_OFFER w_METERED_GENERATION w_EXTERNAL_PURCHASE w_IBT_MARKET w_IBT_MARKET_EXCL w_WITHDRAWAL w_INJECTION w_EITHER p0 h0 n0 _ T122.heap _
      rw [e122]
      exact ⟨rfl, N121⟩
  · have f123 := ((((((((((((V45.ext E47).other W50 ne_b1_b47).other W53 ne_b1_b47).other W56 ne_b1_b47).other W59 ne_b1_b47).other W62 ne_b1_b47).other W65 ne_b1_b47).other W68 ne_b1_b47).other W71 ne_b1_b47).other W74 ne_b1_b47).other W77 ne_b1_b47).other W80 ne_b1_b47)
    obtain ⟨c124, c124A, c124q, c124S, c124N, c124H, c124G⟩ := id f123
    have c124in : ¬ ((9 : Int32) < 0 ∨ c124.slots.size ≤ ((9 : Int32)).toNatClampNeg) := inb_of c124S ⟨by decide, by decide⟩
    have c124at : c124.slots[((9 : Int32)).toNatClampNeg]? = some (.ref w_IBT_MARKET) := Has.at c124H c124in rfl
    obtain ⟨cq125, kq125, q125a, q125b, q125c⟩ := isOf hZ e80 (U_IBT_MARKET.2.1.ext O81.2)
    obtain ⟨_, _, ⟨T125, L125, k125, n125⟩, -, X125, ⟨Lc125, hQ125, l125, y125, z125⟩, st125⟩ := X80.virtualBack hx (y := (⟨"com/example/holdfast/holdfast/PositionKind", "crossesBorder", "()Z"⟩ : MethodName)) (z := (⟨"com/example/holdfast/holdfast/PositionKind", "crossesBorder", "()Z"⟩ : MethodName)) hown (mvT hZ (hw _ (own_m 28 rfl))) (mvT hZ (hw _ (own_m 29 rfl))) (notFace_of_selects (args := #[]) (mvT hZ (hw _ (own_m 31 rfl)))) (mvT hZ (hw _ (own_m 31 rfl))) (mvT hZ (hw _ (own_m 30 rfl))) (by decide) (backOf (W := 0) (own_m_IBT_MARKET l Z a0 hw [] w_DEMAND_BID w_DECREMENT_BID w_METERED_LOAD w_EXTERNAL_SALE w_IBT_LOAD w_SUPPLY_OFFER w_INCREMENT_OFFER w_METERED_GENERATION w_EXTERNAL_PURCHASE w_IBT_MARKET w_IBT_MARKET_EXCL w_WITHDRAWAL w_INJECTION w_EITHER  h80 n0 O81 U_DEMAND_BID U_DECREMENT_BID U_METERED_LOAD U_EXTERNAL_SALE U_IBT_LOAD U_SUPPLY_OFFER U_INCREMENT_OFFER U_METERED_GENERATION U_EXTERNAL_PURCHASE U_IBT_MARKET U_IBT_MARKET_EXCL U_WITHDRAWAL U_INJECTION U_EITHER G_EXTERNAL_SALE G_EXTERNAL_PURCHASE ) hZ (hw _ (own_m 32 rfl)) (hw _ (own_m 3 rfl)) (by decide) (by decide)) q125a q125c (g := (mkF m 146 #[iv p0, rv b1, rv b47, iv 9, rv w_IBT_MARKET, .unset] [(.ref w_IBT_MARKET)])) rfl (by rw [hml]; rfl) (Steps.refl _) (argsL := []) (rest := []) (lenOf own_pd0 rfl) rfl (by show 2 * 0 + _ ≤ _; exact Nat.le_of_eq rfl) (hb hby at_146) (fun _ _ => ⟨rfl, e80, (by decide : 2 + 0 ≤ _), (by decide : 22 + 0 ≤ _)⟩)
    dsimp only [Pt.U, Pt.locs, Pt.cells, Pt.slots] at X125 l125 y125 z125 st125 hQ125
    subst y125 z125
    obtain ⟨rfl, N125q, e125⟩ := hQ125
    have N125 : Fr n0 L125 := by rw [l125]; exact Fr.app N80 N125q
    obtain ⟨c126, c126A, c126q, c126S, c126N, c126H, c126G⟩ := id V80
    have c126in : ¬ ((9 : Int32) < 0 ∨ c126.slots.size ≤ ((9 : Int32)).toNatClampNeg) := inb_of c126S ⟨by decide, by decide⟩
    have c126at : c126.slots[((9 : Int32)).toNatClampNeg]? = some (.int 0) := Has.at c126H c126in rfl
    obtain ⟨fs, hr, hrun, hended, hW, hsame⟩ := X125.leave (v := some (.int 1)) (fun h => by rw [Bd.returns] at h; cases h)
    refine ⟨_, _, pre82 _ ?_, hrun, hended, _, _, rfl, ?_, ⟨_, rfl⟩, hW, hsame.mono (by decide) (by decide)⟩
    · show Steps p.tables e below (T80.setTop (mkF m 137 #[iv p0, rv b1, rv b47, .unset, .unset, .unset] [(.int 11), (.int (p0 &&& (2147483647 : Int32)))])) _
      refine iremM X80 hx rfl (hb hby at_137) rfl (by decide) ?_
      show Steps p.tables e below (T80.setTop (mkF m 138 #[iv p0, rv b1, rv b47, .unset, .unset, .unset] [(.int ((p0 &&& (2147483647 : Int32)) % (11 : Int32)))])) _
      refine own_top (v' := (.int 9)) (congrArg Value.int hk) ?_
      show Steps p.tables e below (T80.setTop (mkF m 138 #[iv p0, rv b1, rv b47, .unset, .unset, .unset] [(.int 9)])) _
      refine XS.istoreN X80.here hx rfl (hb hby at_138) rfl (l' := #[iv p0, rv b1, rv b47, iv 9, .unset, .unset]) rfl ?_
      show Steps p.tables e below (T80.setTop (mkF m 139 #[iv p0, rv b1, rv b47, iv 9, .unset, .unset] [])) _
      refine XS.aloadN X80.here hx rfl (hb hby at_139) rfl rfl ?_
      show Steps p.tables e below (T80.setTop (mkF m 140 #[iv p0, rv b1, rv b47, iv 9, .unset, .unset] [(.ref b1)])) _
      refine XS.iloadN X80.here hx rfl (hb hby at_140) rfl ?_
      show Steps p.tables e below (T80.setTop (mkF m 141 #[iv p0, rv b1, rv b47, iv 9, .unset, .unset] [(.int 9), (.ref b1)])) _
      refine X80.aaload hx (j := (9 : Int32)) (v := (.ref w_IBT_MARKET)) (by rw [e80]; exact c124A.1) (State.isArrayOf_alike hZ.alike c124A.2.1) rfl c124A.2.2 c124in c124at (g := (mkF m 141 #[iv p0, rv b1, rv b47, iv 9, .unset, .unset] [(.int 9), (.ref b1)])) rfl rfl (hb hby at_141) _ ?_
      show Steps p.tables e below (T80.setTop (mkF m 142 #[iv p0, rv b1, rv b47, iv 9, .unset, .unset] [(.ref w_IBT_MARKET)])) _
      refine XS.astore X80.here hx rfl (hb hby at_142) rfl rfl (l' := #[iv p0, rv b1, rv b47, iv 9, rv w_IBT_MARKET, .unset]) rfl ?_
      show Steps p.tables e below (T80.setTop (mkF m 144 #[iv p0, rv b1, rv b47, iv 9, rv w_IBT_MARKET, .unset] [])) _
      refine XS.aload X80.here hx rfl (hb hby at_144) rfl rfl ?_
      show Steps p.tables e below (T80.setTop (mkF m 146 #[iv p0, rv b1, rv b47, iv 9, rv w_IBT_MARKET, .unset] [(.ref w_IBT_MARKET)])) _
      refine st125.trans ?_
      show Steps p.tables e below (T125.setTop (mkF m 149 #[iv p0, rv b1, rv b47, iv 9, rv w_IBT_MARKET, .unset] [(.int 0)])) _
      refine XS.istore X125.here hx rfl (hb hby at_149) rfl (l' := #[iv p0, rv b1, rv b47, iv 9, rv w_IBT_MARKET, iv 0]) rfl ?_
      show Steps p.tables e below (T125.setTop (mkF m 151 #[iv p0, rv b1, rv b47, iv 9, rv w_IBT_MARKET, iv 0] [])) _
      refine XS.iload X125.here hx rfl (hb hby at_151) rfl ?_
      show Steps p.tables e below (T125.setTop (mkF m 153 #[iv p0, rv b1, rv b47, iv 9, rv w_IBT_MARKET, iv 0] [(.int 0)])) _
      refine XS.aloadN X125.here hx rfl (hb hby at_153) rfl rfl ?_
      show Steps p.tables e below (T125.setTop (mkF m 154 #[iv p0, rv b1, rv b47, iv 9, rv w_IBT_MARKET, iv 0] [(.ref b47), (.int 0)])) _
      refine XS.iloadN X125.here hx rfl (hb hby at_154) rfl ?_
      show Steps p.tables e below (T125.setTop (mkF m 155 #[iv p0, rv b1, rv b47, iv 9, rv w_IBT_MARKET, iv 0] [(.int 9), (.ref b47), (.int 0)])) _
      refine X125.baloadBooleans hx (j := (9 : Int32)) (v := (.int 0)) (by rw [e125]; exact c126A.1) (State.isArrayOf_alike hZ.alike c126A.2.1) c126A.2.2 c126in c126at (g := (mkF m 155 #[iv p0, rv b1, rv b47, iv 9, rv w_IBT_MARKET, iv 0] [(.int 9), (.ref b47), (.int 0)])) rfl rfl (hb hby at_155) _ ?_
      show Steps p.tables e below (T125.setTop (mkF m 156 #[iv p0, rv b1, rv b47, iv 9, rv w_IBT_MARKET, iv 0] [(.int 0), (.int 0)])) _
      refine XS.icmpYes X125.here hx rfl (pc0 := 156) (pc' := 161) rfl (hb hby at_156) rfl (teq (by decide)).1 (by decide) (by decide) ?_
      show Steps p.tables e below (T125.setTop (mkF m 161 #[iv p0, rv b1, rv b47, iv 9, rv w_IBT_MARKET, iv 0] [])) _
      refine XS.iload X125.here hx rfl (hb hby at_161) rfl ?_
      show Steps p.tables e below (T125.setTop (mkF m 163 #[iv p0, rv b1, rv b47, iv 9, rv w_IBT_MARKET, iv 0] [(.int 0)])) _
      refine XS.ifYes X125.here hx rfl (pc0 := 163) (pc' := 179) rfl (hb hby at_163) rfl ((if0 _ _).trans (teq (by decide)).1) (by decide) (by decide) ?_
      show Steps p.tables e below (T125.setTop (mkF m 179 #[iv p0, rv b1, rv b47, iv 9, rv w_IBT_MARKET, iv 0] [])) _
      refine XS.iconst X125.here hx rfl (hb hby at_179) ?_
      show Steps p.tables e below (T125.setTop (mkF m 180 #[iv p0, rv b1, rv b47, iv 9, rv w_IBT_MARKET, iv 0] [(.int 1)])) _
      exact retN X125 hx (t := .boolean) Bd.returns (by simp) (hb hby at_180) hr
    · show own_law_Q Z w_DEMAND_BID w_DECREMENT_BID w_METERED_LOAD w_EXTERNAL_SALE w_IBT_LOAD w_SUPPLY_OFFER w_INCREMENT_OFFER w_METERED_GENERATION w_EXTERNAL_PURCHASE w_IBT_MARKET w_IBT_MARKET_EXCL w_WITHDRAWAL w_INJECTION w_EITHER p0 h0 n0 _ T125.heap _
      rw [e125]
      exact ⟨rfl, N125⟩
  · have f127 := ((((((((((((V45.ext E47).other W50 ne_b1_b47).other W53 ne_b1_b47).other W56 ne_b1_b47).other W59 ne_b1_b47).other W62 ne_b1_b47).other W65 ne_b1_b47).other W68 ne_b1_b47).other W71 ne_b1_b47).other W74 ne_b1_b47).other W77 ne_b1_b47).other W80 ne_b1_b47)
    obtain ⟨c128, c128A, c128q, c128S, c128N, c128H, c128G⟩ := id f127
    have c128in : ¬ ((10 : Int32) < 0 ∨ c128.slots.size ≤ ((10 : Int32)).toNatClampNeg) := inb_of c128S ⟨by decide, by decide⟩
    have c128at : c128.slots[((10 : Int32)).toNatClampNeg]? = some (.ref w_IBT_MARKET_EXCL) := Has.at c128H c128in rfl
    obtain ⟨cq129, kq129, q129a, q129b, q129c⟩ := isOf hZ e80 (U_IBT_MARKET_EXCL.2.1.ext O81.2)
    obtain ⟨_, _, ⟨T129, L129, k129, n129⟩, -, X129, ⟨Lc129, hQ129, l129, y129, z129⟩, st129⟩ := X80.virtualBack hx (y := (⟨"com/example/holdfast/holdfast/PositionKind", "crossesBorder", "()Z"⟩ : MethodName)) (z := (⟨"com/example/holdfast/holdfast/PositionKind", "crossesBorder", "()Z"⟩ : MethodName)) hown (mvT hZ (hw _ (own_m 28 rfl))) (mvT hZ (hw _ (own_m 29 rfl))) (notFace_of_selects (args := #[]) (mvT hZ (hw _ (own_m 31 rfl)))) (mvT hZ (hw _ (own_m 31 rfl))) (mvT hZ (hw _ (own_m 30 rfl))) (by decide) (backOf (W := 0) (own_m_IBT_MARKET_EXCL l Z a0 hw [] w_DEMAND_BID w_DECREMENT_BID w_METERED_LOAD w_EXTERNAL_SALE w_IBT_LOAD w_SUPPLY_OFFER w_INCREMENT_OFFER w_METERED_GENERATION w_EXTERNAL_PURCHASE w_IBT_MARKET w_IBT_MARKET_EXCL w_WITHDRAWAL w_INJECTION w_EITHER  h80 n0 O81 U_DEMAND_BID U_DECREMENT_BID U_METERED_LOAD U_EXTERNAL_SALE U_IBT_LOAD U_SUPPLY_OFFER U_INCREMENT_OFFER U_METERED_GENERATION U_EXTERNAL_PURCHASE U_IBT_MARKET U_IBT_MARKET_EXCL U_WITHDRAWAL U_INJECTION U_EITHER G_EXTERNAL_SALE G_EXTERNAL_PURCHASE ) hZ (hw _ (own_m 32 rfl)) (hw _ (own_m 3 rfl)) (by decide) (by decide)) q129a q129c (g := (mkF m 146 #[iv p0, rv b1, rv b47, iv 10, rv w_IBT_MARKET_EXCL, .unset] [(.ref w_IBT_MARKET_EXCL)])) rfl (by rw [hml]; rfl) (Steps.refl _) (argsL := []) (rest := []) (lenOf own_pd0 rfl) rfl (by show 2 * 0 + _ ≤ _; exact Nat.le_of_eq rfl) (hb hby at_146) (fun _ _ => ⟨rfl, e80, (by decide : 2 + 0 ≤ _), (by decide : 22 + 0 ≤ _)⟩)
    dsimp only [Pt.U, Pt.locs, Pt.cells, Pt.slots] at X129 l129 y129 z129 st129 hQ129
    subst y129 z129
    obtain ⟨rfl, N129q, e129⟩ := hQ129
    have N129 : Fr n0 L129 := by rw [l129]; exact Fr.app N80 N129q
    obtain ⟨c130, c130A, c130q, c130S, c130N, c130H, c130G⟩ := id V80
    have c130in : ¬ ((10 : Int32) < 0 ∨ c130.slots.size ≤ ((10 : Int32)).toNatClampNeg) := inb_of c130S ⟨by decide, by decide⟩
    have c130at : c130.slots[((10 : Int32)).toNatClampNeg]? = some (.int 0) := Has.at c130H c130in rfl
    obtain ⟨fs, hr, hrun, hended, hW, hsame⟩ := X129.leave (v := some (.int 1)) (fun h => by rw [Bd.returns] at h; cases h)
    refine ⟨_, _, pre82 _ ?_, hrun, hended, _, _, rfl, ?_, ⟨_, rfl⟩, hW, hsame.mono (by decide) (by decide)⟩
    · show Steps p.tables e below (T80.setTop (mkF m 137 #[iv p0, rv b1, rv b47, .unset, .unset, .unset] [(.int 11), (.int (p0 &&& (2147483647 : Int32)))])) _
      refine iremM X80 hx rfl (hb hby at_137) rfl (by decide) ?_
      show Steps p.tables e below (T80.setTop (mkF m 138 #[iv p0, rv b1, rv b47, .unset, .unset, .unset] [(.int ((p0 &&& (2147483647 : Int32)) % (11 : Int32)))])) _
      refine own_top (v' := (.int 10)) (congrArg Value.int hk) ?_
      show Steps p.tables e below (T80.setTop (mkF m 138 #[iv p0, rv b1, rv b47, .unset, .unset, .unset] [(.int 10)])) _
      refine XS.istoreN X80.here hx rfl (hb hby at_138) rfl (l' := #[iv p0, rv b1, rv b47, iv 10, .unset, .unset]) rfl ?_
      show Steps p.tables e below (T80.setTop (mkF m 139 #[iv p0, rv b1, rv b47, iv 10, .unset, .unset] [])) _
      refine XS.aloadN X80.here hx rfl (hb hby at_139) rfl rfl ?_
      show Steps p.tables e below (T80.setTop (mkF m 140 #[iv p0, rv b1, rv b47, iv 10, .unset, .unset] [(.ref b1)])) _
      refine XS.iloadN X80.here hx rfl (hb hby at_140) rfl ?_
      show Steps p.tables e below (T80.setTop (mkF m 141 #[iv p0, rv b1, rv b47, iv 10, .unset, .unset] [(.int 10), (.ref b1)])) _
      refine X80.aaload hx (j := (10 : Int32)) (v := (.ref w_IBT_MARKET_EXCL)) (by rw [e80]; exact c128A.1) (State.isArrayOf_alike hZ.alike c128A.2.1) rfl c128A.2.2 c128in c128at (g := (mkF m 141 #[iv p0, rv b1, rv b47, iv 10, .unset, .unset] [(.int 10), (.ref b1)])) rfl rfl (hb hby at_141) _ ?_
      show Steps p.tables e below (T80.setTop (mkF m 142 #[iv p0, rv b1, rv b47, iv 10, .unset, .unset] [(.ref w_IBT_MARKET_EXCL)])) _
      refine XS.astore X80.here hx rfl (hb hby at_142) rfl rfl (l' := #[iv p0, rv b1, rv b47, iv 10, rv w_IBT_MARKET_EXCL, .unset]) rfl ?_
      show Steps p.tables e below (T80.setTop (mkF m 144 #[iv p0, rv b1, rv b47, iv 10, rv w_IBT_MARKET_EXCL, .unset] [])) _
      refine XS.aload X80.here hx rfl (hb hby at_144) rfl rfl ?_
      show Steps p.tables e below (T80.setTop (mkF m 146 #[iv p0, rv b1, rv b47, iv 10, rv w_IBT_MARKET_EXCL, .unset] [(.ref w_IBT_MARKET_EXCL)])) _
      refine st129.trans ?_
      show Steps p.tables e below (T129.setTop (mkF m 149 #[iv p0, rv b1, rv b47, iv 10, rv w_IBT_MARKET_EXCL, .unset] [(.int 0)])) _
      refine XS.istore X129.here hx rfl (hb hby at_149) rfl (l' := #[iv p0, rv b1, rv b47, iv 10, rv w_IBT_MARKET_EXCL, iv 0]) rfl ?_
      show Steps p.tables e below (T129.setTop (mkF m 151 #[iv p0, rv b1, rv b47, iv 10, rv w_IBT_MARKET_EXCL, iv 0] [])) _
      refine XS.iload X129.here hx rfl (hb hby at_151) rfl ?_
      show Steps p.tables e below (T129.setTop (mkF m 153 #[iv p0, rv b1, rv b47, iv 10, rv w_IBT_MARKET_EXCL, iv 0] [(.int 0)])) _
      refine XS.aloadN X129.here hx rfl (hb hby at_153) rfl rfl ?_
      show Steps p.tables e below (T129.setTop (mkF m 154 #[iv p0, rv b1, rv b47, iv 10, rv w_IBT_MARKET_EXCL, iv 0] [(.ref b47), (.int 0)])) _
      refine XS.iloadN X129.here hx rfl (hb hby at_154) rfl ?_
      show Steps p.tables e below (T129.setTop (mkF m 155 #[iv p0, rv b1, rv b47, iv 10, rv w_IBT_MARKET_EXCL, iv 0] [(.int 10), (.ref b47), (.int 0)])) _
      refine X129.baloadBooleans hx (j := (10 : Int32)) (v := (.int 0)) (by rw [e129]; exact c130A.1) (State.isArrayOf_alike hZ.alike c130A.2.1) c130A.2.2 c130in c130at (g := (mkF m 155 #[iv p0, rv b1, rv b47, iv 10, rv w_IBT_MARKET_EXCL, iv 0] [(.int 10), (.ref b47), (.int 0)])) rfl rfl (hb hby at_155) _ ?_
      show Steps p.tables e below (T129.setTop (mkF m 156 #[iv p0, rv b1, rv b47, iv 10, rv w_IBT_MARKET_EXCL, iv 0] [(.int 0), (.int 0)])) _
      refine XS.icmpYes X129.here hx rfl (pc0 := 156) (pc' := 161) rfl (hb hby at_156) rfl (teq (by decide)).1 (by decide) (by decide) ?_
      show Steps p.tables e below (T129.setTop (mkF m 161 #[iv p0, rv b1, rv b47, iv 10, rv w_IBT_MARKET_EXCL, iv 0] [])) _
      refine XS.iload X129.here hx rfl (hb hby at_161) rfl ?_
      show Steps p.tables e below (T129.setTop (mkF m 163 #[iv p0, rv b1, rv b47, iv 10, rv w_IBT_MARKET_EXCL, iv 0] [(.int 0)])) _
      refine XS.ifYes X129.here hx rfl (pc0 := 163) (pc' := 179) rfl (hb hby at_163) rfl ((if0 _ _).trans (teq (by decide)).1) (by decide) (by decide) ?_
      show Steps p.tables e below (T129.setTop (mkF m 179 #[iv p0, rv b1, rv b47, iv 10, rv w_IBT_MARKET_EXCL, iv 0] [])) _
      refine XS.iconst X129.here hx rfl (hb hby at_179) ?_
      show Steps p.tables e below (T129.setTop (mkF m 180 #[iv p0, rv b1, rv b47, iv 10, rv w_IBT_MARKET_EXCL, iv 0] [(.int 1)])) _
      exact retN X129 hx (t := .boolean) Bd.returns (by simp) (hb hby at_180) hr
    · show own_law_Q Z w_DEMAND_BID w_DECREMENT_BID w_METERED_LOAD w_EXTERNAL_SALE w_IBT_LOAD w_SUPPLY_OFFER w_INCREMENT_OFFER w_METERED_GENERATION w_EXTERNAL_PURCHASE w_IBT_MARKET w_IBT_MARKET_EXCL w_WITHDRAWAL w_INJECTION w_EITHER p0 h0 n0 _ T129.heap _
      rw [e129]
      exact ⟨rfl, N129⟩
set_option maxRecDepth 65536 in
set_option maxHeartbeats 40000000 in
theorem comes_1 {Post : Tables → Env → Array Value → State → Outcome → State → Prop} (hpost : ∀ tb e args s v u, (limb_1_1.after args s (.returned v) u = true ∧ limb_1_2.after args s (.returned v) u = true ∧ True) → FrameEnd s (.returned v) u (Jvm.fieldLocs frame_1_writes args s ++ Jvm.arrayLocs frame_1_arrays args s ++ Jvm.staticLocs frame_1_statics s) 16 128 → Post tb e args s (.returned v) u) :
    ArmFor flags0 classFile x code maxLocals ret World_1 tables_1 room_1 Calls_1 rest_1 Pre_1 Post := by
  intro l hfl _ _ p e ha hc hk s m args below hf hA hF happ hP
  obtain ⟨hcalls, hrest, hpre⟩ := hP
  obtain ⟨-, -, -, hnamed, -, -, -, hat⟩ := (Spec.applies_iff hf).mp happ
  obtain ⟨hg, hn⟩ := and_e (Cond.before_iff.mp (show (Jvm.Cond.and given_1 narrow_1).before args s = true from hpre))
  obtain ⟨hq1, hq2⟩ := and_e hg
  obtain ⟨w0, rfl⟩ : ∃ w0 : Value, args = #[w0] := by
    have hs : args.size = 1 := by simpa [Cond.value, given_1] using hq1
    obtain ⟨L⟩ := args
    match L, hs with
    | [w0], _ => exact ⟨w0, rfl⟩
  have hw := fun d (hd : d ∈ tables_1) => atoms_spec (ws := Jvm.Cond.code x code maxLocals ret :: tables_1) hat d (List.mem_cons_of_mem _ hd)
  have hfit : Fit s := fun {y c} hc i hi => by
    obtain ⟨ha, rfl⟩ := Array.getElem?_eq_some_iff.mp hc
    have q := List.all_eq_true.mp ((Array.all_eq_true_iff_forall_mem.mp hF) _ (Array.getElem_mem ha)) i (List.mem_range.mpr hi)
    simpa [Array.getElem?_eq_getElem hi] using q
  obtain ⟨i0, ei0⟩ := is_v hq2
  obtain rfl : w0 = (.int i0) := Option.some.inj ei0
  obtain ⟨hq3, hq4⟩ := and_e hn
  obtain ⟨hq5, hq6⟩ := and_e hq4
  obtain ⟨hq7, hq8⟩ := and_e hq6
  obtain ⟨hq9, hq10⟩ := and_e hq8
  obtain ⟨hq11, hq12⟩ := and_e hq10
  obtain ⟨hq13, hq14⟩ := and_e hq12
  obtain ⟨hq15, hq16⟩ := and_e hq14
  obtain ⟨hq17, hq18⟩ := and_e hq16
  obtain ⟨hq19, hq20⟩ := and_e hq18
  obtain ⟨hq21, hq22⟩ := and_e hq20
  obtain ⟨hq23, hq24⟩ := and_e hq22
  obtain ⟨hq25, hq26⟩ := and_e hq24
  obtain ⟨hq27, hq28⟩ := and_e hq26
  obtain ⟨hq29, hq30⟩ := and_e hq28
  obtain ⟨hq31, hq32⟩ := and_e hq30
  obtain ⟨hq33, hq34⟩ := and_e hq32
  obtain ⟨hq35, hq36⟩ := and_e hq34
  obtain ⟨hq37, hq38⟩ := and_e hq36
  obtain ⟨hq39, hq40⟩ := and_e hq38
  obtain ⟨hq41, hq42⟩ := and_e hq40
  obtain ⟨hq43, hq44⟩ := and_e hq42
  obtain ⟨hq45, hq46⟩ := and_e hq44
  obtain ⟨hq47, hq48⟩ := and_e hq46
  obtain ⟨hq49, hq50⟩ := and_e hq48
  obtain ⟨hq51, hq52⟩ := and_e hq50
  obtain ⟨hq53, hq54⟩ := and_e hq52
  obtain ⟨hq55, hq56⟩ := and_e hq54
  obtain ⟨hq57, hq58⟩ := and_e hq56
  obtain ⟨hq59, hq60⟩ := and_e hq58
  obtain ⟨hq61, hq62⟩ := and_e hq60
  obtain ⟨hq63, hq64⟩ := and_e hq62
  obtain ⟨hq65, hq66⟩ := and_e hq64
  obtain ⟨hq67, hq68⟩ := and_e hq66
  obtain ⟨hq69, hq70⟩ := and_e hq68
  obtain ⟨hq71, hq72⟩ := and_e hq70
  obtain ⟨hq73, hq74⟩ := and_e hq72
  obtain ⟨hq75, hq76⟩ := and_e hq74
  obtain ⟨hq77, hq78⟩ := and_e hq76
  obtain ⟨w_DEMAND_BID, ev_DEMAND_BID⟩ := exa_v hq3
  have S_DEMAND_BID : Sta s s.heap "com/example/holdfast/holdfast/PositionKind" "DEMAND_BID" "Lcom/example/holdfast/holdfast/PositionKind;" (.ref w_DEMAND_BID) := Sta.start ev_DEMAND_BID (Or.inr ⟨(hw _ (own_m 3 rfl)), (hw _ (own_m 4 rfl))⟩)
  have E_DEMAND_BID : Exa s s.heap w_DEMAND_BID "com/example/holdfast/holdfast/PositionKind" := Exa.start ev_DEMAND_BID hq3
  have R_DEMAND_BID : Fld s s.heap w_DEMAND_BID "java/lang/Enum" "ordinal" "I" (.int (0 : Int32)) := Fld.start ((fld_at ev_DEMAND_BID).symm.trans (own_eqI hq25))
  have U_DEMAND_BID := And.intro S_DEMAND_BID (And.intro E_DEMAND_BID R_DEMAND_BID)
  obtain ⟨w_DECREMENT_BID, ev_DECREMENT_BID⟩ := exa_v hq5
  have S_DECREMENT_BID : Sta s s.heap "com/example/holdfast/holdfast/PositionKind" "DECREMENT_BID" "Lcom/example/holdfast/holdfast/PositionKind;" (.ref w_DECREMENT_BID) := Sta.start ev_DECREMENT_BID (Or.inr ⟨(hw _ (own_m 3 rfl)), (hw _ (own_m 7 rfl))⟩)
  have E_DECREMENT_BID : Exa s s.heap w_DECREMENT_BID "com/example/holdfast/holdfast/PositionKind" := Exa.start ev_DECREMENT_BID hq5
  have R_DECREMENT_BID : Fld s s.heap w_DECREMENT_BID "java/lang/Enum" "ordinal" "I" (.int (1 : Int32)) := Fld.start ((fld_at ev_DECREMENT_BID).symm.trans (own_eqI hq53))
  have U_DECREMENT_BID := And.intro S_DECREMENT_BID (And.intro E_DECREMENT_BID R_DECREMENT_BID)
  obtain ⟨w_METERED_LOAD, ev_METERED_LOAD⟩ := exa_v hq7
  have S_METERED_LOAD : Sta s s.heap "com/example/holdfast/holdfast/PositionKind" "METERED_LOAD" "Lcom/example/holdfast/holdfast/PositionKind;" (.ref w_METERED_LOAD) := Sta.start ev_METERED_LOAD (Or.inr ⟨(hw _ (own_m 3 rfl)), (hw _ (own_m 9 rfl))⟩)
  have E_METERED_LOAD : Exa s s.heap w_METERED_LOAD "com/example/holdfast/holdfast/PositionKind" := Exa.start ev_METERED_LOAD hq7
  have R_METERED_LOAD : Fld s s.heap w_METERED_LOAD "java/lang/Enum" "ordinal" "I" (.int (2 : Int32)) := Fld.start ((fld_at ev_METERED_LOAD).symm.trans (own_eqI hq49))
  have U_METERED_LOAD := And.intro S_METERED_LOAD (And.intro E_METERED_LOAD R_METERED_LOAD)
  obtain ⟨w_EXTERNAL_SALE, ev_EXTERNAL_SALE⟩ := exa_v hq9
  have S_EXTERNAL_SALE : Sta s s.heap "com/example/holdfast/holdfast/PositionKind" "EXTERNAL_SALE" "Lcom/example/holdfast/holdfast/PositionKind;" (.ref w_EXTERNAL_SALE) := Sta.start ev_EXTERNAL_SALE (Or.inr ⟨(hw _ (own_m 3 rfl)), (hw _ (own_m 11 rfl))⟩)
  have E_EXTERNAL_SALE : Exa s s.heap w_EXTERNAL_SALE "com/example/holdfast/holdfast/PositionKind" := Exa.start ev_EXTERNAL_SALE hq9
  have R_EXTERNAL_SALE : Fld s s.heap w_EXTERNAL_SALE "java/lang/Enum" "ordinal" "I" (.int (3 : Int32)) := Fld.start ((fld_at ev_EXTERNAL_SALE).symm.trans (own_eqI hq29))
  have U_EXTERNAL_SALE := And.intro S_EXTERNAL_SALE (And.intro E_EXTERNAL_SALE R_EXTERNAL_SALE)
  obtain ⟨w_IBT_LOAD, ev_IBT_LOAD⟩ := exa_v hq11
  have S_IBT_LOAD : Sta s s.heap "com/example/holdfast/holdfast/PositionKind" "IBT_LOAD" "Lcom/example/holdfast/holdfast/PositionKind;" (.ref w_IBT_LOAD) := Sta.start ev_IBT_LOAD (Or.inr ⟨(hw _ (own_m 3 rfl)), (hw _ (own_m 13 rfl))⟩)
  have E_IBT_LOAD : Exa s s.heap w_IBT_LOAD "com/example/holdfast/holdfast/PositionKind" := Exa.start ev_IBT_LOAD hq11
  have R_IBT_LOAD : Fld s s.heap w_IBT_LOAD "java/lang/Enum" "ordinal" "I" (.int (4 : Int32)) := Fld.start ((fld_at ev_IBT_LOAD).symm.trans (own_eqI hq61))
  have U_IBT_LOAD := And.intro S_IBT_LOAD (And.intro E_IBT_LOAD R_IBT_LOAD)
  obtain ⟨w_SUPPLY_OFFER, ev_SUPPLY_OFFER⟩ := exa_v hq13
  have S_SUPPLY_OFFER : Sta s s.heap "com/example/holdfast/holdfast/PositionKind" "SUPPLY_OFFER" "Lcom/example/holdfast/holdfast/PositionKind;" (.ref w_SUPPLY_OFFER) := Sta.start ev_SUPPLY_OFFER (Or.inr ⟨(hw _ (own_m 3 rfl)), (hw _ (own_m 15 rfl))⟩)
  have E_SUPPLY_OFFER : Exa s s.heap w_SUPPLY_OFFER "com/example/holdfast/holdfast/PositionKind" := Exa.start ev_SUPPLY_OFFER hq13
  have R_SUPPLY_OFFER : Fld s s.heap w_SUPPLY_OFFER "java/lang/Enum" "ordinal" "I" (.int (5 : Int32)) := Fld.start ((fld_at ev_SUPPLY_OFFER).symm.trans (own_eqI hq57))
  have U_SUPPLY_OFFER := And.intro S_SUPPLY_OFFER (And.intro E_SUPPLY_OFFER R_SUPPLY_OFFER)
  obtain ⟨w_INCREMENT_OFFER, ev_INCREMENT_OFFER⟩ := exa_v hq15
  have S_INCREMENT_OFFER : Sta s s.heap "com/example/holdfast/holdfast/PositionKind" "INCREMENT_OFFER" "Lcom/example/holdfast/holdfast/PositionKind;" (.ref w_INCREMENT_OFFER) := Sta.start ev_INCREMENT_OFFER (Or.inr ⟨(hw _ (own_m 3 rfl)), (hw _ (own_m 17 rfl))⟩)
  have E_INCREMENT_OFFER : Exa s s.heap w_INCREMENT_OFFER "com/example/holdfast/holdfast/PositionKind" := Exa.start ev_INCREMENT_OFFER hq15
  have R_INCREMENT_OFFER : Fld s s.heap w_INCREMENT_OFFER "java/lang/Enum" "ordinal" "I" (.int (6 : Int32)) := Fld.start ((fld_at ev_INCREMENT_OFFER).symm.trans (own_eqI hq59))
  have U_INCREMENT_OFFER := And.intro S_INCREMENT_OFFER (And.intro E_INCREMENT_OFFER R_INCREMENT_OFFER)
  obtain ⟨w_METERED_GENERATION, ev_METERED_GENERATION⟩ := exa_v hq17
  have S_METERED_GENERATION : Sta s s.heap "com/example/holdfast/holdfast/PositionKind" "METERED_GENERATION" "Lcom/example/holdfast/holdfast/PositionKind;" (.ref w_METERED_GENERATION) := Sta.start ev_METERED_GENERATION (Or.inr ⟨(hw _ (own_m 3 rfl)), (hw _ (own_m 19 rfl))⟩)
  have E_METERED_GENERATION : Exa s s.heap w_METERED_GENERATION "com/example/holdfast/holdfast/PositionKind" := Exa.start ev_METERED_GENERATION hq17
  have R_METERED_GENERATION : Fld s s.heap w_METERED_GENERATION "java/lang/Enum" "ordinal" "I" (.int (7 : Int32)) := Fld.start ((fld_at ev_METERED_GENERATION).symm.trans (own_eqI hq41))
  have U_METERED_GENERATION := And.intro S_METERED_GENERATION (And.intro E_METERED_GENERATION R_METERED_GENERATION)
  obtain ⟨w_EXTERNAL_PURCHASE, ev_EXTERNAL_PURCHASE⟩ := exa_v hq19
  have S_EXTERNAL_PURCHASE : Sta s s.heap "com/example/holdfast/holdfast/PositionKind" "EXTERNAL_PURCHASE" "Lcom/example/holdfast/holdfast/PositionKind;" (.ref w_EXTERNAL_PURCHASE) := Sta.start ev_EXTERNAL_PURCHASE (Or.inr ⟨(hw _ (own_m 3 rfl)), (hw _ (own_m 21 rfl))⟩)
  have E_EXTERNAL_PURCHASE : Exa s s.heap w_EXTERNAL_PURCHASE "com/example/holdfast/holdfast/PositionKind" := Exa.start ev_EXTERNAL_PURCHASE hq19
  have R_EXTERNAL_PURCHASE : Fld s s.heap w_EXTERNAL_PURCHASE "java/lang/Enum" "ordinal" "I" (.int (8 : Int32)) := Fld.start ((fld_at ev_EXTERNAL_PURCHASE).symm.trans (own_eqI hq27))
  have U_EXTERNAL_PURCHASE := And.intro S_EXTERNAL_PURCHASE (And.intro E_EXTERNAL_PURCHASE R_EXTERNAL_PURCHASE)
  obtain ⟨w_IBT_MARKET, ev_IBT_MARKET⟩ := exa_v hq21
  have S_IBT_MARKET : Sta s s.heap "com/example/holdfast/holdfast/PositionKind" "IBT_MARKET" "Lcom/example/holdfast/holdfast/PositionKind;" (.ref w_IBT_MARKET) := Sta.start ev_IBT_MARKET (Or.inr ⟨(hw _ (own_m 3 rfl)), (hw _ (own_m 23 rfl))⟩)
  have E_IBT_MARKET : Exa s s.heap w_IBT_MARKET "com/example/holdfast/holdfast/PositionKind" := Exa.start ev_IBT_MARKET hq21
  have R_IBT_MARKET : Fld s s.heap w_IBT_MARKET "java/lang/Enum" "ordinal" "I" (.int (9 : Int32)) := Fld.start ((fld_at ev_IBT_MARKET).symm.trans (own_eqI hq55))
  have U_IBT_MARKET := And.intro S_IBT_MARKET (And.intro E_IBT_MARKET R_IBT_MARKET)
  obtain ⟨w_IBT_MARKET_EXCL, ev_IBT_MARKET_EXCL⟩ := exa_v hq23
  have S_IBT_MARKET_EXCL : Sta s s.heap "com/example/holdfast/holdfast/PositionKind" "IBT_MARKET_EXCL" "Lcom/example/holdfast/holdfast/PositionKind;" (.ref w_IBT_MARKET_EXCL) := Sta.start ev_IBT_MARKET_EXCL (Or.inr ⟨(hw _ (own_m 3 rfl)), (hw _ (own_m 25 rfl))⟩)
  have E_IBT_MARKET_EXCL : Exa s s.heap w_IBT_MARKET_EXCL "com/example/holdfast/holdfast/PositionKind" := Exa.start ev_IBT_MARKET_EXCL hq23
  have R_IBT_MARKET_EXCL : Fld s s.heap w_IBT_MARKET_EXCL "java/lang/Enum" "ordinal" "I" (.int (10 : Int32)) := Fld.start ((fld_at ev_IBT_MARKET_EXCL).symm.trans (own_eqI hq51))
  have U_IBT_MARKET_EXCL := And.intro S_IBT_MARKET_EXCL (And.intro E_IBT_MARKET_EXCL R_IBT_MARKET_EXCL)
  obtain ⟨w_WITHDRAWAL, ev_WITHDRAWAL⟩ := exa_v hq31
  have S_WITHDRAWAL : Sta s s.heap "com/example/holdfast/holdfast/PositionKind$Sign" "WITHDRAWAL" "Lcom/example/holdfast/holdfast/PositionKind$Sign;" (.ref w_WITHDRAWAL) := Sta.start ev_WITHDRAWAL (Or.inr ⟨(hw _ (own_m 42 rfl)), (hw _ (own_m 43 rfl))⟩)
  have E_WITHDRAWAL : Exa s s.heap w_WITHDRAWAL "com/example/holdfast/holdfast/PositionKind$Sign" := Exa.start ev_WITHDRAWAL hq31
  have R_WITHDRAWAL : Fld s s.heap w_WITHDRAWAL "java/lang/Enum" "ordinal" "I" (.int (0 : Int32)) := Fld.start ((fld_at ev_WITHDRAWAL).symm.trans (own_eqI hq37))
  have U_WITHDRAWAL := And.intro S_WITHDRAWAL (And.intro E_WITHDRAWAL R_WITHDRAWAL)
  obtain ⟨w_INJECTION, ev_INJECTION⟩ := exa_v hq43
  have S_INJECTION : Sta s s.heap "com/example/holdfast/holdfast/PositionKind$Sign" "INJECTION" "Lcom/example/holdfast/holdfast/PositionKind$Sign;" (.ref w_INJECTION) := Sta.start ev_INJECTION (Or.inr ⟨(hw _ (own_m 42 rfl)), (hw _ (own_m 46 rfl))⟩)
  have E_INJECTION : Exa s s.heap w_INJECTION "com/example/holdfast/holdfast/PositionKind$Sign" := Exa.start ev_INJECTION hq43
  have R_INJECTION : Fld s s.heap w_INJECTION "java/lang/Enum" "ordinal" "I" (.int (1 : Int32)) := Fld.start ((fld_at ev_INJECTION).symm.trans (own_eqI hq47))
  have U_INJECTION := And.intro S_INJECTION (And.intro E_INJECTION R_INJECTION)
  obtain ⟨w_EITHER, ev_EITHER⟩ := exa_v hq35
  have S_EITHER : Sta s s.heap "com/example/holdfast/holdfast/PositionKind$Sign" "EITHER" "Lcom/example/holdfast/holdfast/PositionKind$Sign;" (.ref w_EITHER) := Sta.start ev_EITHER (Or.inr ⟨(hw _ (own_m 42 rfl)), (hw _ (own_m 45 rfl))⟩)
  have E_EITHER : Exa s s.heap w_EITHER "com/example/holdfast/holdfast/PositionKind$Sign" := Exa.start ev_EITHER hq35
  have R_EITHER : Fld s s.heap w_EITHER "java/lang/Enum" "ordinal" "I" (.int (2 : Int32)) := Fld.start ((fld_at ev_EITHER).symm.trans (own_eqI hq39))
  have U_EITHER := And.intro S_EITHER (And.intro E_EITHER R_EITHER)
  have G_EXTERNAL_SALE : Fld s s.heap w_EXTERNAL_SALE "com/example/holdfast/holdfast/PositionKind" "sign" "Lcom/example/holdfast/holdfast/PositionKind$Sign;" (.ref w_WITHDRAWAL) := Fld.start ((fld_at ev_EXTERNAL_SALE).symm.trans (own_eqR hq33 ev_WITHDRAWAL))
  have G_EXTERNAL_PURCHASE : Fld s s.heap w_EXTERNAL_PURCHASE "com/example/holdfast/holdfast/PositionKind" "sign" "Lcom/example/holdfast/holdfast/PositionKind$Sign;" (.ref w_INJECTION) := Fld.start ((fld_at ev_EXTERNAL_PURCHASE).symm.trans (own_eqR hq45 ev_INJECTION))
  obtain ⟨n, o, h1, h2, h3, _, L, rfl, ⟨rfl, N⟩, hq⟩ := own_law l s _ hw tables_1 w_DEMAND_BID w_DECREMENT_BID w_METERED_LOAD w_EXTERNAL_SALE w_IBT_LOAD w_SUPPLY_OFFER w_INCREMENT_OFFER w_METERED_GENERATION w_EXTERNAL_PURCHASE w_IBT_MARKET w_IBT_MARKET_EXCL w_WITHDRAWAL w_INJECTION w_EITHER i0 s.heap s.heap.size (Old.start s) U_DEMAND_BID U_DECREMENT_BID U_METERED_LOAD U_EXTERNAL_SALE U_IBT_LOAD U_SUPPLY_OFFER U_INCREMENT_OFFER U_METERED_GENERATION U_EXTERNAL_PURCHASE U_IBT_MARKET U_IBT_MARKET_EXCL U_WITHDRAWAL U_INJECTION U_EITHER G_EXTERNAL_SALE G_EXTERNAL_PURCHASE p e ha hc hk s m _ below hf ((Spec.applies_iff_loose hf).mp happ).1 ⟨rfl, State.Warmed39.refl s, rfl⟩ trivial
  refine ⟨n, _, h1, h2, h3, hpost _ _ _ _ _ _ ⟨Cond.after_iff.mpr rfl, Cond.after_iff.mpr (eq_i res_at (Term.int_eval (1)) rfl), trivial⟩ ⟨hq.1, hq.2.1, (hq.2.2.sift fun y hy => Or.inr (N y hy)).mono (by decide) (by decide)⟩⟩
theorem main_1_1 : Claimed_1_1 := comes_1 fun _ _ _ _ _ _ h hF => ⟨h.1, hF⟩
theorem main_1_2 : Claimed_1_2 := comes_1 fun _ _ _ _ _ _ h hF => ⟨h.2.1, hF⟩
end Jvm.Pilot.@@N@@
namespace Jvm.Pilot.@@N@@
open Jvm Jvm.ClassFile Sem Op Lib Jvm.Free Jvm.Stand Jvm.Pilot.@@N@@.Jvm.D
/-! MADE BY PROGRAM (witnessworld.py) out of the Statement's table words and the real class files: 16 classes; the members and pool entries that the words name. The judged class is class 1, her method 1. -/
namespace start1
open Jvm.ClassFile
def u (s : String) : CpInfo := .utf8 (stringToUtf16 s)
/-- a pool by its gaps: so many unusable entries, then the entry; so many at the end -/
def gap : Nat → List CpInfo → List CpInfo
  | 0, r => r
  | n + 1, r => .unusable :: gap n r
def poolList (es : List (Nat × CpInfo)) (last : Nat) : List CpInfo := es.foldr (fun e r => gap e.1 (e.2 :: r)) (gap last [])
def pool (es : List (Nat × CpInfo)) (last : Nat) : Array CpInfo := ⟨poolList es last⟩
def fileOf (pool : Array CpInfo) (this : Nat) (attrs : Array Attribute := #[]) (ms : Array MethodInfo := #[]) (fl : Nat := 33) (sup : Nat := 0) (ifs : Array Nat := #[]) (fds : Array FieldInfo := #[]) : ClassFile where
  minorVersion := 0
  majorVersion := 65
  constantPool := pool
  accessFlags := fl
  thisClass := this
  superClass := sup
  interfaces := ifs
  fields := fds
  methods := ms
  attributes := attrs
def plain (name : String) (sup : Option ClassId) : Class where
  name := name
  kind := .ordinary
  loader := none
  accessFlags := 33
  super := sup
  interfaces := #[]
  cf := none
  fields := #[]
  methods := #[]
  instanceTypes := #[]
  staticTypes := #[]
  resolved := #[]
  callSites := []
  init := .initialized
  statics := none
  mirror := none

def pool0 : Array CpInfo := pool [(5, u "<init>"), (0, u "()V"), (1, .class_ 10), (1, u "java/lang/Object")] 113

def k0m0 : Method := { name := "<init>", desc := "()V", sig := { parameters := [], returnType := none }, accessFlags := 1, code := none }
/-- java/lang/Object -/
def k0 : Class := { plain "java/lang/Object" none with
  accessFlags := 33
  interfaces := #[]
  cf := some (fileOf pool0 8 #[] #[{ accessFlags := 1, nameIndex := 5, descriptorIndex := 6, attributes := #[] }] 33 0 #[] #[])
  fields := #[]
  methods := #[k0m0]
  instanceTypes := #[]
  staticTypes := #[]
  resolved := Array.replicate 124 none
  statics := none }

def pool1 : Array CpInfo := pool [(2, .class_ 4), (1, u "java/lang/Object"), (0, u "<init>"), (0, u "()V"), (0, .class_ 8), (0, u "com/example/holdfast/holdfast/PositionKind"), (0, .fieldref 7 10), (0, .nameAndType 11 12), (0, u "DEMAND_BID"), (0, u "Lcom/example/holdfast/holdfast/PositionKind;"), (0, .fieldref 7 14), (0, .nameAndType 15 12), (0, u "DECREMENT_BID"), (0, .fieldref 7 17), (0, .nameAndType 18 12), (0, u "METERED_LOAD"), (0, .fieldref 7 20), (0, .nameAndType 21 12), (0, u "EXTERNAL_SALE"), (0, .fieldref 7 23), (0, .nameAndType 24 12), (0, u "IBT_LOAD"), (0, .fieldref 7 26), (0, .nameAndType 27 12), (0, u "SUPPLY_OFFER"), (0, .fieldref 7 29), (0, .nameAndType 30 12), (0, u "INCREMENT_OFFER"), (0, .fieldref 7 32), (0, .nameAndType 33 12), (0, u "METERED_GENERATION"), (0, .fieldref 7 35), (0, .nameAndType 36 12), (0, u "EXTERNAL_PURCHASE"), (0, .fieldref 7 38), (0, .nameAndType 39 12), (0, u "IBT_MARKET"), (0, .fieldref 7 41), (0, .nameAndType 42 12), (0, u "IBT_MARKET_EXCL"), (0, .integer 2147483647), (0, .methodref 7 45), (0, .nameAndType 46 47), (0, u "crossesBorder"), (0, u "()Z"), (0, .methodref 7 49), (0, .nameAndType 50 51), (0, u "sign"), (0, u "()Lcom/example/holdfast/holdfast/PositionKind$Sign;"), (0, .fieldref 53 54), (0, .class_ 55), (0, .nameAndType 56 57), (0, u "com/example/holdfast/holdfast/PositionKind$Sign"), (0, u "EITHER"), (0, u "Lcom/example/holdfast/holdfast/PositionKind$Sign;"), (0, .class_ 59), (0, u "com/example/holdfast/holdfast/PositionKindCrossesBorderPinLaw"), (2, u "law"), (0, u "(I)Z")] 9

def k1m0 : Method := { name := "<init>", desc := "()V", sig := { parameters := [], returnType := none }, accessFlags := 2, code := none }
def k1c1 : Code := { maxStack := 4, maxLocals := 6, code := code, exceptionTable := #[], attributes := #[] }
def k1m1 : Method := { name := "law", desc := "(I)Z", sig := { parameters := [.int], returnType := some .boolean }, accessFlags := 9, code := some k1c1 }
/-- com/example/holdfast/holdfast/PositionKindCrossesBorderPinLaw -/
def k1 : Class := { plain "com/example/holdfast/holdfast/PositionKindCrossesBorderPinLaw" (some 0) with
  accessFlags := 49
  interfaces := #[]
  cf := some (fileOf pool1 58 #[] #[{ accessFlags := 2, nameIndex := 5, descriptorIndex := 6, attributes := #[] }, { accessFlags := 9, nameIndex := 62, descriptorIndex := 63, attributes := #[] }] 49 2 #[] #[])
  fields := #[]
  methods := #[k1m0, k1m1]
  instanceTypes := #[]
  staticTypes := #[]
  resolved := Array.replicate 73 none
  statics := none }

def pool2 : Array CpInfo := pool [(1, .class_ 2), (0, u "java/lang/constant/Constable"), (0, .class_ 4), (0, u "java/lang/Object")] 6

/-- java/lang/constant/Constable -/
def k2 : Class := { plain "java/lang/constant/Constable" (some 0) with
  accessFlags := 1537
  interfaces := #[]
  cf := some (fileOf pool2 1 #[] #[] 1537 3 #[] #[])
  fields := #[]
  methods := #[]
  instanceTypes := #[]
  staticTypes := #[]
  resolved := Array.replicate 11 none
  statics := none }

def pool3 : Array CpInfo := pool [(1, .class_ 2), (0, u "java/lang/Comparable"), (0, .class_ 4), (0, u "java/lang/Object")] 7

/-- java/lang/Comparable -/
def k3 : Class := { plain "java/lang/Comparable" (some 0) with
  accessFlags := 1537
  interfaces := #[]
  cf := some (fileOf pool3 1 #[] #[] 1537 3 #[] #[])
  fields := #[]
  methods := #[]
  instanceTypes := #[]
  staticTypes := #[]
  resolved := Array.replicate 12 none
  statics := none }

def pool4 : Array CpInfo := pool [(1, .class_ 2), (0, u "java/io/Serializable"), (0, .class_ 4), (0, u "java/lang/Object")] 2

/-- java/io/Serializable -/
def k4 : Class := { plain "java/io/Serializable" (some 0) with
  accessFlags := 1537
  interfaces := #[]
  cf := some (fileOf pool4 1 #[] #[] 1537 3 #[] #[])
  fields := #[]
  methods := #[]
  instanceTypes := #[]
  staticTypes := #[]
  resolved := Array.replicate 7 none
  statics := none }

def pool5 : Array CpInfo := pool [(2, .class_ 4), (1, u "java/lang/Enum"), (0, u "name"), (0, u "Ljava/lang/String;"), (2, u "ordinal"), (0, u "I"), (1, .class_ 14), (1, u "java/lang/Object"), (4, u "hash"), (86, .class_ 108), (1, u "java/lang/Enum$EnumDesc"), (2, .class_ 112), (0, u "java/lang/constant/Constable"), (0, .class_ 114), (0, u "java/lang/Comparable"), (0, .class_ 116), (0, u "java/io/Serializable")] 87

/-- java/lang/Enum -/
def k5 : Class := { plain "java/lang/Enum" (some 0) with
  accessFlags := 1057
  interfaces := #[2, 3, 4]
  cf := some (fileOf pool5 2 #[.nestMembers #[106]] #[] 1057 12 #[111, 113, 115] #[{ accessFlags := 18, nameIndex := 5, descriptorIndex := 6, attributes := #[] }, { accessFlags := 18, nameIndex := 9, descriptorIndex := 10, attributes := #[] }, { accessFlags := 2, nameIndex := 19, descriptorIndex := 10, attributes := #[] }])
  fields := #[{ name := "name", type := (.object "java/lang/String"), accessFlags := 18, slot := 0, constantValue := 0 }, { name := "ordinal", type := .int, accessFlags := 18, slot := 1, constantValue := 0 }, { name := "hash", type := .int, accessFlags := 2, slot := 2, constantValue := 0 }]
  methods := #[]
  instanceTypes := #[(.object "java/lang/String"), .int, .int]
  staticTypes := #[]
  resolved := Array.replicate 204 none
  statics := none }

def pool6 : Array CpInfo := pool [(1, .class_ 2), (0, u "com/example/holdfast/holdfast/PositionKind"), (2, u "DEMAND_BID"), (0, u "Lcom/example/holdfast/holdfast/PositionKind;"), (2, u "DECREMENT_BID"), (2, u "METERED_LOAD"), (0, .fieldref 1 14), (0, .nameAndType 15 6), (0, u "EXTERNAL_SALE"), (2, u "IBT_LOAD"), (2, u "SUPPLY_OFFER"), (2, u "INCREMENT_OFFER"), (2, u "METERED_GENERATION"), (0, .fieldref 1 29), (0, .nameAndType 30 6), (0, u "EXTERNAL_PURCHASE"), (2, u "IBT_MARKET"), (2, u "IBT_MARKET_EXCL"), (2, u "$VALUES"), (0, u "[Lcom/example/holdfast/holdfast/PositionKind;"), (6, .class_ 49), (1, u "java/lang/Enum"), (6, .fieldref 1 57), (0, .nameAndType 58 59), (0, u "sign"), (0, u "Lcom/example/holdfast/holdfast/PositionKind$Sign;"), (8, u "markets"), (0, u "Ljava/util/Set;"), (28, u "LABELS"), (0, u "Ljava/util/Map;"), (16, .class_ 118), (1, u "com/example/holdfast/holdfast/PositionKind$Sign"), (78, u "()Lcom/example/holdfast/holdfast/PositionKind$Sign;"), (1, u "()Z"), (1, u "crossesBorder")] 42

def k6c0 : Code := { maxStack := 1, maxLocals := 1, code := prog_23_method_5_code, exceptionTable := #[], attributes := #[] }
def k6m0 : Method := { name := "sign", desc := "()Lcom/example/holdfast/holdfast/PositionKind$Sign;", sig := { parameters := [], returnType := some (.object "com/example/holdfast/holdfast/PositionKind$Sign") }, accessFlags := 0, code := some k6c0 }
def k6c1 : Code := { maxStack := 2, maxLocals := 1, code := prog_23_method_7_code, exceptionTable := #[], attributes := #[] }
def k6m1 : Method := { name := "crossesBorder", desc := "()Z", sig := { parameters := [], returnType := some .boolean }, accessFlags := 0, code := some k6c1 }
/-- com/example/holdfast/holdfast/PositionKind -/
def k6 : Class := { plain "com/example/holdfast/holdfast/PositionKind" (some 5) with
  accessFlags := 16432
  interfaces := #[]
  cf := some (fileOf pool6 1 #[.nestMembers #[116]] #[{ accessFlags := 0, nameIndex := 58, descriptorIndex := 197, attributes := #[] }, { accessFlags := 0, nameIndex := 201, descriptorIndex := 199, attributes := #[] }] 16432 47 #[] #[{ accessFlags := 16409, nameIndex := 5, descriptorIndex := 6, attributes := #[] }, { accessFlags := 16409, nameIndex := 9, descriptorIndex := 6, attributes := #[] }, { accessFlags := 16409, nameIndex := 12, descriptorIndex := 6, attributes := #[] }, { accessFlags := 16409, nameIndex := 15, descriptorIndex := 6, attributes := #[] }, { accessFlags := 16409, nameIndex := 18, descriptorIndex := 6, attributes := #[] }, { accessFlags := 16409, nameIndex := 21, descriptorIndex := 6, attributes := #[] }, { accessFlags := 16409, nameIndex := 24, descriptorIndex := 6, attributes := #[] }, { accessFlags := 16409, nameIndex := 27, descriptorIndex := 6, attributes := #[] }, { accessFlags := 16409, nameIndex := 30, descriptorIndex := 6, attributes := #[] }, { accessFlags := 16409, nameIndex := 33, descriptorIndex := 6, attributes := #[] }, { accessFlags := 16409, nameIndex := 36, descriptorIndex := 6, attributes := #[] }, { accessFlags := 26, nameIndex := 98, descriptorIndex := 99, attributes := #[] }, { accessFlags := 18, nameIndex := 58, descriptorIndex := 59, attributes := #[] }, { accessFlags := 18, nameIndex := 68, descriptorIndex := 69, attributes := #[] }, { accessFlags := 4122, nameIndex := 39, descriptorIndex := 40, attributes := #[] }])
  fields := #[{ name := "DEMAND_BID", type := (.object "com/example/holdfast/holdfast/PositionKind"), accessFlags := 16409, slot := 0, constantValue := 0 }, { name := "DECREMENT_BID", type := (.object "com/example/holdfast/holdfast/PositionKind"), accessFlags := 16409, slot := 1, constantValue := 0 }, { name := "METERED_LOAD", type := (.object "com/example/holdfast/holdfast/PositionKind"), accessFlags := 16409, slot := 2, constantValue := 0 }, { name := "EXTERNAL_SALE", type := (.object "com/example/holdfast/holdfast/PositionKind"), accessFlags := 16409, slot := 3, constantValue := 0 }, { name := "IBT_LOAD", type := (.object "com/example/holdfast/holdfast/PositionKind"), accessFlags := 16409, slot := 4, constantValue := 0 }, { name := "SUPPLY_OFFER", type := (.object "com/example/holdfast/holdfast/PositionKind"), accessFlags := 16409, slot := 5, constantValue := 0 }, { name := "INCREMENT_OFFER", type := (.object "com/example/holdfast/holdfast/PositionKind"), accessFlags := 16409, slot := 6, constantValue := 0 }, { name := "METERED_GENERATION", type := (.object "com/example/holdfast/holdfast/PositionKind"), accessFlags := 16409, slot := 7, constantValue := 0 }, { name := "EXTERNAL_PURCHASE", type := (.object "com/example/holdfast/holdfast/PositionKind"), accessFlags := 16409, slot := 8, constantValue := 0 }, { name := "IBT_MARKET", type := (.object "com/example/holdfast/holdfast/PositionKind"), accessFlags := 16409, slot := 9, constantValue := 0 }, { name := "IBT_MARKET_EXCL", type := (.object "com/example/holdfast/holdfast/PositionKind"), accessFlags := 16409, slot := 10, constantValue := 0 }, { name := "LABELS", type := (.object "java/util/Map"), accessFlags := 26, slot := 11, constantValue := 0 }, { name := "sign", type := (.object "com/example/holdfast/holdfast/PositionKind$Sign"), accessFlags := 18, slot := 3, constantValue := 0 }, { name := "markets", type := (.object "java/util/Set"), accessFlags := 18, slot := 4, constantValue := 0 }, { name := "$VALUES", type := (.array (.object "com/example/holdfast/holdfast/PositionKind")), accessFlags := 4122, slot := 12, constantValue := 0 }]
  methods := #[k6m0, k6m1]
  instanceTypes := #[(.object "java/lang/String"), .int, .int, (.object "com/example/holdfast/holdfast/PositionKind$Sign"), (.object "java/util/Set")]
  staticTypes := #[(.object "com/example/holdfast/holdfast/PositionKind"), (.object "com/example/holdfast/holdfast/PositionKind"), (.object "com/example/holdfast/holdfast/PositionKind"), (.object "com/example/holdfast/holdfast/PositionKind"), (.object "com/example/holdfast/holdfast/PositionKind"), (.object "com/example/holdfast/holdfast/PositionKind"), (.object "com/example/holdfast/holdfast/PositionKind"), (.object "com/example/holdfast/holdfast/PositionKind"), (.object "com/example/holdfast/holdfast/PositionKind"), (.object "com/example/holdfast/holdfast/PositionKind"), (.object "com/example/holdfast/holdfast/PositionKind"), (.object "java/util/Map"), (.array (.object "com/example/holdfast/holdfast/PositionKind"))]
  resolved := Array.replicate 244 none
  statics := some 0 }

def pool7 : Array CpInfo := pool [(1, .class_ 2), (0, u "com/example/holdfast/holdfast/PositionKind$Sign"), (2, u "WITHDRAWAL"), (0, u "Lcom/example/holdfast/holdfast/PositionKind$Sign;"), (2, u "INJECTION"), (2, u "EITHER"), (2, u "$VALUES"), (0, u "[Lcom/example/holdfast/holdfast/PositionKind$Sign;"), (6, .class_ 25), (1, u "java/lang/Enum"), (8, u "words"), (0, u "Ljava/lang/String;"), (43, .class_ 80), (0, u "com/example/holdfast/holdfast/PositionKind")] 2

/-- com/example/holdfast/holdfast/PositionKind$Sign -/
def k7 : Class := { plain "com/example/holdfast/holdfast/PositionKind$Sign" (some 5) with
  accessFlags := 16432
  interfaces := #[]
  cf := some (fileOf pool7 1 #[.nestHost 79] #[] 16432 23 #[] #[{ accessFlags := 16409, nameIndex := 5, descriptorIndex := 6, attributes := #[] }, { accessFlags := 16409, nameIndex := 9, descriptorIndex := 6, attributes := #[] }, { accessFlags := 16409, nameIndex := 12, descriptorIndex := 6, attributes := #[] }, { accessFlags := 18, nameIndex := 34, descriptorIndex := 35, attributes := #[] }, { accessFlags := 4122, nameIndex := 15, descriptorIndex := 16, attributes := #[] }])
  fields := #[{ name := "WITHDRAWAL", type := (.object "com/example/holdfast/holdfast/PositionKind$Sign"), accessFlags := 16409, slot := 0, constantValue := 0 }, { name := "INJECTION", type := (.object "com/example/holdfast/holdfast/PositionKind$Sign"), accessFlags := 16409, slot := 1, constantValue := 0 }, { name := "EITHER", type := (.object "com/example/holdfast/holdfast/PositionKind$Sign"), accessFlags := 16409, slot := 2, constantValue := 0 }, { name := "words", type := (.object "java/lang/String"), accessFlags := 18, slot := 3, constantValue := 0 }, { name := "$VALUES", type := (.array (.object "com/example/holdfast/holdfast/PositionKind$Sign")), accessFlags := 4122, slot := 3, constantValue := 0 }]
  methods := #[]
  instanceTypes := #[(.object "java/lang/String"), .int, .int, (.object "java/lang/String")]
  staticTypes := #[(.object "com/example/holdfast/holdfast/PositionKind$Sign"), (.object "com/example/holdfast/holdfast/PositionKind$Sign"), (.object "com/example/holdfast/holdfast/PositionKind$Sign"), (.array (.object "com/example/holdfast/holdfast/PositionKind$Sign"))]
  resolved := Array.replicate 83 none
  statics := some 1 }

def pool8 : Array CpInfo := pool [(1, u "java/lang/Cloneable"), (0, .class_ 1), (0, u "java/lang/Object"), (0, .class_ 3)] 3

/-- java/lang/Cloneable -/
def k8 : Class := { plain "java/lang/Cloneable" (some 0) with
  accessFlags := 1537
  interfaces := #[]
  cf := some (fileOf pool8 2 #[] #[] 1537 4 #[] #[])
  fields := #[]
  methods := #[]
  instanceTypes := #[]
  staticTypes := #[]
  resolved := Array.replicate 8 none
  statics := none }

/-- the primitive boolean -/
def k9 : Class := { plain "boolean" none with kind := .primitive 'Z', accessFlags := 0x411 }
/-- [Z -/
def k10 : Class := { plain "[Z" (some 0) with kind := .array 9 .boolean, interfaces := #[8, 4], accessFlags := 1041 }

/-- the primitive byte -/
def k11 : Class := { plain "byte" none with kind := .primitive 'B', accessFlags := 0x411 }
/-- [B -/
def k12 : Class := { plain "[B" (some 0) with kind := .array 11 .byte, interfaces := #[8, 4], accessFlags := 1041 }

/-- the primitive int -/
def k13 : Class := { plain "int" none with kind := .primitive 'I', accessFlags := 0x411 }
/-- [I -/
def k14 : Class := { plain "[I" (some 0) with kind := .array 13 .int, interfaces := #[8, 4], accessFlags := 1041 }

/-- [Lcom/example/holdfast/holdfast/PositionKind; -/
def k15 : Class := { plain "[Lcom/example/holdfast/holdfast/PositionKind;" (some 0) with kind := .array 6 (.object "com/example/holdfast/holdfast/PositionKind"), interfaces := #[8, 4], accessFlags := 1041 }

def heap : Heap := #[{ cls := 6, slots := #[.ref 2, .ref 3, .ref 4, .ref 5, .ref 6, .ref 7, .ref 8, .ref 9, .ref 10, .ref 11, .ref 12, .null, .null], vm := .statics 6 },
  { cls := 7, slots := #[.ref 13, .ref 15, .ref 14, .null], vm := .statics 7 },
  { cls := 6, slots := #[.null, .int 0, .int 0, .ref 13, .null], vm := .none },
  { cls := 6, slots := #[.null, .int 1, .int 0, .ref 13, .null], vm := .none },
  { cls := 6, slots := #[.null, .int 2, .int 0, .ref 13, .null], vm := .none },
  { cls := 6, slots := #[.null, .int 3, .int 0, .ref 13, .null], vm := .none },
  { cls := 6, slots := #[.null, .int 4, .int 0, .ref 14, .null], vm := .none },
  { cls := 6, slots := #[.null, .int 5, .int 0, .ref 15, .null], vm := .none },
  { cls := 6, slots := #[.null, .int 6, .int 0, .ref 15, .null], vm := .none },
  { cls := 6, slots := #[.null, .int 7, .int 0, .ref 15, .null], vm := .none },
  { cls := 6, slots := #[.null, .int 8, .int 0, .ref 15, .null], vm := .none },
  { cls := 6, slots := #[.null, .int 9, .int 0, .ref 14, .null], vm := .none },
  { cls := 6, slots := #[.null, .int 10, .int 0, .ref 14, .null], vm := .none },
  { cls := 7, slots := #[.null, .int 0, .int 0, .null], vm := .none },
  { cls := 7, slots := #[.null, .int 2, .int 0, .null], vm := .none },
  { cls := 7, slots := #[.null, .int 1, .int 0, .null], vm := .none }]
def classes : Array Class := #[k0, k1, k2, k3, k4, k5, k6, k7, k8, k9, k10, k11, k12, k13, k14, k15]
def interned : List (Array UInt16 × Addr) := []
def slotsUsed : Nat := 84
def theMethod : MethodId := ⟨1, 1⟩
def args0 : Array Value := #[.int 5]
def aboutOver (below : List Frame) : State where
  vm := { classes := classes, interned := interned.toArray }
  heap := heap
  slotsUsed := slotsUsed
  threads := #[{ frames := .invoking theMethod args0 :: below }]
def below0 : List Frame := [.native { method := ⟨0, 0⟩, args := #[] }]
def about1 : State := aboutOver below0
def p0 : Program := .bare "" "" ""
def e0 : Env := launch0.env 0 0 0
theorem w_frames : about1.frames = Frame.invoking theMethod args0 :: below0 := rfl
set_option maxRecDepth 65536 in
theorem w_args : argsFit about1.vm theMethod args0 = true := by decide +kernel
set_option maxRecDepth 65536 in
theorem w_heap : heapFits about1 = true := by decide +kernel
set_option maxRecDepth 65536 in
theorem w_runnable : about1.curStatus? = some .runnable := by decide +kernel
set_option maxRecDepth 65536 in
theorem w_alone : about1.alone = true := by decide +kernel
set_option maxRecDepth 65536 in
theorem w_named : about1.methodNamed? x = some theMethod := by decide +kernel
set_option maxRecDepth 65536 in
theorem w_hears : about1.hears theMethod below0 = true := by decide +kernel
set_option maxRecDepth 65536 in
theorem w_ripe : about1.ripe theMethod args0 below0 = true := by decide +kernel
theorem w_running : about1.status = .running := rfl
set_option maxRecDepth 65536 in
theorem w_room : about1.hasRoom e0.platform room_1 = true :=
  launch0.hasRoom_least _ room_1 (by decide +kernel) (by decide +kernel) (by decide +kernel) (by decide +kernel) (by decide +kernel) (by decide +kernel)
theorem allAtoms_all (ts : List Jvm.Cond) (a : Array Jvm.Value) (st : Jvm.State) : (allAtoms ts).before a st = ts.all (fun c => c.before a st) := by
  induction ts with
  | nil => rfl
  | cons c t ih =>
    show (Jvm.Cond.and c (allAtoms t)).before a st = _
    rw [Jvm.Cond.before_and, ih, List.all_cons]
def words1 : List Jvm.Cond := Jvm.Cond.code x code maxLocals ret :: tables_1
/-- a 'code' word, met by the world's own term for the bytes: nothing is compared byte by byte -/
theorem code_word {y : MethodName} {bytes : ByteArray} {mx : Nat} {rt : Option FieldType} {a : Array Value} {s : State} {m : MethodId} {meth : Method} {c : Code} (h1 : s.methodNamed? y = some m) (h2 : s.vm.method? m = some meth) (h3 : meth.code = some c) (h4 : c.code = bytes)
    (h5 : (c.maxLocals == mx && c.exceptionTable.isEmpty && decide (c.maxStack ≤ mostOperands) && decide (meth.sig.returnType = rt) && !meth.locks && decide (parseMethodDescriptor y.desc = some meth.sig)) = true) : (Jvm.Cond.code y bytes mx rt).before a s = true := by
  simp only [Bool.and_eq_true, beq_iff_eq, Bool.not_eq_true', decide_eq_true_eq] at h5
  obtain ⟨⟨⟨⟨⟨g1, g2⟩, g3⟩, g4⟩, g5⟩, g6⟩ := h5
  simp [Cond.before, Cond.holds, Cond.value, h1, h2, h3, h4, g1, g2, g3, g4, g5, g6]
def isCode : Jvm.Cond → Bool
  | .code _ _ _ _ => true
  | _ => false
theorem all_split {L : List Jvm.Cond} {P : Jvm.Cond → Bool} (h1 : L.all (fun c => isCode c || P c) = true) (h2 : ∀ c ∈ L.filter isCode, P c = true) : L.all P = true := by
  refine List.all_eq_true.mpr fun c hc => ?_
  have h := List.all_eq_true.mp h1 c hc
  rcases Bool.eq_false_or_eq_true (isCode c) with hi | hi
  · exact h2 c (List.mem_filter.mpr ⟨hc, hi⟩)
  · simpa [hi] using h
set_option maxRecDepth 65536 in
theorem w_c0 : (Jvm.Cond.code x code maxLocals ret).before args0 about1 = true := code_word (m := ⟨1, 1⟩) (meth := k1m1) (c := k1c1) (by decide +kernel) rfl rfl rfl (by decide +kernel)
set_option maxRecDepth 65536 in
theorem w_c1 : (Jvm.Cond.code ({ cls := "com/example/holdfast/holdfast/PositionKind", name := "crossesBorder", desc := "()Z" } : Jvm.MethodName) prog_23_method_7_code (1 : Nat) (Option.some Jvm.ClassFile.FieldType.boolean)).before args0 about1 = true := code_word (m := ⟨6, 1⟩) (meth := k6m1) (c := k6c1) (by decide +kernel) rfl rfl rfl (by decide +kernel)
set_option maxRecDepth 65536 in
theorem w_c2 : (Jvm.Cond.code ({ cls := "com/example/holdfast/holdfast/PositionKind", name := "sign", desc := "()Lcom/example/holdfast/holdfast/PositionKind$Sign;" } : Jvm.MethodName) prog_23_method_5_code (1 : Nat) (Option.some (Jvm.ClassFile.FieldType.object "com/example/holdfast/holdfast/PositionKind$Sign"))).before args0 about1 = true := code_word (m := ⟨6, 0⟩) (meth := k6m0) (c := k6c0) (by decide +kernel) rfl rfl rfl (by decide +kernel)
def codes1 : List Jvm.Cond := [Jvm.Cond.code x code maxLocals ret, Jvm.Cond.code ({ cls := "com/example/holdfast/holdfast/PositionKind", name := "crossesBorder", desc := "()Z" } : Jvm.MethodName) prog_23_method_7_code (1 : Nat) (Option.some Jvm.ClassFile.FieldType.boolean), Jvm.Cond.code ({ cls := "com/example/holdfast/holdfast/PositionKind", name := "sign", desc := "()Lcom/example/holdfast/holdfast/PositionKind$Sign;" } : Jvm.MethodName) prog_23_method_5_code (1 : Nat) (Option.some (Jvm.ClassFile.FieldType.object "com/example/holdfast/holdfast/PositionKind$Sign"))]
set_option maxRecDepth 65536 in
theorem codes_eq : words1.filter isCode = codes1 := rfl
theorem w_codes : ∀ c ∈ words1.filter isCode, c.before args0 about1 = true := by
  rw [codes_eq]
  intro c hc
  simp only [codes1, List.mem_cons, List.not_mem_nil, or_false] at hc
  rcases hc with rfl | rfl | rfl
  · exact w_c0
  · exact w_c1
  · exact w_c2
set_option maxRecDepth 65536 in
theorem w_t1 : (words1.take 24).all (fun c => isCode c || c.before args0 about1) = true := by decide +kernel
set_option maxRecDepth 65536 in
theorem w_t2 : (words1.drop 24).all (fun c => isCode c || c.before args0 about1) = true := by decide +kernel
theorem w_tables : (allAtoms (Jvm.Cond.code x code maxLocals ret :: tables_1)).before args0 about1 = true := by
  rw [allAtoms_all]
  show words1.all (fun c => c.before args0 about1) = true
  refine all_split ?_ w_codes
  rw [← List.take_append_drop 24 words1, List.all_append, w_t1, w_t2]
  rfl
set_option maxRecDepth 65536 in
theorem w_case : (Jvm.Cond.and given_1 narrow_1).before args0 about1 = true := by decide +kernel
theorem w_applies : (headSpec (Jvm.Cond.code x code maxLocals ret :: tables_1) room_1).applies x e0.platform about1 = true :=
  (Spec.applies_iff w_frames).mpr ⟨w_running, w_runnable, w_alone, w_named, w_hears, w_ripe, w_room, w_tables⟩
theorem atStart : AtStart classFile x code maxLocals ret World_1 tables_1 room_1 Calls_1 rest_1 Pre_1 launch0 p0 e0 about1 theMethod args0 below0 :=
  ⟨lists_1, trivial, launch0.admits_env _ _ _, launch0.least_env, fairChoices_fair.cas, fairChoices_fair.clock, w_frames, w_args, w_heap, w_applies, trivial, trivial, w_case⟩
end start1
theorem witness_1 : WitnessClaimed_1 := ⟨start1.p0, start1.e0, start1.about1, start1.theMethod, start1.args0, start1.below0, start1.atStart⟩
end Jvm.Pilot.@@N@@
