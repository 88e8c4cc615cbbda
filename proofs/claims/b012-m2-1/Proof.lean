import JvmDerived
import JvmDerived.Pilot.@@N@@Statement
import JvmDerived.Pilot.@@N@@Code
set_option linter.unusedVariables false
set_option linter.unusedSimpArgs false
namespace Jvm.RoadKit
open Sem ClassFile Op Lib Jvm.Stand Jvm.Free Jvm.LawKit
section New
variable {p : Program} {l : Launch} {e : Env} {R : Room} {s : State} {m : MethodId} {args : Array Value} {below : List Frame} {meth : Method} {c : Code} {T : State} {locs : List Loc} {cells slots : Nat}
theorem retI (X : Stand p l e R s m args below meth c T locs cells slots) (hx : p.tables.exec = Jvm.exec) {pc : Nat} {Ls : Array Slot} {z : Int32} {rest : List Value} (hret : meth.sig.returnType = some .int) (hd : decode c.code pc = .ok (.ireturn, 1)) {fs : List Frame}
    (hl : ∀ (f : JFrame) (acts : List Action), f.method = m → f.locked = none → f.entered = [] → (doReturn e (T.setTop f) acts (some (.int z))).1 = T.setFrames fs) : Steps p.tables e below (T.setTop (mkF m pc Ls (.int z :: rest))) (T.setFrames fs) := by
  have hm' : T.vm.method? m = some meth := X.method'
  have hn : narrow .int (.int z) = .int z := rfl
  show Steps p.tables e below (T.setTop { method := m, pc := pc, locals := Ls, stack := _ :: rest, locked := none }) _
  jvm_step X.here [X.here.top, hx, hd, hm', hret, hn]
  first | (intro acts; rw [hl _ acts rfl rfl rfl]) | rw [hl _ _ rfl rfl rfl]
  exact Steps.refl _
end New
end Jvm.RoadKit
namespace Jvm.Pilot.@@N@@
open Jvm Jvm.ClassFile Sem Op Lib Jvm.Free Jvm.Stand Jvm.LawKit Jvm.RoadKit Bundle Jvm.Pilot.@@N@@.Jvm.D
theorem own_top {tb : Tables} {e : Env} {below : List Frame} {T t : State} {m : MethodId} {pc : Nat} {Ls : Array Slot} {v v' : Value} {rest : List Value} (q : v = v') (k : Steps tb e below (T.setTop (mkF m pc Ls (v' :: rest))) t) : Steps tb e below (T.setTop (mkF m pc Ls (v :: rest))) t := q ▸ k
theorem own_le {Z : State} {n0 : Nat} {h : Heap} (O : Old Z n0 h) : n0 ≤ h.size := O.1 ▸ O.2.1
theorem own_eqI {args : Array Value} {first s : State} {o : Option Outcome} {idx : List Nat} {t : Term} {k : Int32} (h : (Jvm.Cond.eq t (.int k)).value args first o s idx = some true) : t.eval args first o idx s = some (.int k) := by
  cases ht : t.eval args first o idx s with
  | none => simp [Cond.value, Term.eval, ht] at h
  | some x => cases x <;> simp [Cond.value, Term.eval, ht] at h ⊢; exact h
theorem own_eqJ {args : Array Value} {first s : State} {o : Option Outcome} {idx : List Nat} {t : Term} {k : Int64} (h : (Jvm.Cond.eq t (.long k)).value args first o s idx = some true) : t.eval args first o idx s = some (.long k) := by
  cases ht : t.eval args first o idx s with
  | none => simp [Cond.value, Term.eval, ht] at h
  | some x => cases x <;> simp [Cond.value, Term.eval, ht] at h ⊢; exact h
theorem own_eqR {args : Array Value} {first s : State} {o : Option Outcome} {idx : List Nat} {t u : Term} {b : Addr} (h : (Jvm.Cond.eq t u).value args first o s idx = some true) (hu : u.eval args first o idx s = some (.ref b)) : t.eval args first o idx s = some (.ref b) := by
  cases ht : t.eval args first o idx s with
  | none => simp [Cond.value, ht] at h
  | some x => cases x <;> simp [Cond.value, ht, hu] at h ⊢; exact h
def own_En (Z : State) (h : Heap) (C f d : String) (w : Addr) (k : Int32) : Prop := Sta Z h C f d (.ref w) ∧ Exa Z h w C ∧ Fld Z h w "java/lang/Enum" "ordinal" "I" (.int k)
theorem own_d1_0 : decode method_2_code 0 = .ok (.iload_n 0, 1) := by decide +kernel
theorem own_d1_1 : decode method_2_code 1 = .ok (.ifCond .ne 7, 3) := by decide +kernel
theorem own_d1_4 : decode method_2_code 4 = .ok (.getstatic 7, 3) := by decide +kernel
theorem own_d1_7 : decode method_2_code 7 = .ok (.areturn, 1) := by decide +kernel
theorem own_d1_8 : decode method_2_code 8 = .ok (.iload_n 0, 1) := by decide +kernel
theorem own_d1_9 : decode method_2_code 9 = .ok (.iconst 1, 1) := by decide +kernel
theorem own_d1_10 : decode method_2_code 10 = .ok (.if_icmp .ne 7, 3) := by decide +kernel
theorem own_d1_13 : decode method_2_code 13 = .ok (.getstatic 13, 3) := by decide +kernel
theorem own_d1_16 : decode method_2_code 16 = .ok (.areturn, 1) := by decide +kernel
theorem own_d1_17 : decode method_2_code 17 = .ok (.iload_n 0, 1) := by decide +kernel
theorem own_d1_18 : decode method_2_code 18 = .ok (.iconst 2, 1) := by decide +kernel
theorem own_d1_19 : decode method_2_code 19 = .ok (.if_icmp .ne 7, 3) := by decide +kernel
theorem own_d1_22 : decode method_2_code 22 = .ok (.getstatic 16, 3) := by decide +kernel
theorem own_d1_25 : decode method_2_code 25 = .ok (.areturn, 1) := by decide +kernel
theorem own_d1_26 : decode method_2_code 26 = .ok (.iload_n 0, 1) := by decide +kernel
theorem own_d1_27 : decode method_2_code 27 = .ok (.iconst 3, 1) := by decide +kernel
theorem own_d1_28 : decode method_2_code 28 = .ok (.if_icmp .ne 7, 3) := by decide +kernel
theorem own_d1_31 : decode method_2_code 31 = .ok (.getstatic 19, 3) := by decide +kernel
theorem own_d1_34 : decode method_2_code 34 = .ok (.areturn, 1) := by decide +kernel
theorem own_d1_35 : decode method_2_code 35 = .ok (.iload_n 0, 1) := by decide +kernel
theorem own_d1_36 : decode method_2_code 36 = .ok (.iconst 4, 1) := by decide +kernel
theorem own_d1_37 : decode method_2_code 37 = .ok (.if_icmp .ne 7, 3) := by decide +kernel
theorem own_d1_40 : decode method_2_code 40 = .ok (.getstatic 22, 3) := by decide +kernel
theorem own_d1_43 : decode method_2_code 43 = .ok (.areturn, 1) := by decide +kernel
theorem own_d1_44 : decode method_2_code 44 = .ok (.iload_n 0, 1) := by decide +kernel
theorem own_d1_45 : decode method_2_code 45 = .ok (.iconst 5, 1) := by decide +kernel
theorem own_d1_46 : decode method_2_code 46 = .ok (.if_icmp .ne 7, 3) := by decide +kernel
theorem own_d1_49 : decode method_2_code 49 = .ok (.getstatic 25, 3) := by decide +kernel
theorem own_d1_52 : decode method_2_code 52 = .ok (.areturn, 1) := by decide +kernel
theorem own_d1_53 : decode method_2_code 53 = .ok (.iload_n 0, 1) := by decide +kernel
theorem own_d1_54 : decode method_2_code 54 = .ok (.bipush 6, 2) := by decide +kernel
theorem own_d1_56 : decode method_2_code 56 = .ok (.if_icmp .ne 7, 3) := by decide +kernel
theorem own_d1_59 : decode method_2_code 59 = .ok (.getstatic 28, 3) := by decide +kernel
theorem own_d1_62 : decode method_2_code 62 = .ok (.areturn, 1) := by decide +kernel
theorem own_d1_63 : decode method_2_code 63 = .ok (.iload_n 0, 1) := by decide +kernel
theorem own_d1_64 : decode method_2_code 64 = .ok (.bipush 7, 2) := by decide +kernel
theorem own_d1_66 : decode method_2_code 66 = .ok (.if_icmp .ne 7, 3) := by decide +kernel
theorem own_d1_69 : decode method_2_code 69 = .ok (.getstatic 31, 3) := by decide +kernel
theorem own_d1_72 : decode method_2_code 72 = .ok (.areturn, 1) := by decide +kernel
theorem own_d1_73 : decode method_2_code 73 = .ok (.iload_n 0, 1) := by decide +kernel
theorem own_d1_74 : decode method_2_code 74 = .ok (.bipush 8, 2) := by decide +kernel
theorem own_d1_76 : decode method_2_code 76 = .ok (.if_icmp .ne 7, 3) := by decide +kernel
theorem own_d1_79 : decode method_2_code 79 = .ok (.getstatic 34, 3) := by decide +kernel
theorem own_d1_82 : decode method_2_code 82 = .ok (.areturn, 1) := by decide +kernel
theorem own_d1_83 : decode method_2_code 83 = .ok (.iload_n 0, 1) := by decide +kernel
theorem own_d1_84 : decode method_2_code 84 = .ok (.bipush 9, 2) := by decide +kernel
theorem own_d1_86 : decode method_2_code 86 = .ok (.if_icmp .ne 7, 3) := by decide +kernel
theorem own_d1_89 : decode method_2_code 89 = .ok (.getstatic 37, 3) := by decide +kernel
theorem own_d1_92 : decode method_2_code 92 = .ok (.areturn, 1) := by decide +kernel
theorem own_d1_93 : decode method_2_code 93 = .ok (.getstatic 40, 3) := by decide +kernel
theorem own_d1_96 : decode method_2_code 96 = .ok (.areturn, 1) := by decide +kernel
theorem own_d2_0 : decode prog_23_method_6_code 0 = .ok (.aload_n 0, 1) := by decide +kernel
theorem own_d2_1 : decode prog_23_method_6_code 1 = .ok (.getstatic 31, 3) := by decide +kernel
theorem own_d2_4 : decode prog_23_method_6_code 4 = .ok (.if_acmp .eq 10, 3) := by decide +kernel
theorem own_d2_7 : decode prog_23_method_6_code 7 = .ok (.aload_n 0, 1) := by decide +kernel
theorem own_d2_8 : decode prog_23_method_6_code 8 = .ok (.getstatic 34, 3) := by decide +kernel
theorem own_d2_11 : decode prog_23_method_6_code 11 = .ok (.if_acmp .ne 7, 3) := by decide +kernel
theorem own_d2_14 : decode prog_23_method_6_code 14 = .ok (.iconst 1, 1) := by decide +kernel
theorem own_d2_15 : decode prog_23_method_6_code 15 = .ok (.goto 4, 3) := by decide +kernel
theorem own_d2_18 : decode prog_23_method_6_code 18 = .ok (.iconst 0, 1) := by decide +kernel
theorem own_d2_19 : decode prog_23_method_6_code 19 = .ok (.ireturn, 1) := by decide +kernel
theorem own_pn0 : plainName "com/example/holdfast/holdfast/PositionKind" = true := by first | (simp [plainName, overriddenIn]; done) | decide +kernel
theorem own_pn1 : plainName "com/example/holdfast/holdfast/PositionKindCarriesIntoRealTimePinLaw" = true := by first | (simp [plainName, overriddenIn]; done) | decide +kernel
theorem own_pd0 : parseMethodDescriptor "(I)Lcom/example/holdfast/holdfast/PositionKind;" = some ⟨[.int], some (.object "com/example/holdfast/holdfast/PositionKind")⟩ := by decide +kernel
theorem own_pd1 : parseMethodDescriptor "()Z" = some ⟨[], some .boolean⟩ := by decide +kernel
theorem own_rem11 (x : Int32) : ((x &&& (2147483647 : Int32)) % (11 : Int32)) = (0 : Int32) ∨ ((x &&& (2147483647 : Int32)) % (11 : Int32)) = (1 : Int32) ∨ ((x &&& (2147483647 : Int32)) % (11 : Int32)) = (2 : Int32) ∨ ((x &&& (2147483647 : Int32)) % (11 : Int32)) = (3 : Int32) ∨ ((x &&& (2147483647 : Int32)) % (11 : Int32)) = (4 : Int32) ∨ ((x &&& (2147483647 : Int32)) % (11 : Int32)) = (5 : Int32) ∨ ((x &&& (2147483647 : Int32)) % (11 : Int32)) = (6 : Int32) ∨ ((x &&& (2147483647 : Int32)) % (11 : Int32)) = (7 : Int32) ∨ ((x &&& (2147483647 : Int32)) % (11 : Int32)) = (8 : Int32) ∨ ((x &&& (2147483647 : Int32)) % (11 : Int32)) = (9 : Int32) ∨ ((x &&& (2147483647 : Int32)) % (11 : Int32)) = (10 : Int32) := by
  have h1 : (x &&& (2147483647 : Int32)).toInt = x.toInt % (2 ^ 31 : Nat) := c_mask x 2147483647 31 (by decide) (by decide)
  have h2 := (c_irem (x &&& (2147483647 : Int32)) (11 : Int32) 11 (by decide)).1 (by omega)
  generalize ((x &&& (2147483647 : Int32)) % (11 : Int32)) = k at h2 ⊢
  simp only [← Int32.toInt_inj, show (0 : Int32).toInt = 0 from by decide, show (1 : Int32).toInt = 1 from by decide, show (2 : Int32).toInt = 2 from by decide, show (3 : Int32).toInt = 3 from by decide, show (4 : Int32).toInt = 4 from by decide, show (5 : Int32).toInt = 5 from by decide, show (6 : Int32).toInt = 6 from by decide, show (7 : Int32).toInt = 7 from by decide, show (8 : Int32).toInt = 8 from by decide, show (9 : Int32).toInt = 9 from by decide, show (10 : Int32).toInt = 10 from by decide]
  omega
theorem own_m_DEMAND_BID_ef (m : MethodId) (w_DEMAND_BID : Addr) : entryFrame m #[(.ref w_DEMAND_BID)] 1 = mkF m 0 #[rv w_DEMAND_BID] [] := by first | (simp [entryFrame, mkF, argsToLocals, Value.category]; done) | rfl
def own_m_DEMAND_BID_Q (Z : State) (w_DEMAND_BID : Addr) (w_DECREMENT_BID : Addr) (w_METERED_LOAD : Addr) (w_EXTERNAL_SALE : Addr) (w_IBT_LOAD : Addr) (w_SUPPLY_OFFER : Addr) (w_INCREMENT_OFFER : Addr) (w_METERED_GENERATION : Addr) (w_EXTERNAL_PURCHASE : Addr) (w_IBT_MARKET : Addr) (w_IBT_MARKET_EXCL : Addr) (h0 : Heap) (n0 : Nat) (v : Option Value) (h : Heap) (L : List Loc) : Prop := v = some (.int 0) ∧ Fr n0 L ∧ h = h0
set_option maxRecDepth 65536 in
set_option maxHeartbeats 40000000 in
theorem own_m_DEMAND_BID (l : Launch) (Z : State) (a0 : Array Value) (hw : ∀ d ∈ tables_1, d.before a0 Z = true) (ws : List Jvm.Cond) (w_DEMAND_BID : Addr) (w_DECREMENT_BID : Addr) (w_METERED_LOAD : Addr) (w_EXTERNAL_SALE : Addr) (w_IBT_LOAD : Addr) (w_SUPPLY_OFFER : Addr) (w_INCREMENT_OFFER : Addr) (w_METERED_GENERATION : Addr) (w_EXTERNAL_PURCHASE : Addr) (w_IBT_MARKET : Addr) (w_IBT_MARKET_EXCL : Addr) (h0 : Heap) (n0 : Nat) (O0 : Old Z n0 h0) (U_DEMAND_BID : own_En Z Z.heap "com/example/holdfast/holdfast/PositionKind" "DEMAND_BID" "Lcom/example/holdfast/holdfast/PositionKind;" w_DEMAND_BID (0 : Int32)) (U_DECREMENT_BID : own_En Z Z.heap "com/example/holdfast/holdfast/PositionKind" "DECREMENT_BID" "Lcom/example/holdfast/holdfast/PositionKind;" w_DECREMENT_BID (1 : Int32)) (U_METERED_LOAD : own_En Z Z.heap "com/example/holdfast/holdfast/PositionKind" "METERED_LOAD" "Lcom/example/holdfast/holdfast/PositionKind;" w_METERED_LOAD (2 : Int32)) (U_EXTERNAL_SALE : own_En Z Z.heap "com/example/holdfast/holdfast/PositionKind" "EXTERNAL_SALE" "Lcom/example/holdfast/holdfast/PositionKind;" w_EXTERNAL_SALE (3 : Int32)) (U_IBT_LOAD : own_En Z Z.heap "com/example/holdfast/holdfast/PositionKind" "IBT_LOAD" "Lcom/example/holdfast/holdfast/PositionKind;" w_IBT_LOAD (4 : Int32)) (U_SUPPLY_OFFER : own_En Z Z.heap "com/example/holdfast/holdfast/PositionKind" "SUPPLY_OFFER" "Lcom/example/holdfast/holdfast/PositionKind;" w_SUPPLY_OFFER (5 : Int32)) (U_INCREMENT_OFFER : own_En Z Z.heap "com/example/holdfast/holdfast/PositionKind" "INCREMENT_OFFER" "Lcom/example/holdfast/holdfast/PositionKind;" w_INCREMENT_OFFER (6 : Int32)) (U_METERED_GENERATION : own_En Z Z.heap "com/example/holdfast/holdfast/PositionKind" "METERED_GENERATION" "Lcom/example/holdfast/holdfast/PositionKind;" w_METERED_GENERATION (7 : Int32)) (U_EXTERNAL_PURCHASE : own_En Z Z.heap "com/example/holdfast/holdfast/PositionKind" "EXTERNAL_PURCHASE" "Lcom/example/holdfast/holdfast/PositionKind;" w_EXTERNAL_PURCHASE (8 : Int32)) (U_IBT_MARKET : own_En Z Z.heap "com/example/holdfast/holdfast/PositionKind" "IBT_MARKET" "Lcom/example/holdfast/holdfast/PositionKind;" w_IBT_MARKET (9 : Int32)) (U_IBT_MARKET_EXCL : own_En Z Z.heap "com/example/holdfast/holdfast/PositionKind" "IBT_MARKET_EXCL" "Lcom/example/holdfast/holdfast/PositionKind;" w_IBT_MARKET_EXCL (10 : Int32)) :
    MetFree l (⟨"com/example/holdfast/holdfast/PositionKind", "carriesIntoRealTime", "()Z"⟩ : MethodName) (head1 (Jvm.Cond.code (⟨"com/example/holdfast/holdfast/PositionKind", "carriesIntoRealTime", "()Z"⟩ : MethodName) prog_23_method_6_code 1 (some .boolean) :: ws) ({ frames := 0, cells := 0, slots := 0, locals := 0 } : Room)) (fun a U => a = #[(.ref w_DEMAND_BID)] ∧ Z.Warmed39 U.vm ∧ U.heap = h0) (fun _ _ _ _ _ => True) (fun _ U o U' => ∃ v L, o = .returned v ∧ own_m_DEMAND_BID_Q Z w_DEMAND_BID w_DECREMENT_BID w_METERED_LOAD w_EXTERNAL_SALE w_IBT_LOAD w_SUPPLY_OFFER w_INCREMENT_OFFER w_METERED_GENERATION w_EXTERNAL_PURCHASE w_IBT_MARKET w_IBT_MARKET_EXCL h0 n0 v U'.heap L ∧ FrameEnd U o U' L ({ frames := 0, cells := 0, slots := 0, locals := 0 } : Room).cells ({ frames := 0, cells := 0, slots := 0, locals := 0 } : Room).slots) := by
  refine MetFree.of_bodySF (plainFor_of_name own_pn0) hisR ?_
  intro p e s m args below meth c s₁ Bd hml0 hP hK
  obtain ⟨rfl, hZ, hh⟩ := hP
  have hx := Bd.exec
  have hby := Bd.bytes
  have hml : c.maxLocals = 1 := hml0
  have hown : s.vm.findClass "com/example/holdfast/holdfast/PositionKind" = some m.cls := findClass_of_methodNamed Bd.named
  have hnm := (name_of_methodNamed Bd.named Bd.method).1
  have X0 : Stand p l e ({ frames := 0, cells := 0, slots := 0, locals := 0 } : Room) s m #[(.ref w_DEMAND_BID)] below meth c s₁ [] 0 0 := Stand.of_body Bd
  have e0 : s₁.heap = h0 := by rw [← hh, Bd.state]; rfl
  have N0 := Fr.nil n0
  have pre0 : ∀ t, Steps p.tables e below (s₁.setTop (mkF m 0 #[rv w_DEMAND_BID] [])) t → Steps p.tables e below (s₁.setTop (entryFrame m #[(.ref w_DEMAND_BID)] 1)) t := fun t k => castTop (own_m_DEMAND_BID_ef m w_DEMAND_BID) k
  obtain ⟨T1, X1, e1, st1⟩ := getS2 X0 hx hZ hown (host := "") (Or.inl (hw _ (List.mem_of_getElem? (i := 13) rfl))) Via.refl e0 (U_IBT_MARKET.1.ext O0.2) (g := (mkF m 1 #[rv w_DEMAND_BID] [(.ref w_DEMAND_BID)])) rfl (hb hby own_d2_1)
  obtain ⟨T2, X2, e2, st2⟩ := getS2 X1 hx hZ hown (host := "") (Or.inl (hw _ (List.mem_of_getElem? (i := 15) rfl))) Via.refl e1 (U_IBT_MARKET_EXCL.1.ext O0.2) (g := (mkF m 8 #[rv w_DEMAND_BID] [(.ref w_DEMAND_BID)])) rfl (hb hby own_d2_8)
  obtain ⟨fs, hr, hrun, hended, hW, hsame⟩ := X2.leave (v := some (.int 0)) (fun h => by rw [Bd.returns] at h; cases h)
  refine ⟨_, _, pre0 _ ?_, hrun, hended, _, _, rfl, ?_, ⟨_, rfl⟩, hW, hsame.mono (by decide) (by decide)⟩
  · show Steps p.tables e below (s₁.setTop (mkF m 0 #[rv w_DEMAND_BID] [])) _
    refine XS.aloadN X0.here hx rfl (hb hby own_d2_0) rfl rfl ?_
    show Steps p.tables e below (s₁.setTop (mkF m 1 #[rv w_DEMAND_BID] [(.ref w_DEMAND_BID)])) _
    refine st1 _ ?_
    show Steps p.tables e below (T1.setTop (mkF m 4 #[rv w_DEMAND_BID] [(.ref w_IBT_MARKET), (.ref w_DEMAND_BID)])) _
    refine Jvm.RoadKit.acmp (g := (mkF m 4 #[rv w_DEMAND_BID] [(.ref w_IBT_MARKET), (.ref w_DEMAND_BID)])) X1 hx rfl rfl rfl (pc0 := 4) (pc' := 7) (same := false) rfl (hb hby own_d2_4) rfl (decide_eq_false fun q => (Fld.ne U_DEMAND_BID.2.2 U_IBT_MARKET.2.2 (by decide)) (Value.ref.inj q)) (by decide) (by decide) ?_
    show Steps p.tables e below (T1.setTop (mkF m 7 #[rv w_DEMAND_BID] [])) _
    refine XS.aloadN X1.here hx rfl (hb hby own_d2_7) rfl rfl ?_
    show Steps p.tables e below (T1.setTop (mkF m 8 #[rv w_DEMAND_BID] [(.ref w_DEMAND_BID)])) _
    refine st2 _ ?_
    show Steps p.tables e below (T2.setTop (mkF m 11 #[rv w_DEMAND_BID] [(.ref w_IBT_MARKET_EXCL), (.ref w_DEMAND_BID)])) _
    refine Jvm.RoadKit.acmp (g := (mkF m 11 #[rv w_DEMAND_BID] [(.ref w_IBT_MARKET_EXCL), (.ref w_DEMAND_BID)])) X2 hx rfl rfl rfl (pc0 := 11) (pc' := 18) (same := false) rfl (hb hby own_d2_11) rfl (decide_eq_false fun q => (Fld.ne U_DEMAND_BID.2.2 U_IBT_MARKET_EXCL.2.2 (by decide)) (Value.ref.inj q)) (by decide) (by decide) ?_
    show Steps p.tables e below (T2.setTop (mkF m 18 #[rv w_DEMAND_BID] [])) _
    refine XS.iconst X2.here hx rfl (hb hby own_d2_18) ?_
    show Steps p.tables e below (T2.setTop (mkF m 19 #[rv w_DEMAND_BID] [(.int 0)])) _
    exact retN X2 hx (t := .boolean) Bd.returns (by simp) (hb hby own_d2_19) hr
  · show own_m_DEMAND_BID_Q Z w_DEMAND_BID w_DECREMENT_BID w_METERED_LOAD w_EXTERNAL_SALE w_IBT_LOAD w_SUPPLY_OFFER w_INCREMENT_OFFER w_METERED_GENERATION w_EXTERNAL_PURCHASE w_IBT_MARKET w_IBT_MARKET_EXCL h0 n0 _ T2.heap _
    rw [e2]
    exact ⟨rfl, N0, rfl⟩
theorem own_m_DECREMENT_BID_ef (m : MethodId) (w_DECREMENT_BID : Addr) : entryFrame m #[(.ref w_DECREMENT_BID)] 1 = mkF m 0 #[rv w_DECREMENT_BID] [] := by first | (simp [entryFrame, mkF, argsToLocals, Value.category]; done) | rfl
def own_m_DECREMENT_BID_Q (Z : State) (w_DEMAND_BID : Addr) (w_DECREMENT_BID : Addr) (w_METERED_LOAD : Addr) (w_EXTERNAL_SALE : Addr) (w_IBT_LOAD : Addr) (w_SUPPLY_OFFER : Addr) (w_INCREMENT_OFFER : Addr) (w_METERED_GENERATION : Addr) (w_EXTERNAL_PURCHASE : Addr) (w_IBT_MARKET : Addr) (w_IBT_MARKET_EXCL : Addr) (h0 : Heap) (n0 : Nat) (v : Option Value) (h : Heap) (L : List Loc) : Prop := v = some (.int 0) ∧ Fr n0 L ∧ h = h0
set_option maxRecDepth 65536 in
set_option maxHeartbeats 40000000 in
theorem own_m_DECREMENT_BID (l : Launch) (Z : State) (a0 : Array Value) (hw : ∀ d ∈ tables_1, d.before a0 Z = true) (ws : List Jvm.Cond) (w_DEMAND_BID : Addr) (w_DECREMENT_BID : Addr) (w_METERED_LOAD : Addr) (w_EXTERNAL_SALE : Addr) (w_IBT_LOAD : Addr) (w_SUPPLY_OFFER : Addr) (w_INCREMENT_OFFER : Addr) (w_METERED_GENERATION : Addr) (w_EXTERNAL_PURCHASE : Addr) (w_IBT_MARKET : Addr) (w_IBT_MARKET_EXCL : Addr) (h0 : Heap) (n0 : Nat) (O0 : Old Z n0 h0) (U_DEMAND_BID : own_En Z Z.heap "com/example/holdfast/holdfast/PositionKind" "DEMAND_BID" "Lcom/example/holdfast/holdfast/PositionKind;" w_DEMAND_BID (0 : Int32)) (U_DECREMENT_BID : own_En Z Z.heap "com/example/holdfast/holdfast/PositionKind" "DECREMENT_BID" "Lcom/example/holdfast/holdfast/PositionKind;" w_DECREMENT_BID (1 : Int32)) (U_METERED_LOAD : own_En Z Z.heap "com/example/holdfast/holdfast/PositionKind" "METERED_LOAD" "Lcom/example/holdfast/holdfast/PositionKind;" w_METERED_LOAD (2 : Int32)) (U_EXTERNAL_SALE : own_En Z Z.heap "com/example/holdfast/holdfast/PositionKind" "EXTERNAL_SALE" "Lcom/example/holdfast/holdfast/PositionKind;" w_EXTERNAL_SALE (3 : Int32)) (U_IBT_LOAD : own_En Z Z.heap "com/example/holdfast/holdfast/PositionKind" "IBT_LOAD" "Lcom/example/holdfast/holdfast/PositionKind;" w_IBT_LOAD (4 : Int32)) (U_SUPPLY_OFFER : own_En Z Z.heap "com/example/holdfast/holdfast/PositionKind" "SUPPLY_OFFER" "Lcom/example/holdfast/holdfast/PositionKind;" w_SUPPLY_OFFER (5 : Int32)) (U_INCREMENT_OFFER : own_En Z Z.heap "com/example/holdfast/holdfast/PositionKind" "INCREMENT_OFFER" "Lcom/example/holdfast/holdfast/PositionKind;" w_INCREMENT_OFFER (6 : Int32)) (U_METERED_GENERATION : own_En Z Z.heap "com/example/holdfast/holdfast/PositionKind" "METERED_GENERATION" "Lcom/example/holdfast/holdfast/PositionKind;" w_METERED_GENERATION (7 : Int32)) (U_EXTERNAL_PURCHASE : own_En Z Z.heap "com/example/holdfast/holdfast/PositionKind" "EXTERNAL_PURCHASE" "Lcom/example/holdfast/holdfast/PositionKind;" w_EXTERNAL_PURCHASE (8 : Int32)) (U_IBT_MARKET : own_En Z Z.heap "com/example/holdfast/holdfast/PositionKind" "IBT_MARKET" "Lcom/example/holdfast/holdfast/PositionKind;" w_IBT_MARKET (9 : Int32)) (U_IBT_MARKET_EXCL : own_En Z Z.heap "com/example/holdfast/holdfast/PositionKind" "IBT_MARKET_EXCL" "Lcom/example/holdfast/holdfast/PositionKind;" w_IBT_MARKET_EXCL (10 : Int32)) :
    MetFree l (⟨"com/example/holdfast/holdfast/PositionKind", "carriesIntoRealTime", "()Z"⟩ : MethodName) (head1 (Jvm.Cond.code (⟨"com/example/holdfast/holdfast/PositionKind", "carriesIntoRealTime", "()Z"⟩ : MethodName) prog_23_method_6_code 1 (some .boolean) :: ws) ({ frames := 0, cells := 0, slots := 0, locals := 0 } : Room)) (fun a U => a = #[(.ref w_DECREMENT_BID)] ∧ Z.Warmed39 U.vm ∧ U.heap = h0) (fun _ _ _ _ _ => True) (fun _ U o U' => ∃ v L, o = .returned v ∧ own_m_DECREMENT_BID_Q Z w_DEMAND_BID w_DECREMENT_BID w_METERED_LOAD w_EXTERNAL_SALE w_IBT_LOAD w_SUPPLY_OFFER w_INCREMENT_OFFER w_METERED_GENERATION w_EXTERNAL_PURCHASE w_IBT_MARKET w_IBT_MARKET_EXCL h0 n0 v U'.heap L ∧ FrameEnd U o U' L ({ frames := 0, cells := 0, slots := 0, locals := 0 } : Room).cells ({ frames := 0, cells := 0, slots := 0, locals := 0 } : Room).slots) := by
  refine MetFree.of_bodySF (plainFor_of_name own_pn0) hisR ?_
  intro p e s m args below meth c s₁ Bd hml0 hP hK
  obtain ⟨rfl, hZ, hh⟩ := hP
  have hx := Bd.exec
  have hby := Bd.bytes
  have hml : c.maxLocals = 1 := hml0
  have hown : s.vm.findClass "com/example/holdfast/holdfast/PositionKind" = some m.cls := findClass_of_methodNamed Bd.named
  have hnm := (name_of_methodNamed Bd.named Bd.method).1
  have X0 : Stand p l e ({ frames := 0, cells := 0, slots := 0, locals := 0 } : Room) s m #[(.ref w_DECREMENT_BID)] below meth c s₁ [] 0 0 := Stand.of_body Bd
  have e0 : s₁.heap = h0 := by rw [← hh, Bd.state]; rfl
  have N0 := Fr.nil n0
  have pre0 : ∀ t, Steps p.tables e below (s₁.setTop (mkF m 0 #[rv w_DECREMENT_BID] [])) t → Steps p.tables e below (s₁.setTop (entryFrame m #[(.ref w_DECREMENT_BID)] 1)) t := fun t k => castTop (own_m_DECREMENT_BID_ef m w_DECREMENT_BID) k
  obtain ⟨T1, X1, e1, st1⟩ := getS2 X0 hx hZ hown (host := "") (Or.inl (hw _ (List.mem_of_getElem? (i := 13) rfl))) Via.refl e0 (U_IBT_MARKET.1.ext O0.2) (g := (mkF m 1 #[rv w_DECREMENT_BID] [(.ref w_DECREMENT_BID)])) rfl (hb hby own_d2_1)
  obtain ⟨T2, X2, e2, st2⟩ := getS2 X1 hx hZ hown (host := "") (Or.inl (hw _ (List.mem_of_getElem? (i := 15) rfl))) Via.refl e1 (U_IBT_MARKET_EXCL.1.ext O0.2) (g := (mkF m 8 #[rv w_DECREMENT_BID] [(.ref w_DECREMENT_BID)])) rfl (hb hby own_d2_8)
  obtain ⟨fs, hr, hrun, hended, hW, hsame⟩ := X2.leave (v := some (.int 0)) (fun h => by rw [Bd.returns] at h; cases h)
  refine ⟨_, _, pre0 _ ?_, hrun, hended, _, _, rfl, ?_, ⟨_, rfl⟩, hW, hsame.mono (by decide) (by decide)⟩
  · show Steps p.tables e below (s₁.setTop (mkF m 0 #[rv w_DECREMENT_BID] [])) _
    refine XS.aloadN X0.here hx rfl (hb hby own_d2_0) rfl rfl ?_
    show Steps p.tables e below (s₁.setTop (mkF m 1 #[rv w_DECREMENT_BID] [(.ref w_DECREMENT_BID)])) _
    refine st1 _ ?_
    show Steps p.tables e below (T1.setTop (mkF m 4 #[rv w_DECREMENT_BID] [(.ref w_IBT_MARKET), (.ref w_DECREMENT_BID)])) _
    refine Jvm.RoadKit.acmp (g := (mkF m 4 #[rv w_DECREMENT_BID] [(.ref w_IBT_MARKET), (.ref w_DECREMENT_BID)])) X1 hx rfl rfl rfl (pc0 := 4) (pc' := 7) (same := false) rfl (hb hby own_d2_4) rfl (decide_eq_false fun q => (Fld.ne U_DECREMENT_BID.2.2 U_IBT_MARKET.2.2 (by decide)) (Value.ref.inj q)) (by decide) (by decide) ?_
    show Steps p.tables e below (T1.setTop (mkF m 7 #[rv w_DECREMENT_BID] [])) _
    refine XS.aloadN X1.here hx rfl (hb hby own_d2_7) rfl rfl ?_
    show Steps p.tables e below (T1.setTop (mkF m 8 #[rv w_DECREMENT_BID] [(.ref w_DECREMENT_BID)])) _
    refine st2 _ ?_
    show Steps p.tables e below (T2.setTop (mkF m 11 #[rv w_DECREMENT_BID] [(.ref w_IBT_MARKET_EXCL), (.ref w_DECREMENT_BID)])) _
    refine Jvm.RoadKit.acmp (g := (mkF m 11 #[rv w_DECREMENT_BID] [(.ref w_IBT_MARKET_EXCL), (.ref w_DECREMENT_BID)])) X2 hx rfl rfl rfl (pc0 := 11) (pc' := 18) (same := false) rfl (hb hby own_d2_11) rfl (decide_eq_false fun q => (Fld.ne U_DECREMENT_BID.2.2 U_IBT_MARKET_EXCL.2.2 (by decide)) (Value.ref.inj q)) (by decide) (by decide) ?_
    show Steps p.tables e below (T2.setTop (mkF m 18 #[rv w_DECREMENT_BID] [])) _
    refine XS.iconst X2.here hx rfl (hb hby own_d2_18) ?_
    show Steps p.tables e below (T2.setTop (mkF m 19 #[rv w_DECREMENT_BID] [(.int 0)])) _
    exact retN X2 hx (t := .boolean) Bd.returns (by simp) (hb hby own_d2_19) hr
  · show own_m_DECREMENT_BID_Q Z w_DEMAND_BID w_DECREMENT_BID w_METERED_LOAD w_EXTERNAL_SALE w_IBT_LOAD w_SUPPLY_OFFER w_INCREMENT_OFFER w_METERED_GENERATION w_EXTERNAL_PURCHASE w_IBT_MARKET w_IBT_MARKET_EXCL h0 n0 _ T2.heap _
    rw [e2]
    exact ⟨rfl, N0, rfl⟩
theorem own_m_METERED_LOAD_ef (m : MethodId) (w_METERED_LOAD : Addr) : entryFrame m #[(.ref w_METERED_LOAD)] 1 = mkF m 0 #[rv w_METERED_LOAD] [] := by first | (simp [entryFrame, mkF, argsToLocals, Value.category]; done) | rfl
def own_m_METERED_LOAD_Q (Z : State) (w_DEMAND_BID : Addr) (w_DECREMENT_BID : Addr) (w_METERED_LOAD : Addr) (w_EXTERNAL_SALE : Addr) (w_IBT_LOAD : Addr) (w_SUPPLY_OFFER : Addr) (w_INCREMENT_OFFER : Addr) (w_METERED_GENERATION : Addr) (w_EXTERNAL_PURCHASE : Addr) (w_IBT_MARKET : Addr) (w_IBT_MARKET_EXCL : Addr) (h0 : Heap) (n0 : Nat) (v : Option Value) (h : Heap) (L : List Loc) : Prop := v = some (.int 0) ∧ Fr n0 L ∧ h = h0
set_option maxRecDepth 65536 in
set_option maxHeartbeats 40000000 in
theorem own_m_METERED_LOAD (l : Launch) (Z : State) (a0 : Array Value) (hw : ∀ d ∈ tables_1, d.before a0 Z = true) (ws : List Jvm.Cond) (w_DEMAND_BID : Addr) (w_DECREMENT_BID : Addr) (w_METERED_LOAD : Addr) (w_EXTERNAL_SALE : Addr) (w_IBT_LOAD : Addr) (w_SUPPLY_OFFER : Addr) (w_INCREMENT_OFFER : Addr) (w_METERED_GENERATION : Addr) (w_EXTERNAL_PURCHASE : Addr) (w_IBT_MARKET : Addr) (w_IBT_MARKET_EXCL : Addr) (h0 : Heap) (n0 : Nat) (O0 : Old Z n0 h0) (U_DEMAND_BID : own_En Z Z.heap "com/example/holdfast/holdfast/PositionKind" "DEMAND_BID" "Lcom/example/holdfast/holdfast/PositionKind;" w_DEMAND_BID (0 : Int32)) (U_DECREMENT_BID : own_En Z Z.heap "com/example/holdfast/holdfast/PositionKind" "DECREMENT_BID" "Lcom/example/holdfast/holdfast/PositionKind;" w_DECREMENT_BID (1 : Int32)) (U_METERED_LOAD : own_En Z Z.heap "com/example/holdfast/holdfast/PositionKind" "METERED_LOAD" "Lcom/example/holdfast/holdfast/PositionKind;" w_METERED_LOAD (2 : Int32)) (U_EXTERNAL_SALE : own_En Z Z.heap "com/example/holdfast/holdfast/PositionKind" "EXTERNAL_SALE" "Lcom/example/holdfast/holdfast/PositionKind;" w_EXTERNAL_SALE (3 : Int32)) (U_IBT_LOAD : own_En Z Z.heap "com/example/holdfast/holdfast/PositionKind" "IBT_LOAD" "Lcom/example/holdfast/holdfast/PositionKind;" w_IBT_LOAD (4 : Int32)) (U_SUPPLY_OFFER : own_En Z Z.heap "com/example/holdfast/holdfast/PositionKind" "SUPPLY_OFFER" "Lcom/example/holdfast/holdfast/PositionKind;" w_SUPPLY_OFFER (5 : Int32)) (U_INCREMENT_OFFER : own_En Z Z.heap "com/example/holdfast/holdfast/PositionKind" "INCREMENT_OFFER" "Lcom/example/holdfast/holdfast/PositionKind;" w_INCREMENT_OFFER (6 : Int32)) (U_METERED_GENERATION : own_En Z Z.heap "com/example/holdfast/holdfast/PositionKind" "METERED_GENERATION" "Lcom/example/holdfast/holdfast/PositionKind;" w_METERED_GENERATION (7 : Int32)) (U_EXTERNAL_PURCHASE : own_En Z Z.heap "com/example/holdfast/holdfast/PositionKind" "EXTERNAL_PURCHASE" "Lcom/example/holdfast/holdfast/PositionKind;" w_EXTERNAL_PURCHASE (8 : Int32)) (U_IBT_MARKET : own_En Z Z.heap "com/example/holdfast/holdfast/PositionKind" "IBT_MARKET" "Lcom/example/holdfast/holdfast/PositionKind;" w_IBT_MARKET (9 : Int32)) (U_IBT_MARKET_EXCL : own_En Z Z.heap "com/example/holdfast/holdfast/PositionKind" "IBT_MARKET_EXCL" "Lcom/example/holdfast/holdfast/PositionKind;" w_IBT_MARKET_EXCL (10 : Int32)) :
    MetFree l (⟨"com/example/holdfast/holdfast/PositionKind", "carriesIntoRealTime", "()Z"⟩ : MethodName) (head1 (Jvm.Cond.code (⟨"com/example/holdfast/holdfast/PositionKind", "carriesIntoRealTime", "()Z"⟩ : MethodName) prog_23_method_6_code 1 (some .boolean) :: ws) ({ frames := 0, cells := 0, slots := 0, locals := 0 } : Room)) (fun a U => a = #[(.ref w_METERED_LOAD)] ∧ Z.Warmed39 U.vm ∧ U.heap = h0) (fun _ _ _ _ _ => True) (fun _ U o U' => ∃ v L, o = .returned v ∧ own_m_METERED_LOAD_Q Z w_DEMAND_BID w_DECREMENT_BID w_METERED_LOAD w_EXTERNAL_SALE w_IBT_LOAD w_SUPPLY_OFFER w_INCREMENT_OFFER w_METERED_GENERATION w_EXTERNAL_PURCHASE w_IBT_MARKET w_IBT_MARKET_EXCL h0 n0 v U'.heap L ∧ FrameEnd U o U' L ({ frames := 0, cells := 0, slots := 0, locals := 0 } : Room).cells ({ frames := 0, cells := 0, slots := 0, locals := 0 } : Room).slots) := by
  refine MetFree.of_bodySF (plainFor_of_name own_pn0) hisR ?_
  intro p e s m args below meth c s₁ Bd hml0 hP hK
  obtain ⟨rfl, hZ, hh⟩ := hP
  have hx := Bd.exec
  have hby := Bd.bytes
  have hml : c.maxLocals = 1 := hml0
  have hown : s.vm.findClass "com/example/holdfast/holdfast/PositionKind" = some m.cls := findClass_of_methodNamed Bd.named
  have hnm := (name_of_methodNamed Bd.named Bd.method).1
  have X0 : Stand p l e ({ frames := 0, cells := 0, slots := 0, locals := 0 } : Room) s m #[(.ref w_METERED_LOAD)] below meth c s₁ [] 0 0 := Stand.of_body Bd
  have e0 : s₁.heap = h0 := by rw [← hh, Bd.state]; rfl
  have N0 := Fr.nil n0
  have pre0 : ∀ t, Steps p.tables e below (s₁.setTop (mkF m 0 #[rv w_METERED_LOAD] [])) t → Steps p.tables e below (s₁.setTop (entryFrame m #[(.ref w_METERED_LOAD)] 1)) t := fun t k => castTop (own_m_METERED_LOAD_ef m w_METERED_LOAD) k
  obtain ⟨T1, X1, e1, st1⟩ := getS2 X0 hx hZ hown (host := "") (Or.inl (hw _ (List.mem_of_getElem? (i := 13) rfl))) Via.refl e0 (U_IBT_MARKET.1.ext O0.2) (g := (mkF m 1 #[rv w_METERED_LOAD] [(.ref w_METERED_LOAD)])) rfl (hb hby own_d2_1)
  obtain ⟨T2, X2, e2, st2⟩ := getS2 X1 hx hZ hown (host := "") (Or.inl (hw _ (List.mem_of_getElem? (i := 15) rfl))) Via.refl e1 (U_IBT_MARKET_EXCL.1.ext O0.2) (g := (mkF m 8 #[rv w_METERED_LOAD] [(.ref w_METERED_LOAD)])) rfl (hb hby own_d2_8)
  obtain ⟨fs, hr, hrun, hended, hW, hsame⟩ := X2.leave (v := some (.int 0)) (fun h => by rw [Bd.returns] at h; cases h)
  refine ⟨_, _, pre0 _ ?_, hrun, hended, _, _, rfl, ?_, ⟨_, rfl⟩, hW, hsame.mono (by decide) (by decide)⟩
  · show Steps p.tables e below (s₁.setTop (mkF m 0 #[rv w_METERED_LOAD] [])) _
    refine XS.aloadN X0.here hx rfl (hb hby own_d2_0) rfl rfl ?_
    show Steps p.tables e below (s₁.setTop (mkF m 1 #[rv w_METERED_LOAD] [(.ref w_METERED_LOAD)])) _
    refine st1 _ ?_
    show Steps p.tables e below (T1.setTop (mkF m 4 #[rv w_METERED_LOAD] [(.ref w_IBT_MARKET), (.ref w_METERED_LOAD)])) _
    refine Jvm.RoadKit.acmp (g := (mkF m 4 #[rv w_METERED_LOAD] [(.ref w_IBT_MARKET), (.ref w_METERED_LOAD)])) X1 hx rfl rfl rfl (pc0 := 4) (pc' := 7) (same := false) rfl (hb hby own_d2_4) rfl (decide_eq_false fun q => (Fld.ne U_METERED_LOAD.2.2 U_IBT_MARKET.2.2 (by decide)) (Value.ref.inj q)) (by decide) (by decide) ?_
    show Steps p.tables e below (T1.setTop (mkF m 7 #[rv w_METERED_LOAD] [])) _
    refine XS.aloadN X1.here hx rfl (hb hby own_d2_7) rfl rfl ?_
    show Steps p.tables e below (T1.setTop (mkF m 8 #[rv w_METERED_LOAD] [(.ref w_METERED_LOAD)])) _
    refine st2 _ ?_
    show Steps p.tables e below (T2.setTop (mkF m 11 #[rv w_METERED_LOAD] [(.ref w_IBT_MARKET_EXCL), (.ref w_METERED_LOAD)])) _
    refine Jvm.RoadKit.acmp (g := (mkF m 11 #[rv w_METERED_LOAD] [(.ref w_IBT_MARKET_EXCL), (.ref w_METERED_LOAD)])) X2 hx rfl rfl rfl (pc0 := 11) (pc' := 18) (same := false) rfl (hb hby own_d2_11) rfl (decide_eq_false fun q => (Fld.ne U_METERED_LOAD.2.2 U_IBT_MARKET_EXCL.2.2 (by decide)) (Value.ref.inj q)) (by decide) (by decide) ?_
    show Steps p.tables e below (T2.setTop (mkF m 18 #[rv w_METERED_LOAD] [])) _
    refine XS.iconst X2.here hx rfl (hb hby own_d2_18) ?_
    show Steps p.tables e below (T2.setTop (mkF m 19 #[rv w_METERED_LOAD] [(.int 0)])) _
    exact retN X2 hx (t := .boolean) Bd.returns (by simp) (hb hby own_d2_19) hr
  · show own_m_METERED_LOAD_Q Z w_DEMAND_BID w_DECREMENT_BID w_METERED_LOAD w_EXTERNAL_SALE w_IBT_LOAD w_SUPPLY_OFFER w_INCREMENT_OFFER w_METERED_GENERATION w_EXTERNAL_PURCHASE w_IBT_MARKET w_IBT_MARKET_EXCL h0 n0 _ T2.heap _
    rw [e2]
    exact ⟨rfl, N0, rfl⟩
theorem own_m_EXTERNAL_SALE_ef (m : MethodId) (w_EXTERNAL_SALE : Addr) : entryFrame m #[(.ref w_EXTERNAL_SALE)] 1 = mkF m 0 #[rv w_EXTERNAL_SALE] [] := by first | (simp [entryFrame, mkF, argsToLocals, Value.category]; done) | rfl
def own_m_EXTERNAL_SALE_Q (Z : State) (w_DEMAND_BID : Addr) (w_DECREMENT_BID : Addr) (w_METERED_LOAD : Addr) (w_EXTERNAL_SALE : Addr) (w_IBT_LOAD : Addr) (w_SUPPLY_OFFER : Addr) (w_INCREMENT_OFFER : Addr) (w_METERED_GENERATION : Addr) (w_EXTERNAL_PURCHASE : Addr) (w_IBT_MARKET : Addr) (w_IBT_MARKET_EXCL : Addr) (h0 : Heap) (n0 : Nat) (v : Option Value) (h : Heap) (L : List Loc) : Prop := v = some (.int 0) ∧ Fr n0 L ∧ h = h0
set_option maxRecDepth 65536 in
set_option maxHeartbeats 40000000 in
theorem own_m_EXTERNAL_SALE (l : Launch) (Z : State) (a0 : Array Value) (hw : ∀ d ∈ tables_1, d.before a0 Z = true) (ws : List Jvm.Cond) (w_DEMAND_BID : Addr) (w_DECREMENT_BID : Addr) (w_METERED_LOAD : Addr) (w_EXTERNAL_SALE : Addr) (w_IBT_LOAD : Addr) (w_SUPPLY_OFFER : Addr) (w_INCREMENT_OFFER : Addr) (w_METERED_GENERATION : Addr) (w_EXTERNAL_PURCHASE : Addr) (w_IBT_MARKET : Addr) (w_IBT_MARKET_EXCL : Addr) (h0 : Heap) (n0 : Nat) (O0 : Old Z n0 h0) (U_DEMAND_BID : own_En Z Z.heap "com/example/holdfast/holdfast/PositionKind" "DEMAND_BID" "Lcom/example/holdfast/holdfast/PositionKind;" w_DEMAND_BID (0 : Int32)) (U_DECREMENT_BID : own_En Z Z.heap "com/example/holdfast/holdfast/PositionKind" "DECREMENT_BID" "Lcom/example/holdfast/holdfast/PositionKind;" w_DECREMENT_BID (1 : Int32)) (U_METERED_LOAD : own_En Z Z.heap "com/example/holdfast/holdfast/PositionKind" "METERED_LOAD" "Lcom/example/holdfast/holdfast/PositionKind;" w_METERED_LOAD (2 : Int32)) (U_EXTERNAL_SALE : own_En Z Z.heap "com/example/holdfast/holdfast/PositionKind" "EXTERNAL_SALE" "Lcom/example/holdfast/holdfast/PositionKind;" w_EXTERNAL_SALE (3 : Int32)) (U_IBT_LOAD : own_En Z Z.heap "com/example/holdfast/holdfast/PositionKind" "IBT_LOAD" "Lcom/example/holdfast/holdfast/PositionKind;" w_IBT_LOAD (4 : Int32)) (U_SUPPLY_OFFER : own_En Z Z.heap "com/example/holdfast/holdfast/PositionKind" "SUPPLY_OFFER" "Lcom/example/holdfast/holdfast/PositionKind;" w_SUPPLY_OFFER (5 : Int32)) (U_INCREMENT_OFFER : own_En Z Z.heap "com/example/holdfast/holdfast/PositionKind" "INCREMENT_OFFER" "Lcom/example/holdfast/holdfast/PositionKind;" w_INCREMENT_OFFER (6 : Int32)) (U_METERED_GENERATION : own_En Z Z.heap "com/example/holdfast/holdfast/PositionKind" "METERED_GENERATION" "Lcom/example/holdfast/holdfast/PositionKind;" w_METERED_GENERATION (7 : Int32)) (U_EXTERNAL_PURCHASE : own_En Z Z.heap "com/example/holdfast/holdfast/PositionKind" "EXTERNAL_PURCHASE" "Lcom/example/holdfast/holdfast/PositionKind;" w_EXTERNAL_PURCHASE (8 : Int32)) (U_IBT_MARKET : own_En Z Z.heap "com/example/holdfast/holdfast/PositionKind" "IBT_MARKET" "Lcom/example/holdfast/holdfast/PositionKind;" w_IBT_MARKET (9 : Int32)) (U_IBT_MARKET_EXCL : own_En Z Z.heap "com/example/holdfast/holdfast/PositionKind" "IBT_MARKET_EXCL" "Lcom/example/holdfast/holdfast/PositionKind;" w_IBT_MARKET_EXCL (10 : Int32)) :
    MetFree l (⟨"com/example/holdfast/holdfast/PositionKind", "carriesIntoRealTime", "()Z"⟩ : MethodName) (head1 (Jvm.Cond.code (⟨"com/example/holdfast/holdfast/PositionKind", "carriesIntoRealTime", "()Z"⟩ : MethodName) prog_23_method_6_code 1 (some .boolean) :: ws) ({ frames := 0, cells := 0, slots := 0, locals := 0 } : Room)) (fun a U => a = #[(.ref w_EXTERNAL_SALE)] ∧ Z.Warmed39 U.vm ∧ U.heap = h0) (fun _ _ _ _ _ => True) (fun _ U o U' => ∃ v L, o = .returned v ∧ own_m_EXTERNAL_SALE_Q Z w_DEMAND_BID w_DECREMENT_BID w_METERED_LOAD w_EXTERNAL_SALE w_IBT_LOAD w_SUPPLY_OFFER w_INCREMENT_OFFER w_METERED_GENERATION w_EXTERNAL_PURCHASE w_IBT_MARKET w_IBT_MARKET_EXCL h0 n0 v U'.heap L ∧ FrameEnd U o U' L ({ frames := 0, cells := 0, slots := 0, locals := 0 } : Room).cells ({ frames := 0, cells := 0, slots := 0, locals := 0 } : Room).slots) := by
  refine MetFree.of_bodySF (plainFor_of_name own_pn0) hisR ?_
  intro p e s m args below meth c s₁ Bd hml0 hP hK
  obtain ⟨rfl, hZ, hh⟩ := hP
  have hx := Bd.exec
  have hby := Bd.bytes
  have hml : c.maxLocals = 1 := hml0
  have hown : s.vm.findClass "com/example/holdfast/holdfast/PositionKind" = some m.cls := findClass_of_methodNamed Bd.named
  have hnm := (name_of_methodNamed Bd.named Bd.method).1
  have X0 : Stand p l e ({ frames := 0, cells := 0, slots := 0, locals := 0 } : Room) s m #[(.ref w_EXTERNAL_SALE)] below meth c s₁ [] 0 0 := Stand.of_body Bd
  have e0 : s₁.heap = h0 := by rw [← hh, Bd.state]; rfl
  have N0 := Fr.nil n0
  have pre0 : ∀ t, Steps p.tables e below (s₁.setTop (mkF m 0 #[rv w_EXTERNAL_SALE] [])) t → Steps p.tables e below (s₁.setTop (entryFrame m #[(.ref w_EXTERNAL_SALE)] 1)) t := fun t k => castTop (own_m_EXTERNAL_SALE_ef m w_EXTERNAL_SALE) k
  obtain ⟨T1, X1, e1, st1⟩ := getS2 X0 hx hZ hown (host := "") (Or.inl (hw _ (List.mem_of_getElem? (i := 13) rfl))) Via.refl e0 (U_IBT_MARKET.1.ext O0.2) (g := (mkF m 1 #[rv w_EXTERNAL_SALE] [(.ref w_EXTERNAL_SALE)])) rfl (hb hby own_d2_1)
  obtain ⟨T2, X2, e2, st2⟩ := getS2 X1 hx hZ hown (host := "") (Or.inl (hw _ (List.mem_of_getElem? (i := 15) rfl))) Via.refl e1 (U_IBT_MARKET_EXCL.1.ext O0.2) (g := (mkF m 8 #[rv w_EXTERNAL_SALE] [(.ref w_EXTERNAL_SALE)])) rfl (hb hby own_d2_8)
  obtain ⟨fs, hr, hrun, hended, hW, hsame⟩ := X2.leave (v := some (.int 0)) (fun h => by rw [Bd.returns] at h; cases h)
  refine ⟨_, _, pre0 _ ?_, hrun, hended, _, _, rfl, ?_, ⟨_, rfl⟩, hW, hsame.mono (by decide) (by decide)⟩
  · show Steps p.tables e below (s₁.setTop (mkF m 0 #[rv w_EXTERNAL_SALE] [])) _
    refine XS.aloadN X0.here hx rfl (hb hby own_d2_0) rfl rfl ?_
    show Steps p.tables e below (s₁.setTop (mkF m 1 #[rv w_EXTERNAL_SALE] [(.ref w_EXTERNAL_SALE)])) _
    refine st1 _ ?_
    show Steps p.tables e below (T1.setTop (mkF m 4 #[rv w_EXTERNAL_SALE] [(.ref w_IBT_MARKET), (.ref w_EXTERNAL_SALE)])) _
    refine Jvm.RoadKit.acmp (g := (mkF m 4 #[rv w_EXTERNAL_SALE] [(.ref w_IBT_MARKET), (.ref w_EXTERNAL_SALE)])) X1 hx rfl rfl rfl (pc0 := 4) (pc' := 7) (same := false) rfl (hb hby own_d2_4) rfl (decide_eq_false fun q => (Fld.ne U_EXTERNAL_SALE.2.2 U_IBT_MARKET.2.2 (by decide)) (Value.ref.inj q)) (by decide) (by decide) ?_
    show Steps p.tables e below (T1.setTop (mkF m 7 #[rv w_EXTERNAL_SALE] [])) _
    refine XS.aloadN X1.here hx rfl (hb hby own_d2_7) rfl rfl ?_
    show Steps p.tables e below (T1.setTop (mkF m 8 #[rv w_EXTERNAL_SALE] [(.ref w_EXTERNAL_SALE)])) _
    refine st2 _ ?_
    show Steps p.tables e below (T2.setTop (mkF m 11 #[rv w_EXTERNAL_SALE] [(.ref w_IBT_MARKET_EXCL), (.ref w_EXTERNAL_SALE)])) _
    refine Jvm.RoadKit.acmp (g := (mkF m 11 #[rv w_EXTERNAL_SALE] [(.ref w_IBT_MARKET_EXCL), (.ref w_EXTERNAL_SALE)])) X2 hx rfl rfl rfl (pc0 := 11) (pc' := 18) (same := false) rfl (hb hby own_d2_11) rfl (decide_eq_false fun q => (Fld.ne U_EXTERNAL_SALE.2.2 U_IBT_MARKET_EXCL.2.2 (by decide)) (Value.ref.inj q)) (by decide) (by decide) ?_
    show Steps p.tables e below (T2.setTop (mkF m 18 #[rv w_EXTERNAL_SALE] [])) _
    refine XS.iconst X2.here hx rfl (hb hby own_d2_18) ?_
    show Steps p.tables e below (T2.setTop (mkF m 19 #[rv w_EXTERNAL_SALE] [(.int 0)])) _
    exact retN X2 hx (t := .boolean) Bd.returns (by simp) (hb hby own_d2_19) hr
  · show own_m_EXTERNAL_SALE_Q Z w_DEMAND_BID w_DECREMENT_BID w_METERED_LOAD w_EXTERNAL_SALE w_IBT_LOAD w_SUPPLY_OFFER w_INCREMENT_OFFER w_METERED_GENERATION w_EXTERNAL_PURCHASE w_IBT_MARKET w_IBT_MARKET_EXCL h0 n0 _ T2.heap _
    rw [e2]
    exact ⟨rfl, N0, rfl⟩
theorem own_m_IBT_LOAD_ef (m : MethodId) (w_IBT_LOAD : Addr) : entryFrame m #[(.ref w_IBT_LOAD)] 1 = mkF m 0 #[rv w_IBT_LOAD] [] := by first | (simp [entryFrame, mkF, argsToLocals, Value.category]; done) | rfl
def own_m_IBT_LOAD_Q (Z : State) (w_DEMAND_BID : Addr) (w_DECREMENT_BID : Addr) (w_METERED_LOAD : Addr) (w_EXTERNAL_SALE : Addr) (w_IBT_LOAD : Addr) (w_SUPPLY_OFFER : Addr) (w_INCREMENT_OFFER : Addr) (w_METERED_GENERATION : Addr) (w_EXTERNAL_PURCHASE : Addr) (w_IBT_MARKET : Addr) (w_IBT_MARKET_EXCL : Addr) (h0 : Heap) (n0 : Nat) (v : Option Value) (h : Heap) (L : List Loc) : Prop := v = some (.int 0) ∧ Fr n0 L ∧ h = h0
set_option maxRecDepth 65536 in
set_option maxHeartbeats 40000000 in
theorem own_m_IBT_LOAD (l : Launch) (Z : State) (a0 : Array Value) (hw : ∀ d ∈ tables_1, d.before a0 Z = true) (ws : List Jvm.Cond) (w_DEMAND_BID : Addr) (w_DECREMENT_BID : Addr) (w_METERED_LOAD : Addr) (w_EXTERNAL_SALE : Addr) (w_IBT_LOAD : Addr) (w_SUPPLY_OFFER : Addr) (w_INCREMENT_OFFER : Addr) (w_METERED_GENERATION : Addr) (w_EXTERNAL_PURCHASE : Addr) (w_IBT_MARKET : Addr) (w_IBT_MARKET_EXCL : Addr) (h0 : Heap) (n0 : Nat) (O0 : Old Z n0 h0) (U_DEMAND_BID : own_En Z Z.heap "com/example/holdfast/holdfast/PositionKind" "DEMAND_BID" "Lcom/example/holdfast/holdfast/PositionKind;" w_DEMAND_BID (0 : Int32)) (U_DECREMENT_BID : own_En Z Z.heap "com/example/holdfast/holdfast/PositionKind" "DECREMENT_BID" "Lcom/example/holdfast/holdfast/PositionKind;" w_DECREMENT_BID (1 : Int32)) (U_METERED_LOAD : own_En Z Z.heap "com/example/holdfast/holdfast/PositionKind" "METERED_LOAD" "Lcom/example/holdfast/holdfast/PositionKind;" w_METERED_LOAD (2 : Int32)) (U_EXTERNAL_SALE : own_En Z Z.heap "com/example/holdfast/holdfast/PositionKind" "EXTERNAL_SALE" "Lcom/example/holdfast/holdfast/PositionKind;" w_EXTERNAL_SALE (3 : Int32)) (U_IBT_LOAD : own_En Z Z.heap "com/example/holdfast/holdfast/PositionKind" "IBT_LOAD" "Lcom/example/holdfast/holdfast/PositionKind;" w_IBT_LOAD (4 : Int32)) (U_SUPPLY_OFFER : own_En Z Z.heap "com/example/holdfast/holdfast/PositionKind" "SUPPLY_OFFER" "Lcom/example/holdfast/holdfast/PositionKind;" w_SUPPLY_OFFER (5 : Int32)) (U_INCREMENT_OFFER : own_En Z Z.heap "com/example/holdfast/holdfast/PositionKind" "INCREMENT_OFFER" "Lcom/example/holdfast/holdfast/PositionKind;" w_INCREMENT_OFFER (6 : Int32)) (U_METERED_GENERATION : own_En Z Z.heap "com/example/holdfast/holdfast/PositionKind" "METERED_GENERATION" "Lcom/example/holdfast/holdfast/PositionKind;" w_METERED_GENERATION (7 : Int32)) (U_EXTERNAL_PURCHASE : own_En Z Z.heap "com/example/holdfast/holdfast/PositionKind" "EXTERNAL_PURCHASE" "Lcom/example/holdfast/holdfast/PositionKind;" w_EXTERNAL_PURCHASE (8 : Int32)) (U_IBT_MARKET : own_En Z Z.heap "com/example/holdfast/holdfast/PositionKind" "IBT_MARKET" "Lcom/example/holdfast/holdfast/PositionKind;" w_IBT_MARKET (9 : Int32)) (U_IBT_MARKET_EXCL : own_En Z Z.heap "com/example/holdfast/holdfast/PositionKind" "IBT_MARKET_EXCL" "Lcom/example/holdfast/holdfast/PositionKind;" w_IBT_MARKET_EXCL (10 : Int32)) :
    MetFree l (⟨"com/example/holdfast/holdfast/PositionKind", "carriesIntoRealTime", "()Z"⟩ : MethodName) (head1 (Jvm.Cond.code (⟨"com/example/holdfast/holdfast/PositionKind", "carriesIntoRealTime", "()Z"⟩ : MethodName) prog_23_method_6_code 1 (some .boolean) :: ws) ({ frames := 0, cells := 0, slots := 0, locals := 0 } : Room)) (fun a U => a = #[(.ref w_IBT_LOAD)] ∧ Z.Warmed39 U.vm ∧ U.heap = h0) (fun _ _ _ _ _ => True) (fun _ U o U' => ∃ v L, o = .returned v ∧ own_m_IBT_LOAD_Q Z w_DEMAND_BID w_DECREMENT_BID w_METERED_LOAD w_EXTERNAL_SALE w_IBT_LOAD w_SUPPLY_OFFER w_INCREMENT_OFFER w_METERED_GENERATION w_EXTERNAL_PURCHASE w_IBT_MARKET w_IBT_MARKET_EXCL h0 n0 v U'.heap L ∧ FrameEnd U o U' L ({ frames := 0, cells := 0, slots := 0, locals := 0 } : Room).cells ({ frames := 0, cells := 0, slots := 0, locals := 0 } : Room).slots) := by
  refine MetFree.of_bodySF (plainFor_of_name own_pn0) hisR ?_
  intro p e s m args below meth c s₁ Bd hml0 hP hK
  obtain ⟨rfl, hZ, hh⟩ := hP
  have hx := Bd.exec
  have hby := Bd.bytes
  have hml : c.maxLocals = 1 := hml0
  have hown : s.vm.findClass "com/example/holdfast/holdfast/PositionKind" = some m.cls := findClass_of_methodNamed Bd.named
  have hnm := (name_of_methodNamed Bd.named Bd.method).1
  have X0 : Stand p l e ({ frames := 0, cells := 0, slots := 0, locals := 0 } : Room) s m #[(.ref w_IBT_LOAD)] below meth c s₁ [] 0 0 := Stand.of_body Bd
  have e0 : s₁.heap = h0 := by rw [← hh, Bd.state]; rfl
  have N0 := Fr.nil n0
  have pre0 : ∀ t, Steps p.tables e below (s₁.setTop (mkF m 0 #[rv w_IBT_LOAD] [])) t → Steps p.tables e below (s₁.setTop (entryFrame m #[(.ref w_IBT_LOAD)] 1)) t := fun t k => castTop (own_m_IBT_LOAD_ef m w_IBT_LOAD) k
  obtain ⟨T1, X1, e1, st1⟩ := getS2 X0 hx hZ hown (host := "") (Or.inl (hw _ (List.mem_of_getElem? (i := 13) rfl))) Via.refl e0 (U_IBT_MARKET.1.ext O0.2) (g := (mkF m 1 #[rv w_IBT_LOAD] [(.ref w_IBT_LOAD)])) rfl (hb hby own_d2_1)
  obtain ⟨T2, X2, e2, st2⟩ := getS2 X1 hx hZ hown (host := "") (Or.inl (hw _ (List.mem_of_getElem? (i := 15) rfl))) Via.refl e1 (U_IBT_MARKET_EXCL.1.ext O0.2) (g := (mkF m 8 #[rv w_IBT_LOAD] [(.ref w_IBT_LOAD)])) rfl (hb hby own_d2_8)
  obtain ⟨fs, hr, hrun, hended, hW, hsame⟩ := X2.leave (v := some (.int 0)) (fun h => by rw [Bd.returns] at h; cases h)
  refine ⟨_, _, pre0 _ ?_, hrun, hended, _, _, rfl, ?_, ⟨_, rfl⟩, hW, hsame.mono (by decide) (by decide)⟩
  · show Steps p.tables e below (s₁.setTop (mkF m 0 #[rv w_IBT_LOAD] [])) _
    refine XS.aloadN X0.here hx rfl (hb hby own_d2_0) rfl rfl ?_
    show Steps p.tables e below (s₁.setTop (mkF m 1 #[rv w_IBT_LOAD] [(.ref w_IBT_LOAD)])) _
    refine st1 _ ?_
    show Steps p.tables e below (T1.setTop (mkF m 4 #[rv w_IBT_LOAD] [(.ref w_IBT_MARKET), (.ref w_IBT_LOAD)])) _
    refine Jvm.RoadKit.acmp (g := (mkF m 4 #[rv w_IBT_LOAD] [(.ref w_IBT_MARKET), (.ref w_IBT_LOAD)])) X1 hx rfl rfl rfl (pc0 := 4) (pc' := 7) (same := false) rfl (hb hby own_d2_4) rfl (decide_eq_false fun q => (Fld.ne U_IBT_LOAD.2.2 U_IBT_MARKET.2.2 (by decide)) (Value.ref.inj q)) (by decide) (by decide) ?_
    show Steps p.tables e below (T1.setTop (mkF m 7 #[rv w_IBT_LOAD] [])) _
    refine XS.aloadN X1.here hx rfl (hb hby own_d2_7) rfl rfl ?_
    show Steps p.tables e below (T1.setTop (mkF m 8 #[rv w_IBT_LOAD] [(.ref w_IBT_LOAD)])) _
    refine st2 _ ?_
    show Steps p.tables e below (T2.setTop (mkF m 11 #[rv w_IBT_LOAD] [(.ref w_IBT_MARKET_EXCL), (.ref w_IBT_LOAD)])) _
    refine Jvm.RoadKit.acmp (g := (mkF m 11 #[rv w_IBT_LOAD] [(.ref w_IBT_MARKET_EXCL), (.ref w_IBT_LOAD)])) X2 hx rfl rfl rfl (pc0 := 11) (pc' := 18) (same := false) rfl (hb hby own_d2_11) rfl (decide_eq_false fun q => (Fld.ne U_IBT_LOAD.2.2 U_IBT_MARKET_EXCL.2.2 (by decide)) (Value.ref.inj q)) (by decide) (by decide) ?_
    show Steps p.tables e below (T2.setTop (mkF m 18 #[rv w_IBT_LOAD] [])) _
    refine XS.iconst X2.here hx rfl (hb hby own_d2_18) ?_
    show Steps p.tables e below (T2.setTop (mkF m 19 #[rv w_IBT_LOAD] [(.int 0)])) _
    exact retN X2 hx (t := .boolean) Bd.returns (by simp) (hb hby own_d2_19) hr
  · show own_m_IBT_LOAD_Q Z w_DEMAND_BID w_DECREMENT_BID w_METERED_LOAD w_EXTERNAL_SALE w_IBT_LOAD w_SUPPLY_OFFER w_INCREMENT_OFFER w_METERED_GENERATION w_EXTERNAL_PURCHASE w_IBT_MARKET w_IBT_MARKET_EXCL h0 n0 _ T2.heap _
    rw [e2]
    exact ⟨rfl, N0, rfl⟩
theorem own_m_SUPPLY_OFFER_ef (m : MethodId) (w_SUPPLY_OFFER : Addr) : entryFrame m #[(.ref w_SUPPLY_OFFER)] 1 = mkF m 0 #[rv w_SUPPLY_OFFER] [] := by first | (simp [entryFrame, mkF, argsToLocals, Value.category]; done) | rfl
def own_m_SUPPLY_OFFER_Q (Z : State) (w_DEMAND_BID : Addr) (w_DECREMENT_BID : Addr) (w_METERED_LOAD : Addr) (w_EXTERNAL_SALE : Addr) (w_IBT_LOAD : Addr) (w_SUPPLY_OFFER : Addr) (w_INCREMENT_OFFER : Addr) (w_METERED_GENERATION : Addr) (w_EXTERNAL_PURCHASE : Addr) (w_IBT_MARKET : Addr) (w_IBT_MARKET_EXCL : Addr) (h0 : Heap) (n0 : Nat) (v : Option Value) (h : Heap) (L : List Loc) : Prop := v = some (.int 0) ∧ Fr n0 L ∧ h = h0
set_option maxRecDepth 65536 in
set_option maxHeartbeats 40000000 in
theorem own_m_SUPPLY_OFFER (l : Launch) (Z : State) (a0 : Array Value) (hw : ∀ d ∈ tables_1, d.before a0 Z = true) (ws : List Jvm.Cond) (w_DEMAND_BID : Addr) (w_DECREMENT_BID : Addr) (w_METERED_LOAD : Addr) (w_EXTERNAL_SALE : Addr) (w_IBT_LOAD : Addr) (w_SUPPLY_OFFER : Addr) (w_INCREMENT_OFFER : Addr) (w_METERED_GENERATION : Addr) (w_EXTERNAL_PURCHASE : Addr) (w_IBT_MARKET : Addr) (w_IBT_MARKET_EXCL : Addr) (h0 : Heap) (n0 : Nat) (O0 : Old Z n0 h0) (U_DEMAND_BID : own_En Z Z.heap "com/example/holdfast/holdfast/PositionKind" "DEMAND_BID" "Lcom/example/holdfast/holdfast/PositionKind;" w_DEMAND_BID (0 : Int32)) (U_DECREMENT_BID : own_En Z Z.heap "com/example/holdfast/holdfast/PositionKind" "DECREMENT_BID" "Lcom/example/holdfast/holdfast/PositionKind;" w_DECREMENT_BID (1 : Int32)) (U_METERED_LOAD : own_En Z Z.heap "com/example/holdfast/holdfast/PositionKind" "METERED_LOAD" "Lcom/example/holdfast/holdfast/PositionKind;" w_METERED_LOAD (2 : Int32)) (U_EXTERNAL_SALE : own_En Z Z.heap "com/example/holdfast/holdfast/PositionKind" "EXTERNAL_SALE" "Lcom/example/holdfast/holdfast/PositionKind;" w_EXTERNAL_SALE (3 : Int32)) (U_IBT_LOAD : own_En Z Z.heap "com/example/holdfast/holdfast/PositionKind" "IBT_LOAD" "Lcom/example/holdfast/holdfast/PositionKind;" w_IBT_LOAD (4 : Int32)) (U_SUPPLY_OFFER : own_En Z Z.heap "com/example/holdfast/holdfast/PositionKind" "SUPPLY_OFFER" "Lcom/example/holdfast/holdfast/PositionKind;" w_SUPPLY_OFFER (5 : Int32)) (U_INCREMENT_OFFER : own_En Z Z.heap "com/example/holdfast/holdfast/PositionKind" "INCREMENT_OFFER" "Lcom/example/holdfast/holdfast/PositionKind;" w_INCREMENT_OFFER (6 : Int32)) (U_METERED_GENERATION : own_En Z Z.heap "com/example/holdfast/holdfast/PositionKind" "METERED_GENERATION" "Lcom/example/holdfast/holdfast/PositionKind;" w_METERED_GENERATION (7 : Int32)) (U_EXTERNAL_PURCHASE : own_En Z Z.heap "com/example/holdfast/holdfast/PositionKind" "EXTERNAL_PURCHASE" "Lcom/example/holdfast/holdfast/PositionKind;" w_EXTERNAL_PURCHASE (8 : Int32)) (U_IBT_MARKET : own_En Z Z.heap "com/example/holdfast/holdfast/PositionKind" "IBT_MARKET" "Lcom/example/holdfast/holdfast/PositionKind;" w_IBT_MARKET (9 : Int32)) (U_IBT_MARKET_EXCL : own_En Z Z.heap "com/example/holdfast/holdfast/PositionKind" "IBT_MARKET_EXCL" "Lcom/example/holdfast/holdfast/PositionKind;" w_IBT_MARKET_EXCL (10 : Int32)) :
    MetFree l (⟨"com/example/holdfast/holdfast/PositionKind", "carriesIntoRealTime", "()Z"⟩ : MethodName) (head1 (Jvm.Cond.code (⟨"com/example/holdfast/holdfast/PositionKind", "carriesIntoRealTime", "()Z"⟩ : MethodName) prog_23_method_6_code 1 (some .boolean) :: ws) ({ frames := 0, cells := 0, slots := 0, locals := 0 } : Room)) (fun a U => a = #[(.ref w_SUPPLY_OFFER)] ∧ Z.Warmed39 U.vm ∧ U.heap = h0) (fun _ _ _ _ _ => True) (fun _ U o U' => ∃ v L, o = .returned v ∧ own_m_SUPPLY_OFFER_Q Z w_DEMAND_BID w_DECREMENT_BID w_METERED_LOAD w_EXTERNAL_SALE w_IBT_LOAD w_SUPPLY_OFFER w_INCREMENT_OFFER w_METERED_GENERATION w_EXTERNAL_PURCHASE w_IBT_MARKET w_IBT_MARKET_EXCL h0 n0 v U'.heap L ∧ FrameEnd U o U' L ({ frames := 0, cells := 0, slots := 0, locals := 0 } : Room).cells ({ frames := 0, cells := 0, slots := 0, locals := 0 } : Room).slots) := by
  refine MetFree.of_bodySF (plainFor_of_name own_pn0) hisR ?_
  intro p e s m args below meth c s₁ Bd hml0 hP hK
  obtain ⟨rfl, hZ, hh⟩ := hP
  have hx := Bd.exec
  have hby := Bd.bytes
  have hml : c.maxLocals = 1 := hml0
  have hown : s.vm.findClass "com/example/holdfast/holdfast/PositionKind" = some m.cls := findClass_of_methodNamed Bd.named
  have hnm := (name_of_methodNamed Bd.named Bd.method).1
  have X0 : Stand p l e ({ frames := 0, cells := 0, slots := 0, locals := 0 } : Room) s m #[(.ref w_SUPPLY_OFFER)] below meth c s₁ [] 0 0 := Stand.of_body Bd
  have e0 : s₁.heap = h0 := by rw [← hh, Bd.state]; rfl
  have N0 := Fr.nil n0
  have pre0 : ∀ t, Steps p.tables e below (s₁.setTop (mkF m 0 #[rv w_SUPPLY_OFFER] [])) t → Steps p.tables e below (s₁.setTop (entryFrame m #[(.ref w_SUPPLY_OFFER)] 1)) t := fun t k => castTop (own_m_SUPPLY_OFFER_ef m w_SUPPLY_OFFER) k
  obtain ⟨T1, X1, e1, st1⟩ := getS2 X0 hx hZ hown (host := "") (Or.inl (hw _ (List.mem_of_getElem? (i := 13) rfl))) Via.refl e0 (U_IBT_MARKET.1.ext O0.2) (g := (mkF m 1 #[rv w_SUPPLY_OFFER] [(.ref w_SUPPLY_OFFER)])) rfl (hb hby own_d2_1)
  obtain ⟨T2, X2, e2, st2⟩ := getS2 X1 hx hZ hown (host := "") (Or.inl (hw _ (List.mem_of_getElem? (i := 15) rfl))) Via.refl e1 (U_IBT_MARKET_EXCL.1.ext O0.2) (g := (mkF m 8 #[rv w_SUPPLY_OFFER] [(.ref w_SUPPLY_OFFER)])) rfl (hb hby own_d2_8)
  obtain ⟨fs, hr, hrun, hended, hW, hsame⟩ := X2.leave (v := some (.int 0)) (fun h => by rw [Bd.returns] at h; cases h)
  refine ⟨_, _, pre0 _ ?_, hrun, hended, _, _, rfl, ?_, ⟨_, rfl⟩, hW, hsame.mono (by decide) (by decide)⟩
  · show Steps p.tables e below (s₁.setTop (mkF m 0 #[rv w_SUPPLY_OFFER] [])) _
    refine XS.aloadN X0.here hx rfl (hb hby own_d2_0) rfl rfl ?_
    show Steps p.tables e below (s₁.setTop (mkF m 1 #[rv w_SUPPLY_OFFER] [(.ref w_SUPPLY_OFFER)])) _
    refine st1 _ ?_
    show Steps p.tables e below (T1.setTop (mkF m 4 #[rv w_SUPPLY_OFFER] [(.ref w_IBT_MARKET), (.ref w_SUPPLY_OFFER)])) _
    refine Jvm.RoadKit.acmp (g := (mkF m 4 #[rv w_SUPPLY_OFFER] [(.ref w_IBT_MARKET), (.ref w_SUPPLY_OFFER)])) X1 hx rfl rfl rfl (pc0 := 4) (pc' := 7) (same := false) rfl (hb hby own_d2_4) rfl (decide_eq_false fun q => (Fld.ne U_SUPPLY_OFFER.2.2 U_IBT_MARKET.2.2 (by decide)) (Value.ref.inj q)) (by decide) (by decide) ?_
    show Steps p.tables e below (T1.setTop (mkF m 7 #[rv w_SUPPLY_OFFER] [])) _
    refine XS.aloadN X1.here hx rfl (hb hby own_d2_7) rfl rfl ?_
    show Steps p.tables e below (T1.setTop (mkF m 8 #[rv w_SUPPLY_OFFER] [(.ref w_SUPPLY_OFFER)])) _
    refine st2 _ ?_
    show Steps p.tables e below (T2.setTop (mkF m 11 #[rv w_SUPPLY_OFFER] [(.ref w_IBT_MARKET_EXCL), (.ref w_SUPPLY_OFFER)])) _
    refine Jvm.RoadKit.acmp (g := (mkF m 11 #[rv w_SUPPLY_OFFER] [(.ref w_IBT_MARKET_EXCL), (.ref w_SUPPLY_OFFER)])) X2 hx rfl rfl rfl (pc0 := 11) (pc' := 18) (same := false) rfl (hb hby own_d2_11) rfl (decide_eq_false fun q => (Fld.ne U_SUPPLY_OFFER.2.2 U_IBT_MARKET_EXCL.2.2 (by decide)) (Value.ref.inj q)) (by decide) (by decide) ?_
    show Steps p.tables e below (T2.setTop (mkF m 18 #[rv w_SUPPLY_OFFER] [])) _
    refine XS.iconst X2.here hx rfl (hb hby own_d2_18) ?_
    show Steps p.tables e below (T2.setTop (mkF m 19 #[rv w_SUPPLY_OFFER] [(.int 0)])) _
    exact retN X2 hx (t := .boolean) Bd.returns (by simp) (hb hby own_d2_19) hr
  · show own_m_SUPPLY_OFFER_Q Z w_DEMAND_BID w_DECREMENT_BID w_METERED_LOAD w_EXTERNAL_SALE w_IBT_LOAD w_SUPPLY_OFFER w_INCREMENT_OFFER w_METERED_GENERATION w_EXTERNAL_PURCHASE w_IBT_MARKET w_IBT_MARKET_EXCL h0 n0 _ T2.heap _
    rw [e2]
    exact ⟨rfl, N0, rfl⟩
theorem own_m_INCREMENT_OFFER_ef (m : MethodId) (w_INCREMENT_OFFER : Addr) : entryFrame m #[(.ref w_INCREMENT_OFFER)] 1 = mkF m 0 #[rv w_INCREMENT_OFFER] [] := by first | (simp [entryFrame, mkF, argsToLocals, Value.category]; done) | rfl
def own_m_INCREMENT_OFFER_Q (Z : State) (w_DEMAND_BID : Addr) (w_DECREMENT_BID : Addr) (w_METERED_LOAD : Addr) (w_EXTERNAL_SALE : Addr) (w_IBT_LOAD : Addr) (w_SUPPLY_OFFER : Addr) (w_INCREMENT_OFFER : Addr) (w_METERED_GENERATION : Addr) (w_EXTERNAL_PURCHASE : Addr) (w_IBT_MARKET : Addr) (w_IBT_MARKET_EXCL : Addr) (h0 : Heap) (n0 : Nat) (v : Option Value) (h : Heap) (L : List Loc) : Prop := v = some (.int 0) ∧ Fr n0 L ∧ h = h0
set_option maxRecDepth 65536 in
set_option maxHeartbeats 40000000 in
theorem own_m_INCREMENT_OFFER (l : Launch) (Z : State) (a0 : Array Value) (hw : ∀ d ∈ tables_1, d.before a0 Z = true) (ws : List Jvm.Cond) (w_DEMAND_BID : Addr) (w_DECREMENT_BID : Addr) (w_METERED_LOAD : Addr) (w_EXTERNAL_SALE : Addr) (w_IBT_LOAD : Addr) (w_SUPPLY_OFFER : Addr) (w_INCREMENT_OFFER : Addr) (w_METERED_GENERATION : Addr) (w_EXTERNAL_PURCHASE : Addr) (w_IBT_MARKET : Addr) (w_IBT_MARKET_EXCL : Addr) (h0 : Heap) (n0 : Nat) (O0 : Old Z n0 h0) (U_DEMAND_BID : own_En Z Z.heap "com/example/holdfast/holdfast/PositionKind" "DEMAND_BID" "Lcom/example/holdfast/holdfast/PositionKind;" w_DEMAND_BID (0 : Int32)) (U_DECREMENT_BID : own_En Z Z.heap "com/example/holdfast/holdfast/PositionKind" "DECREMENT_BID" "Lcom/example/holdfast/holdfast/PositionKind;" w_DECREMENT_BID (1 : Int32)) (U_METERED_LOAD : own_En Z Z.heap "com/example/holdfast/holdfast/PositionKind" "METERED_LOAD" "Lcom/example/holdfast/holdfast/PositionKind;" w_METERED_LOAD (2 : Int32)) (U_EXTERNAL_SALE : own_En Z Z.heap "com/example/holdfast/holdfast/PositionKind" "EXTERNAL_SALE" "Lcom/example/holdfast/holdfast/PositionKind;" w_EXTERNAL_SALE (3 : Int32)) (U_IBT_LOAD : own_En Z Z.heap "com/example/holdfast/holdfast/PositionKind" "IBT_LOAD" "Lcom/example/holdfast/holdfast/PositionKind;" w_IBT_LOAD (4 : Int32)) (U_SUPPLY_OFFER : own_En Z Z.heap "com/example/holdfast/holdfast/PositionKind" "SUPPLY_OFFER" "Lcom/example/holdfast/holdfast/PositionKind;" w_SUPPLY_OFFER (5 : Int32)) (U_INCREMENT_OFFER : own_En Z Z.heap "com/example/holdfast/holdfast/PositionKind" "INCREMENT_OFFER" "Lcom/example/holdfast/holdfast/PositionKind;" w_INCREMENT_OFFER (6 : Int32)) (U_METERED_GENERATION : own_En Z Z.heap "com/example/holdfast/holdfast/PositionKind" "METERED_GENERATION" "Lcom/example/holdfast/holdfast/PositionKind;" w_METERED_GENERATION (7 : Int32)) (U_EXTERNAL_PURCHASE : own_En Z Z.heap "com/example/holdfast/holdfast/PositionKind" "EXTERNAL_PURCHASE" "Lcom/example/holdfast/holdfast/PositionKind;" w_EXTERNAL_PURCHASE (8 : Int32)) (U_IBT_MARKET : own_En Z Z.heap "com/example/holdfast/holdfast/PositionKind" "IBT_MARKET" "Lcom/example/holdfast/holdfast/PositionKind;" w_IBT_MARKET (9 : Int32)) (U_IBT_MARKET_EXCL : own_En Z Z.heap "com/example/holdfast/holdfast/PositionKind" "IBT_MARKET_EXCL" "Lcom/example/holdfast/holdfast/PositionKind;" w_IBT_MARKET_EXCL (10 : Int32)) :
    MetFree l (⟨"com/example/holdfast/holdfast/PositionKind", "carriesIntoRealTime", "()Z"⟩ : MethodName) (head1 (Jvm.Cond.code (⟨"com/example/holdfast/holdfast/PositionKind", "carriesIntoRealTime", "()Z"⟩ : MethodName) prog_23_method_6_code 1 (some .boolean) :: ws) ({ frames := 0, cells := 0, slots := 0, locals := 0 } : Room)) (fun a U => a = #[(.ref w_INCREMENT_OFFER)] ∧ Z.Warmed39 U.vm ∧ U.heap = h0) (fun _ _ _ _ _ => True) (fun _ U o U' => ∃ v L, o = .returned v ∧ own_m_INCREMENT_OFFER_Q Z w_DEMAND_BID w_DECREMENT_BID w_METERED_LOAD w_EXTERNAL_SALE w_IBT_LOAD w_SUPPLY_OFFER w_INCREMENT_OFFER w_METERED_GENERATION w_EXTERNAL_PURCHASE w_IBT_MARKET w_IBT_MARKET_EXCL h0 n0 v U'.heap L ∧ FrameEnd U o U' L ({ frames := 0, cells := 0, slots := 0, locals := 0 } : Room).cells ({ frames := 0, cells := 0, slots := 0, locals := 0 } : Room).slots) := by
  refine MetFree.of_bodySF (plainFor_of_name own_pn0) hisR ?_
  intro p e s m args below meth c s₁ Bd hml0 hP hK
  obtain ⟨rfl, hZ, hh⟩ := hP
  have hx := Bd.exec
  have hby := Bd.bytes
  have hml : c.maxLocals = 1 := hml0
  have hown : s.vm.findClass "com/example/holdfast/holdfast/PositionKind" = some m.cls := findClass_of_methodNamed Bd.named
  have hnm := (name_of_methodNamed Bd.named Bd.method).1
  have X0 : Stand p l e ({ frames := 0, cells := 0, slots := 0, locals := 0 } : Room) s m #[(.ref w_INCREMENT_OFFER)] below meth c s₁ [] 0 0 := Stand.of_body Bd
  have e0 : s₁.heap = h0 := by rw [← hh, Bd.state]; rfl
  have N0 := Fr.nil n0
  have pre0 : ∀ t, Steps p.tables e below (s₁.setTop (mkF m 0 #[rv w_INCREMENT_OFFER] [])) t → Steps p.tables e below (s₁.setTop (entryFrame m #[(.ref w_INCREMENT_OFFER)] 1)) t := fun t k => castTop (own_m_INCREMENT_OFFER_ef m w_INCREMENT_OFFER) k
  obtain ⟨T1, X1, e1, st1⟩ := getS2 X0 hx hZ hown (host := "") (Or.inl (hw _ (List.mem_of_getElem? (i := 13) rfl))) Via.refl e0 (U_IBT_MARKET.1.ext O0.2) (g := (mkF m 1 #[rv w_INCREMENT_OFFER] [(.ref w_INCREMENT_OFFER)])) rfl (hb hby own_d2_1)
  obtain ⟨T2, X2, e2, st2⟩ := getS2 X1 hx hZ hown (host := "") (Or.inl (hw _ (List.mem_of_getElem? (i := 15) rfl))) Via.refl e1 (U_IBT_MARKET_EXCL.1.ext O0.2) (g := (mkF m 8 #[rv w_INCREMENT_OFFER] [(.ref w_INCREMENT_OFFER)])) rfl (hb hby own_d2_8)
  obtain ⟨fs, hr, hrun, hended, hW, hsame⟩ := X2.leave (v := some (.int 0)) (fun h => by rw [Bd.returns] at h; cases h)
  refine ⟨_, _, pre0 _ ?_, hrun, hended, _, _, rfl, ?_, ⟨_, rfl⟩, hW, hsame.mono (by decide) (by decide)⟩
  · show Steps p.tables e below (s₁.setTop (mkF m 0 #[rv w_INCREMENT_OFFER] [])) _
    refine XS.aloadN X0.here hx rfl (hb hby own_d2_0) rfl rfl ?_
    show Steps p.tables e below (s₁.setTop (mkF m 1 #[rv w_INCREMENT_OFFER] [(.ref w_INCREMENT_OFFER)])) _
    refine st1 _ ?_
    show Steps p.tables e below (T1.setTop (mkF m 4 #[rv w_INCREMENT_OFFER] [(.ref w_IBT_MARKET), (.ref w_INCREMENT_OFFER)])) _
    refine Jvm.RoadKit.acmp (g := (mkF m 4 #[rv w_INCREMENT_OFFER] [(.ref w_IBT_MARKET), (.ref w_INCREMENT_OFFER)])) X1 hx rfl rfl rfl (pc0 := 4) (pc' := 7) (same := false) rfl (hb hby own_d2_4) rfl (decide_eq_false fun q => (Fld.ne U_INCREMENT_OFFER.2.2 U_IBT_MARKET.2.2 (by decide)) (Value.ref.inj q)) (by decide) (by decide) ?_
    show Steps p.tables e below (T1.setTop (mkF m 7 #[rv w_INCREMENT_OFFER] [])) _
    refine XS.aloadN X1.here hx rfl (hb hby own_d2_7) rfl rfl ?_
    show Steps p.tables e below (T1.setTop (mkF m 8 #[rv w_INCREMENT_OFFER] [(.ref w_INCREMENT_OFFER)])) _
    refine st2 _ ?_
    show Steps p.tables e below (T2.setTop (mkF m 11 #[rv w_INCREMENT_OFFER] [(.ref w_IBT_MARKET_EXCL), (.ref w_INCREMENT_OFFER)])) _
    refine Jvm.RoadKit.acmp (g := (mkF m 11 #[rv w_INCREMENT_OFFER] [(.ref w_IBT_MARKET_EXCL), (.ref w_INCREMENT_OFFER)])) X2 hx rfl rfl rfl (pc0 := 11) (pc' := 18) (same := false) rfl (hb hby own_d2_11) rfl (decide_eq_false fun q => (Fld.ne U_INCREMENT_OFFER.2.2 U_IBT_MARKET_EXCL.2.2 (by decide)) (Value.ref.inj q)) (by decide) (by decide) ?_
    show Steps p.tables e below (T2.setTop (mkF m 18 #[rv w_INCREMENT_OFFER] [])) _
    refine XS.iconst X2.here hx rfl (hb hby own_d2_18) ?_
    show Steps p.tables e below (T2.setTop (mkF m 19 #[rv w_INCREMENT_OFFER] [(.int 0)])) _
    exact retN X2 hx (t := .boolean) Bd.returns (by simp) (hb hby own_d2_19) hr
  · show own_m_INCREMENT_OFFER_Q Z w_DEMAND_BID w_DECREMENT_BID w_METERED_LOAD w_EXTERNAL_SALE w_IBT_LOAD w_SUPPLY_OFFER w_INCREMENT_OFFER w_METERED_GENERATION w_EXTERNAL_PURCHASE w_IBT_MARKET w_IBT_MARKET_EXCL h0 n0 _ T2.heap _
    rw [e2]
    exact ⟨rfl, N0, rfl⟩
theorem own_m_METERED_GENERATION_ef (m : MethodId) (w_METERED_GENERATION : Addr) : entryFrame m #[(.ref w_METERED_GENERATION)] 1 = mkF m 0 #[rv w_METERED_GENERATION] [] := by first | (simp [entryFrame, mkF, argsToLocals, Value.category]; done) | rfl
def own_m_METERED_GENERATION_Q (Z : State) (w_DEMAND_BID : Addr) (w_DECREMENT_BID : Addr) (w_METERED_LOAD : Addr) (w_EXTERNAL_SALE : Addr) (w_IBT_LOAD : Addr) (w_SUPPLY_OFFER : Addr) (w_INCREMENT_OFFER : Addr) (w_METERED_GENERATION : Addr) (w_EXTERNAL_PURCHASE : Addr) (w_IBT_MARKET : Addr) (w_IBT_MARKET_EXCL : Addr) (h0 : Heap) (n0 : Nat) (v : Option Value) (h : Heap) (L : List Loc) : Prop := v = some (.int 0) ∧ Fr n0 L ∧ h = h0
set_option maxRecDepth 65536 in
set_option maxHeartbeats 40000000 in
theorem own_m_METERED_GENERATION (l : Launch) (Z : State) (a0 : Array Value) (hw : ∀ d ∈ tables_1, d.before a0 Z = true) (ws : List Jvm.Cond) (w_DEMAND_BID : Addr) (w_DECREMENT_BID : Addr) (w_METERED_LOAD : Addr) (w_EXTERNAL_SALE : Addr) (w_IBT_LOAD : Addr) (w_SUPPLY_OFFER : Addr) (w_INCREMENT_OFFER : Addr) (w_METERED_GENERATION : Addr) (w_EXTERNAL_PURCHASE : Addr) (w_IBT_MARKET : Addr) (w_IBT_MARKET_EXCL : Addr) (h0 : Heap) (n0 : Nat) (O0 : Old Z n0 h0) (U_DEMAND_BID : own_En Z Z.heap "com/example/holdfast/holdfast/PositionKind" "DEMAND_BID" "Lcom/example/holdfast/holdfast/PositionKind;" w_DEMAND_BID (0 : Int32)) (U_DECREMENT_BID : own_En Z Z.heap "com/example/holdfast/holdfast/PositionKind" "DECREMENT_BID" "Lcom/example/holdfast/holdfast/PositionKind;" w_DECREMENT_BID (1 : Int32)) (U_METERED_LOAD : own_En Z Z.heap "com/example/holdfast/holdfast/PositionKind" "METERED_LOAD" "Lcom/example/holdfast/holdfast/PositionKind;" w_METERED_LOAD (2 : Int32)) (U_EXTERNAL_SALE : own_En Z Z.heap "com/example/holdfast/holdfast/PositionKind" "EXTERNAL_SALE" "Lcom/example/holdfast/holdfast/PositionKind;" w_EXTERNAL_SALE (3 : Int32)) (U_IBT_LOAD : own_En Z Z.heap "com/example/holdfast/holdfast/PositionKind" "IBT_LOAD" "Lcom/example/holdfast/holdfast/PositionKind;" w_IBT_LOAD (4 : Int32)) (U_SUPPLY_OFFER : own_En Z Z.heap "com/example/holdfast/holdfast/PositionKind" "SUPPLY_OFFER" "Lcom/example/holdfast/holdfast/PositionKind;" w_SUPPLY_OFFER (5 : Int32)) (U_INCREMENT_OFFER : own_En Z Z.heap "com/example/holdfast/holdfast/PositionKind" "INCREMENT_OFFER" "Lcom/example/holdfast/holdfast/PositionKind;" w_INCREMENT_OFFER (6 : Int32)) (U_METERED_GENERATION : own_En Z Z.heap "com/example/holdfast/holdfast/PositionKind" "METERED_GENERATION" "Lcom/example/holdfast/holdfast/PositionKind;" w_METERED_GENERATION (7 : Int32)) (U_EXTERNAL_PURCHASE : own_En Z Z.heap "com/example/holdfast/holdfast/PositionKind" "EXTERNAL_PURCHASE" "Lcom/example/holdfast/holdfast/PositionKind;" w_EXTERNAL_PURCHASE (8 : Int32)) (U_IBT_MARKET : own_En Z Z.heap "com/example/holdfast/holdfast/PositionKind" "IBT_MARKET" "Lcom/example/holdfast/holdfast/PositionKind;" w_IBT_MARKET (9 : Int32)) (U_IBT_MARKET_EXCL : own_En Z Z.heap "com/example/holdfast/holdfast/PositionKind" "IBT_MARKET_EXCL" "Lcom/example/holdfast/holdfast/PositionKind;" w_IBT_MARKET_EXCL (10 : Int32)) :
    MetFree l (⟨"com/example/holdfast/holdfast/PositionKind", "carriesIntoRealTime", "()Z"⟩ : MethodName) (head1 (Jvm.Cond.code (⟨"com/example/holdfast/holdfast/PositionKind", "carriesIntoRealTime", "()Z"⟩ : MethodName) prog_23_method_6_code 1 (some .boolean) :: ws) ({ frames := 0, cells := 0, slots := 0, locals := 0 } : Room)) (fun a U => a = #[(.ref w_METERED_GENERATION)] ∧ Z.Warmed39 U.vm ∧ U.heap = h0) (fun _ _ _ _ _ => True) (fun _ U o U' => ∃ v L, o = .returned v ∧ own_m_METERED_GENERATION_Q Z w_DEMAND_BID w_DECREMENT_BID w_METERED_LOAD w_EXTERNAL_SALE w_IBT_LOAD w_SUPPLY_OFFER w_INCREMENT_OFFER w_METERED_GENERATION w_EXTERNAL_PURCHASE w_IBT_MARKET w_IBT_MARKET_EXCL h0 n0 v U'.heap L ∧ FrameEnd U o U' L ({ frames := 0, cells := 0, slots := 0, locals := 0 } : Room).cells ({ frames := 0, cells := 0, slots := 0, locals := 0 } : Room).slots) := by
  refine MetFree.of_bodySF (plainFor_of_name own_pn0) hisR ?_
  intro p e s m args below meth c s₁ Bd hml0 hP hK
  obtain ⟨rfl, hZ, hh⟩ := hP
  have hx := Bd.exec
  have hby := Bd.bytes
  have hml : c.maxLocals = 1 := hml0
  have hown : s.vm.findClass "com/example/holdfast/holdfast/PositionKind" = some m.cls := findClass_of_methodNamed Bd.named
  have hnm := (name_of_methodNamed Bd.named Bd.method).1
  have X0 : Stand p l e ({ frames := 0, cells := 0, slots := 0, locals := 0 } : Room) s m #[(.ref w_METERED_GENERATION)] below meth c s₁ [] 0 0 := Stand.of_body Bd
  have e0 : s₁.heap = h0 := by rw [← hh, Bd.state]; rfl
  have N0 := Fr.nil n0
  have pre0 : ∀ t, Steps p.tables e below (s₁.setTop (mkF m 0 #[rv w_METERED_GENERATION] [])) t → Steps p.tables e below (s₁.setTop (entryFrame m #[(.ref w_METERED_GENERATION)] 1)) t := fun t k => castTop (own_m_METERED_GENERATION_ef m w_METERED_GENERATION) k
  obtain ⟨T1, X1, e1, st1⟩ := getS2 X0 hx hZ hown (host := "") (Or.inl (hw _ (List.mem_of_getElem? (i := 13) rfl))) Via.refl e0 (U_IBT_MARKET.1.ext O0.2) (g := (mkF m 1 #[rv w_METERED_GENERATION] [(.ref w_METERED_GENERATION)])) rfl (hb hby own_d2_1)
  obtain ⟨T2, X2, e2, st2⟩ := getS2 X1 hx hZ hown (host := "") (Or.inl (hw _ (List.mem_of_getElem? (i := 15) rfl))) Via.refl e1 (U_IBT_MARKET_EXCL.1.ext O0.2) (g := (mkF m 8 #[rv w_METERED_GENERATION] [(.ref w_METERED_GENERATION)])) rfl (hb hby own_d2_8)
  obtain ⟨fs, hr, hrun, hended, hW, hsame⟩ := X2.leave (v := some (.int 0)) (fun h => by rw [Bd.returns] at h; cases h)
  refine ⟨_, _, pre0 _ ?_, hrun, hended, _, _, rfl, ?_, ⟨_, rfl⟩, hW, hsame.mono (by decide) (by decide)⟩
  · show Steps p.tables e below (s₁.setTop (mkF m 0 #[rv w_METERED_GENERATION] [])) _
    refine XS.aloadN X0.here hx rfl (hb hby own_d2_0) rfl rfl ?_
    show Steps p.tables e below (s₁.setTop (mkF m 1 #[rv w_METERED_GENERATION] [(.ref w_METERED_GENERATION)])) _
    refine st1 _ ?_
    show Steps p.tables e below (T1.setTop (mkF m 4 #[rv w_METERED_GENERATION] [(.ref w_IBT_MARKET), (.ref w_METERED_GENERATION)])) _
    refine Jvm.RoadKit.acmp (g := (mkF m 4 #[rv w_METERED_GENERATION] [(.ref w_IBT_MARKET), (.ref w_METERED_GENERATION)])) X1 hx rfl rfl rfl (pc0 := 4) (pc' := 7) (same := false) rfl (hb hby own_d2_4) rfl (decide_eq_false fun q => (Fld.ne U_METERED_GENERATION.2.2 U_IBT_MARKET.2.2 (by decide)) (Value.ref.inj q)) (by decide) (by decide) ?_
    show Steps p.tables e below (T1.setTop (mkF m 7 #[rv w_METERED_GENERATION] [])) _
    refine XS.aloadN X1.here hx rfl (hb hby own_d2_7) rfl rfl ?_
    show Steps p.tables e below (T1.setTop (mkF m 8 #[rv w_METERED_GENERATION] [(.ref w_METERED_GENERATION)])) _
    refine st2 _ ?_
    show Steps p.tables e below (T2.setTop (mkF m 11 #[rv w_METERED_GENERATION] [(.ref w_IBT_MARKET_EXCL), (.ref w_METERED_GENERATION)])) _
    refine Jvm.RoadKit.acmp (g := (mkF m 11 #[rv w_METERED_GENERATION] [(.ref w_IBT_MARKET_EXCL), (.ref w_METERED_GENERATION)])) X2 hx rfl rfl rfl (pc0 := 11) (pc' := 18) (same := false) rfl (hb hby own_d2_11) rfl (decide_eq_false fun q => (Fld.ne U_METERED_GENERATION.2.2 U_IBT_MARKET_EXCL.2.2 (by decide)) (Value.ref.inj q)) (by decide) (by decide) ?_
    show Steps p.tables e below (T2.setTop (mkF m 18 #[rv w_METERED_GENERATION] [])) _
    refine XS.iconst X2.here hx rfl (hb hby own_d2_18) ?_
    show Steps p.tables e below (T2.setTop (mkF m 19 #[rv w_METERED_GENERATION] [(.int 0)])) _
    exact retN X2 hx (t := .boolean) Bd.returns (by simp) (hb hby own_d2_19) hr
  · show own_m_METERED_GENERATION_Q Z w_DEMAND_BID w_DECREMENT_BID w_METERED_LOAD w_EXTERNAL_SALE w_IBT_LOAD w_SUPPLY_OFFER w_INCREMENT_OFFER w_METERED_GENERATION w_EXTERNAL_PURCHASE w_IBT_MARKET w_IBT_MARKET_EXCL h0 n0 _ T2.heap _
    rw [e2]
    exact ⟨rfl, N0, rfl⟩
theorem own_m_EXTERNAL_PURCHASE_ef (m : MethodId) (w_EXTERNAL_PURCHASE : Addr) : entryFrame m #[(.ref w_EXTERNAL_PURCHASE)] 1 = mkF m 0 #[rv w_EXTERNAL_PURCHASE] [] := by first | (simp [entryFrame, mkF, argsToLocals, Value.category]; done) | rfl
def own_m_EXTERNAL_PURCHASE_Q (Z : State) (w_DEMAND_BID : Addr) (w_DECREMENT_BID : Addr) (w_METERED_LOAD : Addr) (w_EXTERNAL_SALE : Addr) (w_IBT_LOAD : Addr) (w_SUPPLY_OFFER : Addr) (w_INCREMENT_OFFER : Addr) (w_METERED_GENERATION : Addr) (w_EXTERNAL_PURCHASE : Addr) (w_IBT_MARKET : Addr) (w_IBT_MARKET_EXCL : Addr) (h0 : Heap) (n0 : Nat) (v : Option Value) (h : Heap) (L : List Loc) : Prop := v = some (.int 0) ∧ Fr n0 L ∧ h = h0
set_option maxRecDepth 65536 in
set_option maxHeartbeats 40000000 in
theorem own_m_EXTERNAL_PURCHASE (l : Launch) (Z : State) (a0 : Array Value) (hw : ∀ d ∈ tables_1, d.before a0 Z = true) (ws : List Jvm.Cond) (w_DEMAND_BID : Addr) (w_DECREMENT_BID : Addr) (w_METERED_LOAD : Addr) (w_EXTERNAL_SALE : Addr) (w_IBT_LOAD : Addr) (w_SUPPLY_OFFER : Addr) (w_INCREMENT_OFFER : Addr) (w_METERED_GENERATION : Addr) (w_EXTERNAL_PURCHASE : Addr) (w_IBT_MARKET : Addr) (w_IBT_MARKET_EXCL : Addr) (h0 : Heap) (n0 : Nat) (O0 : Old Z n0 h0) (U_DEMAND_BID : own_En Z Z.heap "com/example/holdfast/holdfast/PositionKind" "DEMAND_BID" "Lcom/example/holdfast/holdfast/PositionKind;" w_DEMAND_BID (0 : Int32)) (U_DECREMENT_BID : own_En Z Z.heap "com/example/holdfast/holdfast/PositionKind" "DECREMENT_BID" "Lcom/example/holdfast/holdfast/PositionKind;" w_DECREMENT_BID (1 : Int32)) (U_METERED_LOAD : own_En Z Z.heap "com/example/holdfast/holdfast/PositionKind" "METERED_LOAD" "Lcom/example/holdfast/holdfast/PositionKind;" w_METERED_LOAD (2 : Int32)) (U_EXTERNAL_SALE : own_En Z Z.heap "com/example/holdfast/holdfast/PositionKind" "EXTERNAL_SALE" "Lcom/example/holdfast/holdfast/PositionKind;" w_EXTERNAL_SALE (3 : Int32)) (U_IBT_LOAD : own_En Z Z.heap "com/example/holdfast/holdfast/PositionKind" "IBT_LOAD" "Lcom/example/holdfast/holdfast/PositionKind;" w_IBT_LOAD (4 : Int32)) (U_SUPPLY_OFFER : own_En Z Z.heap "com/example/holdfast/holdfast/PositionKind" "SUPPLY_OFFER" "Lcom/example/holdfast/holdfast/PositionKind;" w_SUPPLY_OFFER (5 : Int32)) (U_INCREMENT_OFFER : own_En Z Z.heap "com/example/holdfast/holdfast/PositionKind" "INCREMENT_OFFER" "Lcom/example/holdfast/holdfast/PositionKind;" w_INCREMENT_OFFER (6 : Int32)) (U_METERED_GENERATION : own_En Z Z.heap "com/example/holdfast/holdfast/PositionKind" "METERED_GENERATION" "Lcom/example/holdfast/holdfast/PositionKind;" w_METERED_GENERATION (7 : Int32)) (U_EXTERNAL_PURCHASE : own_En Z Z.heap "com/example/holdfast/holdfast/PositionKind" "EXTERNAL_PURCHASE" "Lcom/example/holdfast/holdfast/PositionKind;" w_EXTERNAL_PURCHASE (8 : Int32)) (U_IBT_MARKET : own_En Z Z.heap "com/example/holdfast/holdfast/PositionKind" "IBT_MARKET" "Lcom/example/holdfast/holdfast/PositionKind;" w_IBT_MARKET (9 : Int32)) (U_IBT_MARKET_EXCL : own_En Z Z.heap "com/example/holdfast/holdfast/PositionKind" "IBT_MARKET_EXCL" "Lcom/example/holdfast/holdfast/PositionKind;" w_IBT_MARKET_EXCL (10 : Int32)) :
    MetFree l (⟨"com/example/holdfast/holdfast/PositionKind", "carriesIntoRealTime", "()Z"⟩ : MethodName) (head1 (Jvm.Cond.code (⟨"com/example/holdfast/holdfast/PositionKind", "carriesIntoRealTime", "()Z"⟩ : MethodName) prog_23_method_6_code 1 (some .boolean) :: ws) ({ frames := 0, cells := 0, slots := 0, locals := 0 } : Room)) (fun a U => a = #[(.ref w_EXTERNAL_PURCHASE)] ∧ Z.Warmed39 U.vm ∧ U.heap = h0) (fun _ _ _ _ _ => True) (fun _ U o U' => ∃ v L, o = .returned v ∧ own_m_EXTERNAL_PURCHASE_Q Z w_DEMAND_BID w_DECREMENT_BID w_METERED_LOAD w_EXTERNAL_SALE w_IBT_LOAD w_SUPPLY_OFFER w_INCREMENT_OFFER w_METERED_GENERATION w_EXTERNAL_PURCHASE w_IBT_MARKET w_IBT_MARKET_EXCL h0 n0 v U'.heap L ∧ FrameEnd U o U' L ({ frames := 0, cells := 0, slots := 0, locals := 0 } : Room).cells ({ frames := 0, cells := 0, slots := 0, locals := 0 } : Room).slots) := by
  refine MetFree.of_bodySF (plainFor_of_name own_pn0) hisR ?_
  intro p e s m args below meth c s₁ Bd hml0 hP hK
  obtain ⟨rfl, hZ, hh⟩ := hP
  have hx := Bd.exec
  have hby := Bd.bytes
  have hml : c.maxLocals = 1 := hml0
  have hown : s.vm.findClass "com/example/holdfast/holdfast/PositionKind" = some m.cls := findClass_of_methodNamed Bd.named
  have hnm := (name_of_methodNamed Bd.named Bd.method).1
  have X0 : Stand p l e ({ frames := 0, cells := 0, slots := 0, locals := 0 } : Room) s m #[(.ref w_EXTERNAL_PURCHASE)] below meth c s₁ [] 0 0 := Stand.of_body Bd
  have e0 : s₁.heap = h0 := by rw [← hh, Bd.state]; rfl
  have N0 := Fr.nil n0
  have pre0 : ∀ t, Steps p.tables e below (s₁.setTop (mkF m 0 #[rv w_EXTERNAL_PURCHASE] [])) t → Steps p.tables e below (s₁.setTop (entryFrame m #[(.ref w_EXTERNAL_PURCHASE)] 1)) t := fun t k => castTop (own_m_EXTERNAL_PURCHASE_ef m w_EXTERNAL_PURCHASE) k
  obtain ⟨T1, X1, e1, st1⟩ := getS2 X0 hx hZ hown (host := "") (Or.inl (hw _ (List.mem_of_getElem? (i := 13) rfl))) Via.refl e0 (U_IBT_MARKET.1.ext O0.2) (g := (mkF m 1 #[rv w_EXTERNAL_PURCHASE] [(.ref w_EXTERNAL_PURCHASE)])) rfl (hb hby own_d2_1)
  obtain ⟨T2, X2, e2, st2⟩ := getS2 X1 hx hZ hown (host := "") (Or.inl (hw _ (List.mem_of_getElem? (i := 15) rfl))) Via.refl e1 (U_IBT_MARKET_EXCL.1.ext O0.2) (g := (mkF m 8 #[rv w_EXTERNAL_PURCHASE] [(.ref w_EXTERNAL_PURCHASE)])) rfl (hb hby own_d2_8)
  obtain ⟨fs, hr, hrun, hended, hW, hsame⟩ := X2.leave (v := some (.int 0)) (fun h => by rw [Bd.returns] at h; cases h)
  refine ⟨_, _, pre0 _ ?_, hrun, hended, _, _, rfl, ?_, ⟨_, rfl⟩, hW, hsame.mono (by decide) (by decide)⟩
  · show Steps p.tables e below (s₁.setTop (mkF m 0 #[rv w_EXTERNAL_PURCHASE] [])) _
    refine XS.aloadN X0.here hx rfl (hb hby own_d2_0) rfl rfl ?_
    show Steps p.tables e below (s₁.setTop (mkF m 1 #[rv w_EXTERNAL_PURCHASE] [(.ref w_EXTERNAL_PURCHASE)])) _
    refine st1 _ ?_
    show Steps p.tables e below (T1.setTop (mkF m 4 #[rv w_EXTERNAL_PURCHASE] [(.ref w_IBT_MARKET), (.ref w_EXTERNAL_PURCHASE)])) _
    refine Jvm.RoadKit.acmp (g := (mkF m 4 #[rv w_EXTERNAL_PURCHASE] [(.ref w_IBT_MARKET), (.ref w_EXTERNAL_PURCHASE)])) X1 hx rfl rfl rfl (pc0 := 4) (pc' := 7) (same := false) rfl (hb hby own_d2_4) rfl (decide_eq_false fun q => (Fld.ne U_EXTERNAL_PURCHASE.2.2 U_IBT_MARKET.2.2 (by decide)) (Value.ref.inj q)) (by decide) (by decide) ?_
    show Steps p.tables e below (T1.setTop (mkF m 7 #[rv w_EXTERNAL_PURCHASE] [])) _
    refine XS.aloadN X1.here hx rfl (hb hby own_d2_7) rfl rfl ?_
    show Steps p.tables e below (T1.setTop (mkF m 8 #[rv w_EXTERNAL_PURCHASE] [(.ref w_EXTERNAL_PURCHASE)])) _
    refine st2 _ ?_
    show Steps p.tables e below (T2.setTop (mkF m 11 #[rv w_EXTERNAL_PURCHASE] [(.ref w_IBT_MARKET_EXCL), (.ref w_EXTERNAL_PURCHASE)])) _
    refine Jvm.RoadKit.acmp (g := (mkF m 11 #[rv w_EXTERNAL_PURCHASE] [(.ref w_IBT_MARKET_EXCL), (.ref w_EXTERNAL_PURCHASE)])) X2 hx rfl rfl rfl (pc0 := 11) (pc' := 18) (same := false) rfl (hb hby own_d2_11) rfl (decide_eq_false fun q => (Fld.ne U_EXTERNAL_PURCHASE.2.2 U_IBT_MARKET_EXCL.2.2 (by decide)) (Value.ref.inj q)) (by decide) (by decide) ?_
    show Steps p.tables e below (T2.setTop (mkF m 18 #[rv w_EXTERNAL_PURCHASE] [])) _
    refine XS.iconst X2.here hx rfl (hb hby own_d2_18) ?_
    show Steps p.tables e below (T2.setTop (mkF m 19 #[rv w_EXTERNAL_PURCHASE] [(.int 0)])) _
    exact retN X2 hx (t := .boolean) Bd.returns (by simp) (hb hby own_d2_19) hr
  · show own_m_EXTERNAL_PURCHASE_Q Z w_DEMAND_BID w_DECREMENT_BID w_METERED_LOAD w_EXTERNAL_SALE w_IBT_LOAD w_SUPPLY_OFFER w_INCREMENT_OFFER w_METERED_GENERATION w_EXTERNAL_PURCHASE w_IBT_MARKET w_IBT_MARKET_EXCL h0 n0 _ T2.heap _
    rw [e2]
    exact ⟨rfl, N0, rfl⟩
theorem own_m_IBT_MARKET_ef (m : MethodId) (w_IBT_MARKET : Addr) : entryFrame m #[(.ref w_IBT_MARKET)] 1 = mkF m 0 #[rv w_IBT_MARKET] [] := by first | (simp [entryFrame, mkF, argsToLocals, Value.category]; done) | rfl
def own_m_IBT_MARKET_Q (Z : State) (w_DEMAND_BID : Addr) (w_DECREMENT_BID : Addr) (w_METERED_LOAD : Addr) (w_EXTERNAL_SALE : Addr) (w_IBT_LOAD : Addr) (w_SUPPLY_OFFER : Addr) (w_INCREMENT_OFFER : Addr) (w_METERED_GENERATION : Addr) (w_EXTERNAL_PURCHASE : Addr) (w_IBT_MARKET : Addr) (w_IBT_MARKET_EXCL : Addr) (h0 : Heap) (n0 : Nat) (v : Option Value) (h : Heap) (L : List Loc) : Prop := v = some (.int 1) ∧ Fr n0 L ∧ h = h0
set_option maxRecDepth 65536 in
set_option maxHeartbeats 40000000 in
theorem own_m_IBT_MARKET (l : Launch) (Z : State) (a0 : Array Value) (hw : ∀ d ∈ tables_1, d.before a0 Z = true) (ws : List Jvm.Cond) (w_DEMAND_BID : Addr) (w_DECREMENT_BID : Addr) (w_METERED_LOAD : Addr) (w_EXTERNAL_SALE : Addr) (w_IBT_LOAD : Addr) (w_SUPPLY_OFFER : Addr) (w_INCREMENT_OFFER : Addr) (w_METERED_GENERATION : Addr) (w_EXTERNAL_PURCHASE : Addr) (w_IBT_MARKET : Addr) (w_IBT_MARKET_EXCL : Addr) (h0 : Heap) (n0 : Nat) (O0 : Old Z n0 h0) (U_DEMAND_BID : own_En Z Z.heap "com/example/holdfast/holdfast/PositionKind" "DEMAND_BID" "Lcom/example/holdfast/holdfast/PositionKind;" w_DEMAND_BID (0 : Int32)) (U_DECREMENT_BID : own_En Z Z.heap "com/example/holdfast/holdfast/PositionKind" "DECREMENT_BID" "Lcom/example/holdfast/holdfast/PositionKind;" w_DECREMENT_BID (1 : Int32)) (U_METERED_LOAD : own_En Z Z.heap "com/example/holdfast/holdfast/PositionKind" "METERED_LOAD" "Lcom/example/holdfast/holdfast/PositionKind;" w_METERED_LOAD (2 : Int32)) (U_EXTERNAL_SALE : own_En Z Z.heap "com/example/holdfast/holdfast/PositionKind" "EXTERNAL_SALE" "Lcom/example/holdfast/holdfast/PositionKind;" w_EXTERNAL_SALE (3 : Int32)) (U_IBT_LOAD : own_En Z Z.heap "com/example/holdfast/holdfast/PositionKind" "IBT_LOAD" "Lcom/example/holdfast/holdfast/PositionKind;" w_IBT_LOAD (4 : Int32)) (U_SUPPLY_OFFER : own_En Z Z.heap "com/example/holdfast/holdfast/PositionKind" "SUPPLY_OFFER" "Lcom/example/holdfast/holdfast/PositionKind;" w_SUPPLY_OFFER (5 : Int32)) (U_INCREMENT_OFFER : own_En Z Z.heap "com/example/holdfast/holdfast/PositionKind" "INCREMENT_OFFER" "Lcom/example/holdfast/holdfast/PositionKind;" w_INCREMENT_OFFER (6 : Int32)) (U_METERED_GENERATION : own_En Z Z.heap "com/example/holdfast/holdfast/PositionKind" "METERED_GENERATION" "Lcom/example/holdfast/holdfast/PositionKind;" w_METERED_GENERATION (7 : Int32)) (U_EXTERNAL_PURCHASE : own_En Z Z.heap "com/example/holdfast/holdfast/PositionKind" "EXTERNAL_PURCHASE" "Lcom/example/holdfast/holdfast/PositionKind;" w_EXTERNAL_PURCHASE (8 : Int32)) (U_IBT_MARKET : own_En Z Z.heap "com/example/holdfast/holdfast/PositionKind" "IBT_MARKET" "Lcom/example/holdfast/holdfast/PositionKind;" w_IBT_MARKET (9 : Int32)) (U_IBT_MARKET_EXCL : own_En Z Z.heap "com/example/holdfast/holdfast/PositionKind" "IBT_MARKET_EXCL" "Lcom/example/holdfast/holdfast/PositionKind;" w_IBT_MARKET_EXCL (10 : Int32)) :
    MetFree l (⟨"com/example/holdfast/holdfast/PositionKind", "carriesIntoRealTime", "()Z"⟩ : MethodName) (head1 (Jvm.Cond.code (⟨"com/example/holdfast/holdfast/PositionKind", "carriesIntoRealTime", "()Z"⟩ : MethodName) prog_23_method_6_code 1 (some .boolean) :: ws) ({ frames := 0, cells := 0, slots := 0, locals := 0 } : Room)) (fun a U => a = #[(.ref w_IBT_MARKET)] ∧ Z.Warmed39 U.vm ∧ U.heap = h0) (fun _ _ _ _ _ => True) (fun _ U o U' => ∃ v L, o = .returned v ∧ own_m_IBT_MARKET_Q Z w_DEMAND_BID w_DECREMENT_BID w_METERED_LOAD w_EXTERNAL_SALE w_IBT_LOAD w_SUPPLY_OFFER w_INCREMENT_OFFER w_METERED_GENERATION w_EXTERNAL_PURCHASE w_IBT_MARKET w_IBT_MARKET_EXCL h0 n0 v U'.heap L ∧ FrameEnd U o U' L ({ frames := 0, cells := 0, slots := 0, locals := 0 } : Room).cells ({ frames := 0, cells := 0, slots := 0, locals := 0 } : Room).slots) := by
  refine MetFree.of_bodySF (plainFor_of_name own_pn0) hisR ?_
  intro p e s m args below meth c s₁ Bd hml0 hP hK
  obtain ⟨rfl, hZ, hh⟩ := hP
  have hx := Bd.exec
  have hby := Bd.bytes
  have hml : c.maxLocals = 1 := hml0
  have hown : s.vm.findClass "com/example/holdfast/holdfast/PositionKind" = some m.cls := findClass_of_methodNamed Bd.named
  have hnm := (name_of_methodNamed Bd.named Bd.method).1
  have X0 : Stand p l e ({ frames := 0, cells := 0, slots := 0, locals := 0 } : Room) s m #[(.ref w_IBT_MARKET)] below meth c s₁ [] 0 0 := Stand.of_body Bd
  have e0 : s₁.heap = h0 := by rw [← hh, Bd.state]; rfl
  have N0 := Fr.nil n0
  have pre0 : ∀ t, Steps p.tables e below (s₁.setTop (mkF m 0 #[rv w_IBT_MARKET] [])) t → Steps p.tables e below (s₁.setTop (entryFrame m #[(.ref w_IBT_MARKET)] 1)) t := fun t k => castTop (own_m_IBT_MARKET_ef m w_IBT_MARKET) k
  obtain ⟨T1, X1, e1, st1⟩ := getS2 X0 hx hZ hown (host := "") (Or.inl (hw _ (List.mem_of_getElem? (i := 13) rfl))) Via.refl e0 (U_IBT_MARKET.1.ext O0.2) (g := (mkF m 1 #[rv w_IBT_MARKET] [(.ref w_IBT_MARKET)])) rfl (hb hby own_d2_1)
  obtain ⟨fs, hr, hrun, hended, hW, hsame⟩ := X1.leave (v := some (.int 1)) (fun h => by rw [Bd.returns] at h; cases h)
  refine ⟨_, _, pre0 _ ?_, hrun, hended, _, _, rfl, ?_, ⟨_, rfl⟩, hW, hsame.mono (by decide) (by decide)⟩
  · show Steps p.tables e below (s₁.setTop (mkF m 0 #[rv w_IBT_MARKET] [])) _
    refine XS.aloadN X0.here hx rfl (hb hby own_d2_0) rfl rfl ?_
    show Steps p.tables e below (s₁.setTop (mkF m 1 #[rv w_IBT_MARKET] [(.ref w_IBT_MARKET)])) _
    refine st1 _ ?_
    show Steps p.tables e below (T1.setTop (mkF m 4 #[rv w_IBT_MARKET] [(.ref w_IBT_MARKET), (.ref w_IBT_MARKET)])) _
    refine Jvm.RoadKit.acmp (g := (mkF m 4 #[rv w_IBT_MARKET] [(.ref w_IBT_MARKET), (.ref w_IBT_MARKET)])) X1 hx rfl rfl rfl (pc0 := 4) (pc' := 14) (same := true) rfl (hb hby own_d2_4) rfl (decide_eq_true rfl) (by decide) (by decide) ?_
    show Steps p.tables e below (T1.setTop (mkF m 14 #[rv w_IBT_MARKET] [])) _
    refine XS.iconst X1.here hx rfl (hb hby own_d2_14) ?_
    show Steps p.tables e below (T1.setTop (mkF m 15 #[rv w_IBT_MARKET] [(.int 1)])) _
    refine XS.goto X1.here hx rfl (pc0 := 15) (pc' := 19) rfl (hb hby own_d2_15) (by decide) (by decide) ?_
    show Steps p.tables e below (T1.setTop (mkF m 19 #[rv w_IBT_MARKET] [(.int 1)])) _
    exact retN X1 hx (t := .boolean) Bd.returns (by simp) (hb hby own_d2_19) hr
  · show own_m_IBT_MARKET_Q Z w_DEMAND_BID w_DECREMENT_BID w_METERED_LOAD w_EXTERNAL_SALE w_IBT_LOAD w_SUPPLY_OFFER w_INCREMENT_OFFER w_METERED_GENERATION w_EXTERNAL_PURCHASE w_IBT_MARKET w_IBT_MARKET_EXCL h0 n0 _ T1.heap _
    rw [e1]
    exact ⟨rfl, N0, rfl⟩
theorem own_m_IBT_MARKET_EXCL_ef (m : MethodId) (w_IBT_MARKET_EXCL : Addr) : entryFrame m #[(.ref w_IBT_MARKET_EXCL)] 1 = mkF m 0 #[rv w_IBT_MARKET_EXCL] [] := by first | (simp [entryFrame, mkF, argsToLocals, Value.category]; done) | rfl
def own_m_IBT_MARKET_EXCL_Q (Z : State) (w_DEMAND_BID : Addr) (w_DECREMENT_BID : Addr) (w_METERED_LOAD : Addr) (w_EXTERNAL_SALE : Addr) (w_IBT_LOAD : Addr) (w_SUPPLY_OFFER : Addr) (w_INCREMENT_OFFER : Addr) (w_METERED_GENERATION : Addr) (w_EXTERNAL_PURCHASE : Addr) (w_IBT_MARKET : Addr) (w_IBT_MARKET_EXCL : Addr) (h0 : Heap) (n0 : Nat) (v : Option Value) (h : Heap) (L : List Loc) : Prop := v = some (.int 1) ∧ Fr n0 L ∧ h = h0
set_option maxRecDepth 65536 in
set_option maxHeartbeats 40000000 in
theorem own_m_IBT_MARKET_EXCL (l : Launch) (Z : State) (a0 : Array Value) (hw : ∀ d ∈ tables_1, d.before a0 Z = true) (ws : List Jvm.Cond) (w_DEMAND_BID : Addr) (w_DECREMENT_BID : Addr) (w_METERED_LOAD : Addr) (w_EXTERNAL_SALE : Addr) (w_IBT_LOAD : Addr) (w_SUPPLY_OFFER : Addr) (w_INCREMENT_OFFER : Addr) (w_METERED_GENERATION : Addr) (w_EXTERNAL_PURCHASE : Addr) (w_IBT_MARKET : Addr) (w_IBT_MARKET_EXCL : Addr) (h0 : Heap) (n0 : Nat) (O0 : Old Z n0 h0) (U_DEMAND_BID : own_En Z Z.heap "com/example/holdfast/holdfast/PositionKind" "DEMAND_BID" "Lcom/example/holdfast/holdfast/PositionKind;" w_DEMAND_BID (0 : Int32)) (U_DECREMENT_BID : own_En Z Z.heap "com/example/holdfast/holdfast/PositionKind" "DECREMENT_BID" "Lcom/example/holdfast/holdfast/PositionKind;" w_DECREMENT_BID (1 : Int32)) (U_METERED_LOAD : own_En Z Z.heap "com/example/holdfast/holdfast/PositionKind" "METERED_LOAD" "Lcom/example/holdfast/holdfast/PositionKind;" w_METERED_LOAD (2 : Int32)) (U_EXTERNAL_SALE : own_En Z Z.heap "com/example/holdfast/holdfast/PositionKind" "EXTERNAL_SALE" "Lcom/example/holdfast/holdfast/PositionKind;" w_EXTERNAL_SALE (3 : Int32)) (U_IBT_LOAD : own_En Z Z.heap "com/example/holdfast/holdfast/PositionKind" "IBT_LOAD" "Lcom/example/holdfast/holdfast/PositionKind;" w_IBT_LOAD (4 : Int32)) (U_SUPPLY_OFFER : own_En Z Z.heap "com/example/holdfast/holdfast/PositionKind" "SUPPLY_OFFER" "Lcom/example/holdfast/holdfast/PositionKind;" w_SUPPLY_OFFER (5 : Int32)) (U_INCREMENT_OFFER : own_En Z Z.heap "com/example/holdfast/holdfast/PositionKind" "INCREMENT_OFFER" "Lcom/example/holdfast/holdfast/PositionKind;" w_INCREMENT_OFFER (6 : Int32)) (U_METERED_GENERATION : own_En Z Z.heap "com/example/holdfast/holdfast/PositionKind" "METERED_GENERATION" "Lcom/example/holdfast/holdfast/PositionKind;" w_METERED_GENERATION (7 : Int32)) (U_EXTERNAL_PURCHASE : own_En Z Z.heap "com/example/holdfast/holdfast/PositionKind" "EXTERNAL_PURCHASE" "Lcom/example/holdfast/holdfast/PositionKind;" w_EXTERNAL_PURCHASE (8 : Int32)) (U_IBT_MARKET : own_En Z Z.heap "com/example/holdfast/holdfast/PositionKind" "IBT_MARKET" "Lcom/example/holdfast/holdfast/PositionKind;" w_IBT_MARKET (9 : Int32)) (U_IBT_MARKET_EXCL : own_En Z Z.heap "com/example/holdfast/holdfast/PositionKind" "IBT_MARKET_EXCL" "Lcom/example/holdfast/holdfast/PositionKind;" w_IBT_MARKET_EXCL (10 : Int32)) :
    MetFree l (⟨"com/example/holdfast/holdfast/PositionKind", "carriesIntoRealTime", "()Z"⟩ : MethodName) (head1 (Jvm.Cond.code (⟨"com/example/holdfast/holdfast/PositionKind", "carriesIntoRealTime", "()Z"⟩ : MethodName) prog_23_method_6_code 1 (some .boolean) :: ws) ({ frames := 0, cells := 0, slots := 0, locals := 0 } : Room)) (fun a U => a = #[(.ref w_IBT_MARKET_EXCL)] ∧ Z.Warmed39 U.vm ∧ U.heap = h0) (fun _ _ _ _ _ => True) (fun _ U o U' => ∃ v L, o = .returned v ∧ own_m_IBT_MARKET_EXCL_Q Z w_DEMAND_BID w_DECREMENT_BID w_METERED_LOAD w_EXTERNAL_SALE w_IBT_LOAD w_SUPPLY_OFFER w_INCREMENT_OFFER w_METERED_GENERATION w_EXTERNAL_PURCHASE w_IBT_MARKET w_IBT_MARKET_EXCL h0 n0 v U'.heap L ∧ FrameEnd U o U' L ({ frames := 0, cells := 0, slots := 0, locals := 0 } : Room).cells ({ frames := 0, cells := 0, slots := 0, locals := 0 } : Room).slots) := by
  refine MetFree.of_bodySF (plainFor_of_name own_pn0) hisR ?_
  intro p e s m args below meth c s₁ Bd hml0 hP hK
  obtain ⟨rfl, hZ, hh⟩ := hP
  have hx := Bd.exec
  have hby := Bd.bytes
  have hml : c.maxLocals = 1 := hml0
  have hown : s.vm.findClass "com/example/holdfast/holdfast/PositionKind" = some m.cls := findClass_of_methodNamed Bd.named
  have hnm := (name_of_methodNamed Bd.named Bd.method).1
  have X0 : Stand p l e ({ frames := 0, cells := 0, slots := 0, locals := 0 } : Room) s m #[(.ref w_IBT_MARKET_EXCL)] below meth c s₁ [] 0 0 := Stand.of_body Bd
  have e0 : s₁.heap = h0 := by rw [← hh, Bd.state]; rfl
  have N0 := Fr.nil n0
  have pre0 : ∀ t, Steps p.tables e below (s₁.setTop (mkF m 0 #[rv w_IBT_MARKET_EXCL] [])) t → Steps p.tables e below (s₁.setTop (entryFrame m #[(.ref w_IBT_MARKET_EXCL)] 1)) t := fun t k => castTop (own_m_IBT_MARKET_EXCL_ef m w_IBT_MARKET_EXCL) k
  obtain ⟨T1, X1, e1, st1⟩ := getS2 X0 hx hZ hown (host := "") (Or.inl (hw _ (List.mem_of_getElem? (i := 13) rfl))) Via.refl e0 (U_IBT_MARKET.1.ext O0.2) (g := (mkF m 1 #[rv w_IBT_MARKET_EXCL] [(.ref w_IBT_MARKET_EXCL)])) rfl (hb hby own_d2_1)
  obtain ⟨T2, X2, e2, st2⟩ := getS2 X1 hx hZ hown (host := "") (Or.inl (hw _ (List.mem_of_getElem? (i := 15) rfl))) Via.refl e1 (U_IBT_MARKET_EXCL.1.ext O0.2) (g := (mkF m 8 #[rv w_IBT_MARKET_EXCL] [(.ref w_IBT_MARKET_EXCL)])) rfl (hb hby own_d2_8)
  obtain ⟨fs, hr, hrun, hended, hW, hsame⟩ := X2.leave (v := some (.int 1)) (fun h => by rw [Bd.returns] at h; cases h)
  refine ⟨_, _, pre0 _ ?_, hrun, hended, _, _, rfl, ?_, ⟨_, rfl⟩, hW, hsame.mono (by decide) (by decide)⟩
  · show Steps p.tables e below (s₁.setTop (mkF m 0 #[rv w_IBT_MARKET_EXCL] [])) _
    refine XS.aloadN X0.here hx rfl (hb hby own_d2_0) rfl rfl ?_
    show Steps p.tables e below (s₁.setTop (mkF m 1 #[rv w_IBT_MARKET_EXCL] [(.ref w_IBT_MARKET_EXCL)])) _
    refine st1 _ ?_
    show Steps p.tables e below (T1.setTop (mkF m 4 #[rv w_IBT_MARKET_EXCL] [(.ref w_IBT_MARKET), (.ref w_IBT_MARKET_EXCL)])) _
    refine Jvm.RoadKit.acmp (g := (mkF m 4 #[rv w_IBT_MARKET_EXCL] [(.ref w_IBT_MARKET), (.ref w_IBT_MARKET_EXCL)])) X1 hx rfl rfl rfl (pc0 := 4) (pc' := 7) (same := false) rfl (hb hby own_d2_4) rfl (decide_eq_false fun q => (Ne.symm (Fld.ne U_IBT_MARKET.2.2 U_IBT_MARKET_EXCL.2.2 (by decide))) (Value.ref.inj q)) (by decide) (by decide) ?_
    show Steps p.tables e below (T1.setTop (mkF m 7 #[rv w_IBT_MARKET_EXCL] [])) _
    refine XS.aloadN X1.here hx rfl (hb hby own_d2_7) rfl rfl ?_
    show Steps p.tables e below (T1.setTop (mkF m 8 #[rv w_IBT_MARKET_EXCL] [(.ref w_IBT_MARKET_EXCL)])) _
    refine st2 _ ?_
    show Steps p.tables e below (T2.setTop (mkF m 11 #[rv w_IBT_MARKET_EXCL] [(.ref w_IBT_MARKET_EXCL), (.ref w_IBT_MARKET_EXCL)])) _
    refine Jvm.RoadKit.acmp (g := (mkF m 11 #[rv w_IBT_MARKET_EXCL] [(.ref w_IBT_MARKET_EXCL), (.ref w_IBT_MARKET_EXCL)])) X2 hx rfl rfl rfl (pc0 := 11) (pc' := 14) (same := true) rfl (hb hby own_d2_11) rfl (decide_eq_true rfl) (by decide) (by decide) ?_
    show Steps p.tables e below (T2.setTop (mkF m 14 #[rv w_IBT_MARKET_EXCL] [])) _
    refine XS.iconst X2.here hx rfl (hb hby own_d2_14) ?_
    show Steps p.tables e below (T2.setTop (mkF m 15 #[rv w_IBT_MARKET_EXCL] [(.int 1)])) _
    refine XS.goto X2.here hx rfl (pc0 := 15) (pc' := 19) rfl (hb hby own_d2_15) (by decide) (by decide) ?_
    show Steps p.tables e below (T2.setTop (mkF m 19 #[rv w_IBT_MARKET_EXCL] [(.int 1)])) _
    exact retN X2 hx (t := .boolean) Bd.returns (by simp) (hb hby own_d2_19) hr
  · show own_m_IBT_MARKET_EXCL_Q Z w_DEMAND_BID w_DECREMENT_BID w_METERED_LOAD w_EXTERNAL_SALE w_IBT_LOAD w_SUPPLY_OFFER w_INCREMENT_OFFER w_METERED_GENERATION w_EXTERNAL_PURCHASE w_IBT_MARKET w_IBT_MARKET_EXCL h0 n0 _ T2.heap _
    rw [e2]
    exact ⟨rfl, N0, rfl⟩
theorem own_p_0_ef (m : MethodId)  : entryFrame m #[(.int 0)] 1 = mkF m 0 #[iv 0] [] := by first | (simp [entryFrame, mkF, argsToLocals, Value.category]; done) | rfl
def own_p_0_Q (Z : State) (w_DEMAND_BID : Addr) (w_DECREMENT_BID : Addr) (w_METERED_LOAD : Addr) (w_EXTERNAL_SALE : Addr) (w_IBT_LOAD : Addr) (w_SUPPLY_OFFER : Addr) (w_INCREMENT_OFFER : Addr) (w_METERED_GENERATION : Addr) (w_EXTERNAL_PURCHASE : Addr) (w_IBT_MARKET : Addr) (w_IBT_MARKET_EXCL : Addr) (h0 : Heap) (n0 : Nat) (v : Option Value) (h : Heap) (L : List Loc) : Prop := v = some (.ref w_DEMAND_BID) ∧ Fr n0 L ∧ h = h0
set_option maxRecDepth 65536 in
set_option maxHeartbeats 40000000 in
theorem own_p_0 (l : Launch) (Z : State) (a0 : Array Value) (hw : ∀ d ∈ tables_1, d.before a0 Z = true) (ws : List Jvm.Cond) (w_DEMAND_BID : Addr) (w_DECREMENT_BID : Addr) (w_METERED_LOAD : Addr) (w_EXTERNAL_SALE : Addr) (w_IBT_LOAD : Addr) (w_SUPPLY_OFFER : Addr) (w_INCREMENT_OFFER : Addr) (w_METERED_GENERATION : Addr) (w_EXTERNAL_PURCHASE : Addr) (w_IBT_MARKET : Addr) (w_IBT_MARKET_EXCL : Addr) (h0 : Heap) (n0 : Nat) (O0 : Old Z n0 h0) (U_DEMAND_BID : own_En Z Z.heap "com/example/holdfast/holdfast/PositionKind" "DEMAND_BID" "Lcom/example/holdfast/holdfast/PositionKind;" w_DEMAND_BID (0 : Int32)) (U_DECREMENT_BID : own_En Z Z.heap "com/example/holdfast/holdfast/PositionKind" "DECREMENT_BID" "Lcom/example/holdfast/holdfast/PositionKind;" w_DECREMENT_BID (1 : Int32)) (U_METERED_LOAD : own_En Z Z.heap "com/example/holdfast/holdfast/PositionKind" "METERED_LOAD" "Lcom/example/holdfast/holdfast/PositionKind;" w_METERED_LOAD (2 : Int32)) (U_EXTERNAL_SALE : own_En Z Z.heap "com/example/holdfast/holdfast/PositionKind" "EXTERNAL_SALE" "Lcom/example/holdfast/holdfast/PositionKind;" w_EXTERNAL_SALE (3 : Int32)) (U_IBT_LOAD : own_En Z Z.heap "com/example/holdfast/holdfast/PositionKind" "IBT_LOAD" "Lcom/example/holdfast/holdfast/PositionKind;" w_IBT_LOAD (4 : Int32)) (U_SUPPLY_OFFER : own_En Z Z.heap "com/example/holdfast/holdfast/PositionKind" "SUPPLY_OFFER" "Lcom/example/holdfast/holdfast/PositionKind;" w_SUPPLY_OFFER (5 : Int32)) (U_INCREMENT_OFFER : own_En Z Z.heap "com/example/holdfast/holdfast/PositionKind" "INCREMENT_OFFER" "Lcom/example/holdfast/holdfast/PositionKind;" w_INCREMENT_OFFER (6 : Int32)) (U_METERED_GENERATION : own_En Z Z.heap "com/example/holdfast/holdfast/PositionKind" "METERED_GENERATION" "Lcom/example/holdfast/holdfast/PositionKind;" w_METERED_GENERATION (7 : Int32)) (U_EXTERNAL_PURCHASE : own_En Z Z.heap "com/example/holdfast/holdfast/PositionKind" "EXTERNAL_PURCHASE" "Lcom/example/holdfast/holdfast/PositionKind;" w_EXTERNAL_PURCHASE (8 : Int32)) (U_IBT_MARKET : own_En Z Z.heap "com/example/holdfast/holdfast/PositionKind" "IBT_MARKET" "Lcom/example/holdfast/holdfast/PositionKind;" w_IBT_MARKET (9 : Int32)) (U_IBT_MARKET_EXCL : own_En Z Z.heap "com/example/holdfast/holdfast/PositionKind" "IBT_MARKET_EXCL" "Lcom/example/holdfast/holdfast/PositionKind;" w_IBT_MARKET_EXCL (10 : Int32)) :
    MetFree l (⟨"com/example/holdfast/holdfast/PositionKindCarriesIntoRealTimePinLaw", "kindAt", "(I)Lcom/example/holdfast/holdfast/PositionKind;"⟩ : MethodName) (head1 (Jvm.Cond.code (⟨"com/example/holdfast/holdfast/PositionKindCarriesIntoRealTimePinLaw", "kindAt", "(I)Lcom/example/holdfast/holdfast/PositionKind;"⟩ : MethodName) method_2_code 1 (some (.object "com/example/holdfast/holdfast/PositionKind")) :: ws) ({ frames := 0, cells := 0, slots := 0, locals := 0 } : Room)) (fun a U => a = #[(.int 0)] ∧ Z.Warmed39 U.vm ∧ U.heap = h0) (fun _ _ _ _ _ => True) (fun _ U o U' => ∃ v L, o = .returned v ∧ own_p_0_Q Z w_DEMAND_BID w_DECREMENT_BID w_METERED_LOAD w_EXTERNAL_SALE w_IBT_LOAD w_SUPPLY_OFFER w_INCREMENT_OFFER w_METERED_GENERATION w_EXTERNAL_PURCHASE w_IBT_MARKET w_IBT_MARKET_EXCL h0 n0 v U'.heap L ∧ FrameEnd U o U' L ({ frames := 0, cells := 0, slots := 0, locals := 0 } : Room).cells ({ frames := 0, cells := 0, slots := 0, locals := 0 } : Room).slots) := by
  refine MetFree.of_bodySF (plainFor_of_name own_pn1) hisR ?_
  intro p e s m args below meth c s₁ Bd hml0 hP hK
  obtain ⟨rfl, hZ, hh⟩ := hP
  have hx := Bd.exec
  have hby := Bd.bytes
  have hml : c.maxLocals = 1 := hml0
  have hown : s.vm.findClass "com/example/holdfast/holdfast/PositionKindCarriesIntoRealTimePinLaw" = some m.cls := findClass_of_methodNamed Bd.named
  have hnm := (name_of_methodNamed Bd.named Bd.method).1
  have X0 : Stand p l e ({ frames := 0, cells := 0, slots := 0, locals := 0 } : Room) s m #[(.int 0)] below meth c s₁ [] 0 0 := Stand.of_body Bd
  have e0 : s₁.heap = h0 := by rw [← hh, Bd.state]; rfl
  have N0 := Fr.nil n0
  have pre0 : ∀ t, Steps p.tables e below (s₁.setTop (mkF m 0 #[iv 0] [])) t → Steps p.tables e below (s₁.setTop (entryFrame m #[(.int 0)] 1)) t := fun t k => castTop (own_p_0_ef m ) k
  obtain ⟨T1, X1, e1, st1⟩ := getS2 X0 hx hZ hown (host := "") (Or.inl (hw _ (List.mem_of_getElem? (i := 5) rfl))) Via.refl e0 (U_DEMAND_BID.1.ext O0.2) (g := (mkF m 4 #[iv 0] [])) rfl (hb hby own_d1_4)
  obtain ⟨fs, hr, hrun, hended, hW, hsame⟩ := X1.leave (v := some (.ref w_DEMAND_BID)) (fun h => by rw [Bd.returns] at h; cases h)
  refine ⟨_, _, pre0 _ ?_, hrun, hended, _, _, rfl, ?_, ⟨_, rfl⟩, hW, hsame.mono (by decide) (by decide)⟩
  · show Steps p.tables e below (s₁.setTop (mkF m 0 #[iv 0] [])) _
    refine XS.iloadN X0.here hx rfl (hb hby own_d1_0) rfl ?_
    show Steps p.tables e below (s₁.setTop (mkF m 1 #[iv 0] [(.int 0)])) _
    refine XS.ifNo X0.here hx rfl (hb hby own_d1_1) rfl ((if0 _ _).trans (teq (by decide)).2) ?_
    show Steps p.tables e below (s₁.setTop (mkF m 4 #[iv 0] [])) _
    refine st1 _ ?_
    show Steps p.tables e below (T1.setTop (mkF m 7 #[iv 0] [(.ref w_DEMAND_BID)])) _
    jvm_step X1.here [X1.here.top, hx, (hb hby own_d1_7), X1.method', Bd.returns, Value.isRef, FieldType.isReference]
    first | (intro acts; rw [hr _ acts rfl rfl rfl]) | rw [hr _ _ rfl rfl rfl]
    exact Steps.refl _
  · show own_p_0_Q Z w_DEMAND_BID w_DECREMENT_BID w_METERED_LOAD w_EXTERNAL_SALE w_IBT_LOAD w_SUPPLY_OFFER w_INCREMENT_OFFER w_METERED_GENERATION w_EXTERNAL_PURCHASE w_IBT_MARKET w_IBT_MARKET_EXCL h0 n0 _ T1.heap _
    rw [e1]
    exact ⟨rfl, N0, rfl⟩
theorem own_p_1_ef (m : MethodId)  : entryFrame m #[(.int 1)] 1 = mkF m 0 #[iv 1] [] := by first | (simp [entryFrame, mkF, argsToLocals, Value.category]; done) | rfl
def own_p_1_Q (Z : State) (w_DEMAND_BID : Addr) (w_DECREMENT_BID : Addr) (w_METERED_LOAD : Addr) (w_EXTERNAL_SALE : Addr) (w_IBT_LOAD : Addr) (w_SUPPLY_OFFER : Addr) (w_INCREMENT_OFFER : Addr) (w_METERED_GENERATION : Addr) (w_EXTERNAL_PURCHASE : Addr) (w_IBT_MARKET : Addr) (w_IBT_MARKET_EXCL : Addr) (h0 : Heap) (n0 : Nat) (v : Option Value) (h : Heap) (L : List Loc) : Prop := v = some (.ref w_DECREMENT_BID) ∧ Fr n0 L ∧ h = h0
set_option maxRecDepth 65536 in
set_option maxHeartbeats 40000000 in
theorem own_p_1 (l : Launch) (Z : State) (a0 : Array Value) (hw : ∀ d ∈ tables_1, d.before a0 Z = true) (ws : List Jvm.Cond) (w_DEMAND_BID : Addr) (w_DECREMENT_BID : Addr) (w_METERED_LOAD : Addr) (w_EXTERNAL_SALE : Addr) (w_IBT_LOAD : Addr) (w_SUPPLY_OFFER : Addr) (w_INCREMENT_OFFER : Addr) (w_METERED_GENERATION : Addr) (w_EXTERNAL_PURCHASE : Addr) (w_IBT_MARKET : Addr) (w_IBT_MARKET_EXCL : Addr) (h0 : Heap) (n0 : Nat) (O0 : Old Z n0 h0) (U_DEMAND_BID : own_En Z Z.heap "com/example/holdfast/holdfast/PositionKind" "DEMAND_BID" "Lcom/example/holdfast/holdfast/PositionKind;" w_DEMAND_BID (0 : Int32)) (U_DECREMENT_BID : own_En Z Z.heap "com/example/holdfast/holdfast/PositionKind" "DECREMENT_BID" "Lcom/example/holdfast/holdfast/PositionKind;" w_DECREMENT_BID (1 : Int32)) (U_METERED_LOAD : own_En Z Z.heap "com/example/holdfast/holdfast/PositionKind" "METERED_LOAD" "Lcom/example/holdfast/holdfast/PositionKind;" w_METERED_LOAD (2 : Int32)) (U_EXTERNAL_SALE : own_En Z Z.heap "com/example/holdfast/holdfast/PositionKind" "EXTERNAL_SALE" "Lcom/example/holdfast/holdfast/PositionKind;" w_EXTERNAL_SALE (3 : Int32)) (U_IBT_LOAD : own_En Z Z.heap "com/example/holdfast/holdfast/PositionKind" "IBT_LOAD" "Lcom/example/holdfast/holdfast/PositionKind;" w_IBT_LOAD (4 : Int32)) (U_SUPPLY_OFFER : own_En Z Z.heap "com/example/holdfast/holdfast/PositionKind" "SUPPLY_OFFER" "Lcom/example/holdfast/holdfast/PositionKind;" w_SUPPLY_OFFER (5 : Int32)) (U_INCREMENT_OFFER : own_En Z Z.heap "com/example/holdfast/holdfast/PositionKind" "INCREMENT_OFFER" "Lcom/example/holdfast/holdfast/PositionKind;" w_INCREMENT_OFFER (6 : Int32)) (U_METERED_GENERATION : own_En Z Z.heap "com/example/holdfast/holdfast/PositionKind" "METERED_GENERATION" "Lcom/example/holdfast/holdfast/PositionKind;" w_METERED_GENERATION (7 : Int32)) (U_EXTERNAL_PURCHASE : own_En Z Z.heap "com/example/holdfast/holdfast/PositionKind" "EXTERNAL_PURCHASE" "Lcom/example/holdfast/holdfast/PositionKind;" w_EXTERNAL_PURCHASE (8 : Int32)) (U_IBT_MARKET : own_En Z Z.heap "com/example/holdfast/holdfast/PositionKind" "IBT_MARKET" "Lcom/example/holdfast/holdfast/PositionKind;" w_IBT_MARKET (9 : Int32)) (U_IBT_MARKET_EXCL : own_En Z Z.heap "com/example/holdfast/holdfast/PositionKind" "IBT_MARKET_EXCL" "Lcom/example/holdfast/holdfast/PositionKind;" w_IBT_MARKET_EXCL (10 : Int32)) :
    MetFree l (⟨"com/example/holdfast/holdfast/PositionKindCarriesIntoRealTimePinLaw", "kindAt", "(I)Lcom/example/holdfast/holdfast/PositionKind;"⟩ : MethodName) (head1 (Jvm.Cond.code (⟨"com/example/holdfast/holdfast/PositionKindCarriesIntoRealTimePinLaw", "kindAt", "(I)Lcom/example/holdfast/holdfast/PositionKind;"⟩ : MethodName) method_2_code 1 (some (.object "com/example/holdfast/holdfast/PositionKind")) :: ws) ({ frames := 0, cells := 0, slots := 0, locals := 0 } : Room)) (fun a U => a = #[(.int 1)] ∧ Z.Warmed39 U.vm ∧ U.heap = h0) (fun _ _ _ _ _ => True) (fun _ U o U' => ∃ v L, o = .returned v ∧ own_p_1_Q Z w_DEMAND_BID w_DECREMENT_BID w_METERED_LOAD w_EXTERNAL_SALE w_IBT_LOAD w_SUPPLY_OFFER w_INCREMENT_OFFER w_METERED_GENERATION w_EXTERNAL_PURCHASE w_IBT_MARKET w_IBT_MARKET_EXCL h0 n0 v U'.heap L ∧ FrameEnd U o U' L ({ frames := 0, cells := 0, slots := 0, locals := 0 } : Room).cells ({ frames := 0, cells := 0, slots := 0, locals := 0 } : Room).slots) := by
  refine MetFree.of_bodySF (plainFor_of_name own_pn1) hisR ?_
  intro p e s m args below meth c s₁ Bd hml0 hP hK
  obtain ⟨rfl, hZ, hh⟩ := hP
  have hx := Bd.exec
  have hby := Bd.bytes
  have hml : c.maxLocals = 1 := hml0
  have hown : s.vm.findClass "com/example/holdfast/holdfast/PositionKindCarriesIntoRealTimePinLaw" = some m.cls := findClass_of_methodNamed Bd.named
  have hnm := (name_of_methodNamed Bd.named Bd.method).1
  have X0 : Stand p l e ({ frames := 0, cells := 0, slots := 0, locals := 0 } : Room) s m #[(.int 1)] below meth c s₁ [] 0 0 := Stand.of_body Bd
  have e0 : s₁.heap = h0 := by rw [← hh, Bd.state]; rfl
  have N0 := Fr.nil n0
  have pre0 : ∀ t, Steps p.tables e below (s₁.setTop (mkF m 0 #[iv 1] [])) t → Steps p.tables e below (s₁.setTop (entryFrame m #[(.int 1)] 1)) t := fun t k => castTop (own_p_1_ef m ) k
  obtain ⟨T1, X1, e1, st1⟩ := getS2 X0 hx hZ hown (host := "") (Or.inl (hw _ (List.mem_of_getElem? (i := 26) rfl))) Via.refl e0 (U_DECREMENT_BID.1.ext O0.2) (g := (mkF m 13 #[iv 1] [])) rfl (hb hby own_d1_13)
  obtain ⟨fs, hr, hrun, hended, hW, hsame⟩ := X1.leave (v := some (.ref w_DECREMENT_BID)) (fun h => by rw [Bd.returns] at h; cases h)
  refine ⟨_, _, pre0 _ ?_, hrun, hended, _, _, rfl, ?_, ⟨_, rfl⟩, hW, hsame.mono (by decide) (by decide)⟩
  · show Steps p.tables e below (s₁.setTop (mkF m 0 #[iv 1] [])) _
    refine XS.iloadN X0.here hx rfl (hb hby own_d1_0) rfl ?_
    show Steps p.tables e below (s₁.setTop (mkF m 1 #[iv 1] [(.int 1)])) _
    refine XS.ifYes X0.here hx rfl (pc0 := 1) (pc' := 8) rfl (hb hby own_d1_1) rfl ((if0 _ _).trans (feq (by decide)).2) (by decide) (by decide) ?_
    show Steps p.tables e below (s₁.setTop (mkF m 8 #[iv 1] [])) _
    refine XS.iloadN X0.here hx rfl (hb hby own_d1_8) rfl ?_
    show Steps p.tables e below (s₁.setTop (mkF m 9 #[iv 1] [(.int 1)])) _
    refine XS.iconst X0.here hx rfl (hb hby own_d1_9) ?_
    show Steps p.tables e below (s₁.setTop (mkF m 10 #[iv 1] [(.int 1), (.int 1)])) _
    refine XS.icmpNo X0.here hx rfl (hb hby own_d1_10) rfl (teq (by decide)).2 ?_
    show Steps p.tables e below (s₁.setTop (mkF m 13 #[iv 1] [])) _
    refine st1 _ ?_
    show Steps p.tables e below (T1.setTop (mkF m 16 #[iv 1] [(.ref w_DECREMENT_BID)])) _
    jvm_step X1.here [X1.here.top, hx, (hb hby own_d1_16), X1.method', Bd.returns, Value.isRef, FieldType.isReference]
    first | (intro acts; rw [hr _ acts rfl rfl rfl]) | rw [hr _ _ rfl rfl rfl]
    exact Steps.refl _
  · show own_p_1_Q Z w_DEMAND_BID w_DECREMENT_BID w_METERED_LOAD w_EXTERNAL_SALE w_IBT_LOAD w_SUPPLY_OFFER w_INCREMENT_OFFER w_METERED_GENERATION w_EXTERNAL_PURCHASE w_IBT_MARKET w_IBT_MARKET_EXCL h0 n0 _ T1.heap _
    rw [e1]
    exact ⟨rfl, N0, rfl⟩
theorem own_p_2_ef (m : MethodId)  : entryFrame m #[(.int 2)] 1 = mkF m 0 #[iv 2] [] := by first | (simp [entryFrame, mkF, argsToLocals, Value.category]; done) | rfl
def own_p_2_Q (Z : State) (w_DEMAND_BID : Addr) (w_DECREMENT_BID : Addr) (w_METERED_LOAD : Addr) (w_EXTERNAL_SALE : Addr) (w_IBT_LOAD : Addr) (w_SUPPLY_OFFER : Addr) (w_INCREMENT_OFFER : Addr) (w_METERED_GENERATION : Addr) (w_EXTERNAL_PURCHASE : Addr) (w_IBT_MARKET : Addr) (w_IBT_MARKET_EXCL : Addr) (h0 : Heap) (n0 : Nat) (v : Option Value) (h : Heap) (L : List Loc) : Prop := v = some (.ref w_METERED_LOAD) ∧ Fr n0 L ∧ h = h0
set_option maxRecDepth 65536 in
set_option maxHeartbeats 40000000 in
theorem own_p_2 (l : Launch) (Z : State) (a0 : Array Value) (hw : ∀ d ∈ tables_1, d.before a0 Z = true) (ws : List Jvm.Cond) (w_DEMAND_BID : Addr) (w_DECREMENT_BID : Addr) (w_METERED_LOAD : Addr) (w_EXTERNAL_SALE : Addr) (w_IBT_LOAD : Addr) (w_SUPPLY_OFFER : Addr) (w_INCREMENT_OFFER : Addr) (w_METERED_GENERATION : Addr) (w_EXTERNAL_PURCHASE : Addr) (w_IBT_MARKET : Addr) (w_IBT_MARKET_EXCL : Addr) (h0 : Heap) (n0 : Nat) (O0 : Old Z n0 h0) (U_DEMAND_BID : own_En Z Z.heap "com/example/holdfast/holdfast/PositionKind" "DEMAND_BID" "Lcom/example/holdfast/holdfast/PositionKind;" w_DEMAND_BID (0 : Int32)) (U_DECREMENT_BID : own_En Z Z.heap "com/example/holdfast/holdfast/PositionKind" "DECREMENT_BID" "Lcom/example/holdfast/holdfast/PositionKind;" w_DECREMENT_BID (1 : Int32)) (U_METERED_LOAD : own_En Z Z.heap "com/example/holdfast/holdfast/PositionKind" "METERED_LOAD" "Lcom/example/holdfast/holdfast/PositionKind;" w_METERED_LOAD (2 : Int32)) (U_EXTERNAL_SALE : own_En Z Z.heap "com/example/holdfast/holdfast/PositionKind" "EXTERNAL_SALE" "Lcom/example/holdfast/holdfast/PositionKind;" w_EXTERNAL_SALE (3 : Int32)) (U_IBT_LOAD : own_En Z Z.heap "com/example/holdfast/holdfast/PositionKind" "IBT_LOAD" "Lcom/example/holdfast/holdfast/PositionKind;" w_IBT_LOAD (4 : Int32)) (U_SUPPLY_OFFER : own_En Z Z.heap "com/example/holdfast/holdfast/PositionKind" "SUPPLY_OFFER" "Lcom/example/holdfast/holdfast/PositionKind;" w_SUPPLY_OFFER (5 : Int32)) (U_INCREMENT_OFFER : own_En Z Z.heap "com/example/holdfast/holdfast/PositionKind" "INCREMENT_OFFER" "Lcom/example/holdfast/holdfast/PositionKind;" w_INCREMENT_OFFER (6 : Int32)) (U_METERED_GENERATION : own_En Z Z.heap "com/example/holdfast/holdfast/PositionKind" "METERED_GENERATION" "Lcom/example/holdfast/holdfast/PositionKind;" w_METERED_GENERATION (7 : Int32)) (U_EXTERNAL_PURCHASE : own_En Z Z.heap "com/example/holdfast/holdfast/PositionKind" "EXTERNAL_PURCHASE" "Lcom/example/holdfast/holdfast/PositionKind;" w_EXTERNAL_PURCHASE (8 : Int32)) (U_IBT_MARKET : own_En Z Z.heap "com/example/holdfast/holdfast/PositionKind" "IBT_MARKET" "Lcom/example/holdfast/holdfast/PositionKind;" w_IBT_MARKET (9 : Int32)) (U_IBT_MARKET_EXCL : own_En Z Z.heap "com/example/holdfast/holdfast/PositionKind" "IBT_MARKET_EXCL" "Lcom/example/holdfast/holdfast/PositionKind;" w_IBT_MARKET_EXCL (10 : Int32)) :
    MetFree l (⟨"com/example/holdfast/holdfast/PositionKindCarriesIntoRealTimePinLaw", "kindAt", "(I)Lcom/example/holdfast/holdfast/PositionKind;"⟩ : MethodName) (head1 (Jvm.Cond.code (⟨"com/example/holdfast/holdfast/PositionKindCarriesIntoRealTimePinLaw", "kindAt", "(I)Lcom/example/holdfast/holdfast/PositionKind;"⟩ : MethodName) method_2_code 1 (some (.object "com/example/holdfast/holdfast/PositionKind")) :: ws) ({ frames := 0, cells := 0, slots := 0, locals := 0 } : Room)) (fun a U => a = #[(.int 2)] ∧ Z.Warmed39 U.vm ∧ U.heap = h0) (fun _ _ _ _ _ => True) (fun _ U o U' => ∃ v L, o = .returned v ∧ own_p_2_Q Z w_DEMAND_BID w_DECREMENT_BID w_METERED_LOAD w_EXTERNAL_SALE w_IBT_LOAD w_SUPPLY_OFFER w_INCREMENT_OFFER w_METERED_GENERATION w_EXTERNAL_PURCHASE w_IBT_MARKET w_IBT_MARKET_EXCL h0 n0 v U'.heap L ∧ FrameEnd U o U' L ({ frames := 0, cells := 0, slots := 0, locals := 0 } : Room).cells ({ frames := 0, cells := 0, slots := 0, locals := 0 } : Room).slots) := by
  refine MetFree.of_bodySF (plainFor_of_name own_pn1) hisR ?_
  intro p e s m args below meth c s₁ Bd hml0 hP hK
  obtain ⟨rfl, hZ, hh⟩ := hP
  have hx := Bd.exec
  have hby := Bd.bytes
  have hml : c.maxLocals = 1 := hml0
  have hown : s.vm.findClass "com/example/holdfast/holdfast/PositionKindCarriesIntoRealTimePinLaw" = some m.cls := findClass_of_methodNamed Bd.named
  have hnm := (name_of_methodNamed Bd.named Bd.method).1
  have X0 : Stand p l e ({ frames := 0, cells := 0, slots := 0, locals := 0 } : Room) s m #[(.int 2)] below meth c s₁ [] 0 0 := Stand.of_body Bd
  have e0 : s₁.heap = h0 := by rw [← hh, Bd.state]; rfl
  have N0 := Fr.nil n0
  have pre0 : ∀ t, Steps p.tables e below (s₁.setTop (mkF m 0 #[iv 2] [])) t → Steps p.tables e below (s₁.setTop (entryFrame m #[(.int 2)] 1)) t := fun t k => castTop (own_p_2_ef m ) k
  obtain ⟨T1, X1, e1, st1⟩ := getS2 X0 hx hZ hown (host := "") (Or.inl (hw _ (List.mem_of_getElem? (i := 23) rfl))) Via.refl e0 (U_METERED_LOAD.1.ext O0.2) (g := (mkF m 22 #[iv 2] [])) rfl (hb hby own_d1_22)
  obtain ⟨fs, hr, hrun, hended, hW, hsame⟩ := X1.leave (v := some (.ref w_METERED_LOAD)) (fun h => by rw [Bd.returns] at h; cases h)
  refine ⟨_, _, pre0 _ ?_, hrun, hended, _, _, rfl, ?_, ⟨_, rfl⟩, hW, hsame.mono (by decide) (by decide)⟩
  · show Steps p.tables e below (s₁.setTop (mkF m 0 #[iv 2] [])) _
    refine XS.iloadN X0.here hx rfl (hb hby own_d1_0) rfl ?_
    show Steps p.tables e below (s₁.setTop (mkF m 1 #[iv 2] [(.int 2)])) _
    refine XS.ifYes X0.here hx rfl (pc0 := 1) (pc' := 8) rfl (hb hby own_d1_1) rfl ((if0 _ _).trans (feq (by decide)).2) (by decide) (by decide) ?_
    show Steps p.tables e below (s₁.setTop (mkF m 8 #[iv 2] [])) _
    refine XS.iloadN X0.here hx rfl (hb hby own_d1_8) rfl ?_
    show Steps p.tables e below (s₁.setTop (mkF m 9 #[iv 2] [(.int 2)])) _
    refine XS.iconst X0.here hx rfl (hb hby own_d1_9) ?_
    show Steps p.tables e below (s₁.setTop (mkF m 10 #[iv 2] [(.int 1), (.int 2)])) _
    refine XS.icmpYes X0.here hx rfl (pc0 := 10) (pc' := 17) rfl (hb hby own_d1_10) rfl (feq (by decide)).2 (by decide) (by decide) ?_
    show Steps p.tables e below (s₁.setTop (mkF m 17 #[iv 2] [])) _
    refine XS.iloadN X0.here hx rfl (hb hby own_d1_17) rfl ?_
    show Steps p.tables e below (s₁.setTop (mkF m 18 #[iv 2] [(.int 2)])) _
    refine XS.iconst X0.here hx rfl (hb hby own_d1_18) ?_
    show Steps p.tables e below (s₁.setTop (mkF m 19 #[iv 2] [(.int 2), (.int 2)])) _
    refine XS.icmpNo X0.here hx rfl (hb hby own_d1_19) rfl (teq (by decide)).2 ?_
    show Steps p.tables e below (s₁.setTop (mkF m 22 #[iv 2] [])) _
    refine st1 _ ?_
    show Steps p.tables e below (T1.setTop (mkF m 25 #[iv 2] [(.ref w_METERED_LOAD)])) _
    jvm_step X1.here [X1.here.top, hx, (hb hby own_d1_25), X1.method', Bd.returns, Value.isRef, FieldType.isReference]
    first | (intro acts; rw [hr _ acts rfl rfl rfl]) | rw [hr _ _ rfl rfl rfl]
    exact Steps.refl _
  · show own_p_2_Q Z w_DEMAND_BID w_DECREMENT_BID w_METERED_LOAD w_EXTERNAL_SALE w_IBT_LOAD w_SUPPLY_OFFER w_INCREMENT_OFFER w_METERED_GENERATION w_EXTERNAL_PURCHASE w_IBT_MARKET w_IBT_MARKET_EXCL h0 n0 _ T1.heap _
    rw [e1]
    exact ⟨rfl, N0, rfl⟩
theorem own_p_3_ef (m : MethodId)  : entryFrame m #[(.int 3)] 1 = mkF m 0 #[iv 3] [] := by first | (simp [entryFrame, mkF, argsToLocals, Value.category]; done) | rfl
def own_p_3_Q (Z : State) (w_DEMAND_BID : Addr) (w_DECREMENT_BID : Addr) (w_METERED_LOAD : Addr) (w_EXTERNAL_SALE : Addr) (w_IBT_LOAD : Addr) (w_SUPPLY_OFFER : Addr) (w_INCREMENT_OFFER : Addr) (w_METERED_GENERATION : Addr) (w_EXTERNAL_PURCHASE : Addr) (w_IBT_MARKET : Addr) (w_IBT_MARKET_EXCL : Addr) (h0 : Heap) (n0 : Nat) (v : Option Value) (h : Heap) (L : List Loc) : Prop := v = some (.ref w_EXTERNAL_SALE) ∧ Fr n0 L ∧ h = h0
set_option maxRecDepth 65536 in
set_option maxHeartbeats 40000000 in
theorem own_p_3 (l : Launch) (Z : State) (a0 : Array Value) (hw : ∀ d ∈ tables_1, d.before a0 Z = true) (ws : List Jvm.Cond) (w_DEMAND_BID : Addr) (w_DECREMENT_BID : Addr) (w_METERED_LOAD : Addr) (w_EXTERNAL_SALE : Addr) (w_IBT_LOAD : Addr) (w_SUPPLY_OFFER : Addr) (w_INCREMENT_OFFER : Addr) (w_METERED_GENERATION : Addr) (w_EXTERNAL_PURCHASE : Addr) (w_IBT_MARKET : Addr) (w_IBT_MARKET_EXCL : Addr) (h0 : Heap) (n0 : Nat) (O0 : Old Z n0 h0) (U_DEMAND_BID : own_En Z Z.heap "com/example/holdfast/holdfast/PositionKind" "DEMAND_BID" "Lcom/example/holdfast/holdfast/PositionKind;" w_DEMAND_BID (0 : Int32)) (U_DECREMENT_BID : own_En Z Z.heap "com/example/holdfast/holdfast/PositionKind" "DECREMENT_BID" "Lcom/example/holdfast/holdfast/PositionKind;" w_DECREMENT_BID (1 : Int32)) (U_METERED_LOAD : own_En Z Z.heap "com/example/holdfast/holdfast/PositionKind" "METERED_LOAD" "Lcom/example/holdfast/holdfast/PositionKind;" w_METERED_LOAD (2 : Int32)) (U_EXTERNAL_SALE : own_En Z Z.heap "com/example/holdfast/holdfast/PositionKind" "EXTERNAL_SALE" "Lcom/example/holdfast/holdfast/PositionKind;" w_EXTERNAL_SALE (3 : Int32)) (U_IBT_LOAD : own_En Z Z.heap "com/example/holdfast/holdfast/PositionKind" "IBT_LOAD" "Lcom/example/holdfast/holdfast/PositionKind;" w_IBT_LOAD (4 : Int32)) (U_SUPPLY_OFFER : own_En Z Z.heap "com/example/holdfast/holdfast/PositionKind" "SUPPLY_OFFER" "Lcom/example/holdfast/holdfast/PositionKind;" w_SUPPLY_OFFER (5 : Int32)) (U_INCREMENT_OFFER : own_En Z Z.heap "com/example/holdfast/holdfast/PositionKind" "INCREMENT_OFFER" "Lcom/example/holdfast/holdfast/PositionKind;" w_INCREMENT_OFFER (6 : Int32)) (U_METERED_GENERATION : own_En Z Z.heap "com/example/holdfast/holdfast/PositionKind" "METERED_GENERATION" "Lcom/example/holdfast/holdfast/PositionKind;" w_METERED_GENERATION (7 : Int32)) (U_EXTERNAL_PURCHASE : own_En Z Z.heap "com/example/holdfast/holdfast/PositionKind" "EXTERNAL_PURCHASE" "Lcom/example/holdfast/holdfast/PositionKind;" w_EXTERNAL_PURCHASE (8 : Int32)) (U_IBT_MARKET : own_En Z Z.heap "com/example/holdfast/holdfast/PositionKind" "IBT_MARKET" "Lcom/example/holdfast/holdfast/PositionKind;" w_IBT_MARKET (9 : Int32)) (U_IBT_MARKET_EXCL : own_En Z Z.heap "com/example/holdfast/holdfast/PositionKind" "IBT_MARKET_EXCL" "Lcom/example/holdfast/holdfast/PositionKind;" w_IBT_MARKET_EXCL (10 : Int32)) :
    MetFree l (⟨"com/example/holdfast/holdfast/PositionKindCarriesIntoRealTimePinLaw", "kindAt", "(I)Lcom/example/holdfast/holdfast/PositionKind;"⟩ : MethodName) (head1 (Jvm.Cond.code (⟨"com/example/holdfast/holdfast/PositionKindCarriesIntoRealTimePinLaw", "kindAt", "(I)Lcom/example/holdfast/holdfast/PositionKind;"⟩ : MethodName) method_2_code 1 (some (.object "com/example/holdfast/holdfast/PositionKind")) :: ws) ({ frames := 0, cells := 0, slots := 0, locals := 0 } : Room)) (fun a U => a = #[(.int 3)] ∧ Z.Warmed39 U.vm ∧ U.heap = h0) (fun _ _ _ _ _ => True) (fun _ U o U' => ∃ v L, o = .returned v ∧ own_p_3_Q Z w_DEMAND_BID w_DECREMENT_BID w_METERED_LOAD w_EXTERNAL_SALE w_IBT_LOAD w_SUPPLY_OFFER w_INCREMENT_OFFER w_METERED_GENERATION w_EXTERNAL_PURCHASE w_IBT_MARKET w_IBT_MARKET_EXCL h0 n0 v U'.heap L ∧ FrameEnd U o U' L ({ frames := 0, cells := 0, slots := 0, locals := 0 } : Room).cells ({ frames := 0, cells := 0, slots := 0, locals := 0 } : Room).slots) := by
  refine MetFree.of_bodySF (plainFor_of_name own_pn1) hisR ?_
  intro p e s m args below meth c s₁ Bd hml0 hP hK
  obtain ⟨rfl, hZ, hh⟩ := hP
  have hx := Bd.exec
  have hby := Bd.bytes
  have hml : c.maxLocals = 1 := hml0
  have hown : s.vm.findClass "com/example/holdfast/holdfast/PositionKindCarriesIntoRealTimePinLaw" = some m.cls := findClass_of_methodNamed Bd.named
  have hnm := (name_of_methodNamed Bd.named Bd.method).1
  have X0 : Stand p l e ({ frames := 0, cells := 0, slots := 0, locals := 0 } : Room) s m #[(.int 3)] below meth c s₁ [] 0 0 := Stand.of_body Bd
  have e0 : s₁.heap = h0 := by rw [← hh, Bd.state]; rfl
  have N0 := Fr.nil n0
  have pre0 : ∀ t, Steps p.tables e below (s₁.setTop (mkF m 0 #[iv 3] [])) t → Steps p.tables e below (s₁.setTop (entryFrame m #[(.int 3)] 1)) t := fun t k => castTop (own_p_3_ef m ) k
  obtain ⟨T1, X1, e1, st1⟩ := getS2 X0 hx hZ hown (host := "") (Or.inl (hw _ (List.mem_of_getElem? (i := 17) rfl))) Via.refl e0 (U_EXTERNAL_SALE.1.ext O0.2) (g := (mkF m 31 #[iv 3] [])) rfl (hb hby own_d1_31)
  obtain ⟨fs, hr, hrun, hended, hW, hsame⟩ := X1.leave (v := some (.ref w_EXTERNAL_SALE)) (fun h => by rw [Bd.returns] at h; cases h)
  refine ⟨_, _, pre0 _ ?_, hrun, hended, _, _, rfl, ?_, ⟨_, rfl⟩, hW, hsame.mono (by decide) (by decide)⟩
  · show Steps p.tables e below (s₁.setTop (mkF m 0 #[iv 3] [])) _
    refine XS.iloadN X0.here hx rfl (hb hby own_d1_0) rfl ?_
    show Steps p.tables e below (s₁.setTop (mkF m 1 #[iv 3] [(.int 3)])) _
    refine XS.ifYes X0.here hx rfl (pc0 := 1) (pc' := 8) rfl (hb hby own_d1_1) rfl ((if0 _ _).trans (feq (by decide)).2) (by decide) (by decide) ?_
    show Steps p.tables e below (s₁.setTop (mkF m 8 #[iv 3] [])) _
    refine XS.iloadN X0.here hx rfl (hb hby own_d1_8) rfl ?_
    show Steps p.tables e below (s₁.setTop (mkF m 9 #[iv 3] [(.int 3)])) _
    refine XS.iconst X0.here hx rfl (hb hby own_d1_9) ?_
    show Steps p.tables e below (s₁.setTop (mkF m 10 #[iv 3] [(.int 1), (.int 3)])) _
    refine XS.icmpYes X0.here hx rfl (pc0 := 10) (pc' := 17) rfl (hb hby own_d1_10) rfl (feq (by decide)).2 (by decide) (by decide) ?_
    show Steps p.tables e below (s₁.setTop (mkF m 17 #[iv 3] [])) _
    refine XS.iloadN X0.here hx rfl (hb hby own_d1_17) rfl ?_
    show Steps p.tables e below (s₁.setTop (mkF m 18 #[iv 3] [(.int 3)])) _
    refine XS.iconst X0.here hx rfl (hb hby own_d1_18) ?_
    show Steps p.tables e below (s₁.setTop (mkF m 19 #[iv 3] [(.int 2), (.int 3)])) _
    refine XS.icmpYes X0.here hx rfl (pc0 := 19) (pc' := 26) rfl (hb hby own_d1_19) rfl (feq (by decide)).2 (by decide) (by decide) ?_
    show Steps p.tables e below (s₁.setTop (mkF m 26 #[iv 3] [])) _
    refine XS.iloadN X0.here hx rfl (hb hby own_d1_26) rfl ?_
    show Steps p.tables e below (s₁.setTop (mkF m 27 #[iv 3] [(.int 3)])) _
    refine XS.iconst X0.here hx rfl (hb hby own_d1_27) ?_
    show Steps p.tables e below (s₁.setTop (mkF m 28 #[iv 3] [(.int 3), (.int 3)])) _
    refine XS.icmpNo X0.here hx rfl (hb hby own_d1_28) rfl (teq (by decide)).2 ?_
    show Steps p.tables e below (s₁.setTop (mkF m 31 #[iv 3] [])) _
    refine st1 _ ?_
    show Steps p.tables e below (T1.setTop (mkF m 34 #[iv 3] [(.ref w_EXTERNAL_SALE)])) _
    jvm_step X1.here [X1.here.top, hx, (hb hby own_d1_34), X1.method', Bd.returns, Value.isRef, FieldType.isReference]
    first | (intro acts; rw [hr _ acts rfl rfl rfl]) | rw [hr _ _ rfl rfl rfl]
    exact Steps.refl _
  · show own_p_3_Q Z w_DEMAND_BID w_DECREMENT_BID w_METERED_LOAD w_EXTERNAL_SALE w_IBT_LOAD w_SUPPLY_OFFER w_INCREMENT_OFFER w_METERED_GENERATION w_EXTERNAL_PURCHASE w_IBT_MARKET w_IBT_MARKET_EXCL h0 n0 _ T1.heap _
    rw [e1]
    exact ⟨rfl, N0, rfl⟩
theorem own_p_4_ef (m : MethodId)  : entryFrame m #[(.int 4)] 1 = mkF m 0 #[iv 4] [] := by first | (simp [entryFrame, mkF, argsToLocals, Value.category]; done) | rfl
def own_p_4_Q (Z : State) (w_DEMAND_BID : Addr) (w_DECREMENT_BID : Addr) (w_METERED_LOAD : Addr) (w_EXTERNAL_SALE : Addr) (w_IBT_LOAD : Addr) (w_SUPPLY_OFFER : Addr) (w_INCREMENT_OFFER : Addr) (w_METERED_GENERATION : Addr) (w_EXTERNAL_PURCHASE : Addr) (w_IBT_MARKET : Addr) (w_IBT_MARKET_EXCL : Addr) (h0 : Heap) (n0 : Nat) (v : Option Value) (h : Heap) (L : List Loc) : Prop := v = some (.ref w_IBT_LOAD) ∧ Fr n0 L ∧ h = h0
set_option maxRecDepth 65536 in
set_option maxHeartbeats 40000000 in
theorem own_p_4 (l : Launch) (Z : State) (a0 : Array Value) (hw : ∀ d ∈ tables_1, d.before a0 Z = true) (ws : List Jvm.Cond) (w_DEMAND_BID : Addr) (w_DECREMENT_BID : Addr) (w_METERED_LOAD : Addr) (w_EXTERNAL_SALE : Addr) (w_IBT_LOAD : Addr) (w_SUPPLY_OFFER : Addr) (w_INCREMENT_OFFER : Addr) (w_METERED_GENERATION : Addr) (w_EXTERNAL_PURCHASE : Addr) (w_IBT_MARKET : Addr) (w_IBT_MARKET_EXCL : Addr) (h0 : Heap) (n0 : Nat) (O0 : Old Z n0 h0) (U_DEMAND_BID : own_En Z Z.heap "com/example/holdfast/holdfast/PositionKind" "DEMAND_BID" "Lcom/example/holdfast/holdfast/PositionKind;" w_DEMAND_BID (0 : Int32)) (U_DECREMENT_BID : own_En Z Z.heap "com/example/holdfast/holdfast/PositionKind" "DECREMENT_BID" "Lcom/example/holdfast/holdfast/PositionKind;" w_DECREMENT_BID (1 : Int32)) (U_METERED_LOAD : own_En Z Z.heap "com/example/holdfast/holdfast/PositionKind" "METERED_LOAD" "Lcom/example/holdfast/holdfast/PositionKind;" w_METERED_LOAD (2 : Int32)) (U_EXTERNAL_SALE : own_En Z Z.heap "com/example/holdfast/holdfast/PositionKind" "EXTERNAL_SALE" "Lcom/example/holdfast/holdfast/PositionKind;" w_EXTERNAL_SALE (3 : Int32)) (U_IBT_LOAD : own_En Z Z.heap "com/example/holdfast/holdfast/PositionKind" "IBT_LOAD" "Lcom/example/holdfast/holdfast/PositionKind;" w_IBT_LOAD (4 : Int32)) (U_SUPPLY_OFFER : own_En Z Z.heap "com/example/holdfast/holdfast/PositionKind" "SUPPLY_OFFER" "Lcom/example/holdfast/holdfast/PositionKind;" w_SUPPLY_OFFER (5 : Int32)) (U_INCREMENT_OFFER : own_En Z Z.heap "com/example/holdfast/holdfast/PositionKind" "INCREMENT_OFFER" "Lcom/example/holdfast/holdfast/PositionKind;" w_INCREMENT_OFFER (6 : Int32)) (U_METERED_GENERATION : own_En Z Z.heap "com/example/holdfast/holdfast/PositionKind" "METERED_GENERATION" "Lcom/example/holdfast/holdfast/PositionKind;" w_METERED_GENERATION (7 : Int32)) (U_EXTERNAL_PURCHASE : own_En Z Z.heap "com/example/holdfast/holdfast/PositionKind" "EXTERNAL_PURCHASE" "Lcom/example/holdfast/holdfast/PositionKind;" w_EXTERNAL_PURCHASE (8 : Int32)) (U_IBT_MARKET : own_En Z Z.heap "com/example/holdfast/holdfast/PositionKind" "IBT_MARKET" "Lcom/example/holdfast/holdfast/PositionKind;" w_IBT_MARKET (9 : Int32)) (U_IBT_MARKET_EXCL : own_En Z Z.heap "com/example/holdfast/holdfast/PositionKind" "IBT_MARKET_EXCL" "Lcom/example/holdfast/holdfast/PositionKind;" w_IBT_MARKET_EXCL (10 : Int32)) :
    MetFree l (⟨"com/example/holdfast/holdfast/PositionKindCarriesIntoRealTimePinLaw", "kindAt", "(I)Lcom/example/holdfast/holdfast/PositionKind;"⟩ : MethodName) (head1 (Jvm.Cond.code (⟨"com/example/holdfast/holdfast/PositionKindCarriesIntoRealTimePinLaw", "kindAt", "(I)Lcom/example/holdfast/holdfast/PositionKind;"⟩ : MethodName) method_2_code 1 (some (.object "com/example/holdfast/holdfast/PositionKind")) :: ws) ({ frames := 0, cells := 0, slots := 0, locals := 0 } : Room)) (fun a U => a = #[(.int 4)] ∧ Z.Warmed39 U.vm ∧ U.heap = h0) (fun _ _ _ _ _ => True) (fun _ U o U' => ∃ v L, o = .returned v ∧ own_p_4_Q Z w_DEMAND_BID w_DECREMENT_BID w_METERED_LOAD w_EXTERNAL_SALE w_IBT_LOAD w_SUPPLY_OFFER w_INCREMENT_OFFER w_METERED_GENERATION w_EXTERNAL_PURCHASE w_IBT_MARKET w_IBT_MARKET_EXCL h0 n0 v U'.heap L ∧ FrameEnd U o U' L ({ frames := 0, cells := 0, slots := 0, locals := 0 } : Room).cells ({ frames := 0, cells := 0, slots := 0, locals := 0 } : Room).slots) := by
  refine MetFree.of_bodySF (plainFor_of_name own_pn1) hisR ?_
  intro p e s m args below meth c s₁ Bd hml0 hP hK
  obtain ⟨rfl, hZ, hh⟩ := hP
  have hx := Bd.exec
  have hby := Bd.bytes
  have hml : c.maxLocals = 1 := hml0
  have hown : s.vm.findClass "com/example/holdfast/holdfast/PositionKindCarriesIntoRealTimePinLaw" = some m.cls := findClass_of_methodNamed Bd.named
  have hnm := (name_of_methodNamed Bd.named Bd.method).1
  have X0 : Stand p l e ({ frames := 0, cells := 0, slots := 0, locals := 0 } : Room) s m #[(.int 4)] below meth c s₁ [] 0 0 := Stand.of_body Bd
  have e0 : s₁.heap = h0 := by rw [← hh, Bd.state]; rfl
  have N0 := Fr.nil n0
  have pre0 : ∀ t, Steps p.tables e below (s₁.setTop (mkF m 0 #[iv 4] [])) t → Steps p.tables e below (s₁.setTop (entryFrame m #[(.int 4)] 1)) t := fun t k => castTop (own_p_4_ef m ) k
  obtain ⟨T1, X1, e1, st1⟩ := getS2 X0 hx hZ hown (host := "") (Or.inl (hw _ (List.mem_of_getElem? (i := 33) rfl))) Via.refl e0 (U_IBT_LOAD.1.ext O0.2) (g := (mkF m 40 #[iv 4] [])) rfl (hb hby own_d1_40)
  obtain ⟨fs, hr, hrun, hended, hW, hsame⟩ := X1.leave (v := some (.ref w_IBT_LOAD)) (fun h => by rw [Bd.returns] at h; cases h)
  refine ⟨_, _, pre0 _ ?_, hrun, hended, _, _, rfl, ?_, ⟨_, rfl⟩, hW, hsame.mono (by decide) (by decide)⟩
  · show Steps p.tables e below (s₁.setTop (mkF m 0 #[iv 4] [])) _
    refine XS.iloadN X0.here hx rfl (hb hby own_d1_0) rfl ?_
    show Steps p.tables e below (s₁.setTop (mkF m 1 #[iv 4] [(.int 4)])) _
    refine XS.ifYes X0.here hx rfl (pc0 := 1) (pc' := 8) rfl (hb hby own_d1_1) rfl ((if0 _ _).trans (feq (by decide)).2) (by decide) (by decide) ?_
    show Steps p.tables e below (s₁.setTop (mkF m 8 #[iv 4] [])) _
    refine XS.iloadN X0.here hx rfl (hb hby own_d1_8) rfl ?_
    show Steps p.tables e below (s₁.setTop (mkF m 9 #[iv 4] [(.int 4)])) _
    refine XS.iconst X0.here hx rfl (hb hby own_d1_9) ?_
    show Steps p.tables e below (s₁.setTop (mkF m 10 #[iv 4] [(.int 1), (.int 4)])) _
    refine XS.icmpYes X0.here hx rfl (pc0 := 10) (pc' := 17) rfl (hb hby own_d1_10) rfl (feq (by decide)).2 (by decide) (by decide) ?_
    show Steps p.tables e below (s₁.setTop (mkF m 17 #[iv 4] [])) _
    refine XS.iloadN X0.here hx rfl (hb hby own_d1_17) rfl ?_
    show Steps p.tables e below (s₁.setTop (mkF m 18 #[iv 4] [(.int 4)])) _
    refine XS.iconst X0.here hx rfl (hb hby own_d1_18) ?_
    show Steps p.tables e below (s₁.setTop (mkF m 19 #[iv 4] [(.int 2), (.int 4)])) _
    refine XS.icmpYes X0.here hx rfl (pc0 := 19) (pc' := 26) rfl (hb hby own_d1_19) rfl (feq (by decide)).2 (by decide) (by decide) ?_
    show Steps p.tables e below (s₁.setTop (mkF m 26 #[iv 4] [])) _
    refine XS.iloadN X0.here hx rfl (hb hby own_d1_26) rfl ?_
    show Steps p.tables e below (s₁.setTop (mkF m 27 #[iv 4] [(.int 4)])) _
    refine XS.iconst X0.here hx rfl (hb hby own_d1_27) ?_
    show Steps p.tables e below (s₁.setTop (mkF m 28 #[iv 4] [(.int 3), (.int 4)])) _
    refine XS.icmpYes X0.here hx rfl (pc0 := 28) (pc' := 35) rfl (hb hby own_d1_28) rfl (feq (by decide)).2 (by decide) (by decide) ?_
    show Steps p.tables e below (s₁.setTop (mkF m 35 #[iv 4] [])) _
    refine XS.iloadN X0.here hx rfl (hb hby own_d1_35) rfl ?_
    show Steps p.tables e below (s₁.setTop (mkF m 36 #[iv 4] [(.int 4)])) _
    refine XS.iconst X0.here hx rfl (hb hby own_d1_36) ?_
    show Steps p.tables e below (s₁.setTop (mkF m 37 #[iv 4] [(.int 4), (.int 4)])) _
    refine XS.icmpNo X0.here hx rfl (hb hby own_d1_37) rfl (teq (by decide)).2 ?_
    show Steps p.tables e below (s₁.setTop (mkF m 40 #[iv 4] [])) _
    refine st1 _ ?_
    show Steps p.tables e below (T1.setTop (mkF m 43 #[iv 4] [(.ref w_IBT_LOAD)])) _
    jvm_step X1.here [X1.here.top, hx, (hb hby own_d1_43), X1.method', Bd.returns, Value.isRef, FieldType.isReference]
    first | (intro acts; rw [hr _ acts rfl rfl rfl]) | rw [hr _ _ rfl rfl rfl]
    exact Steps.refl _
  · show own_p_4_Q Z w_DEMAND_BID w_DECREMENT_BID w_METERED_LOAD w_EXTERNAL_SALE w_IBT_LOAD w_SUPPLY_OFFER w_INCREMENT_OFFER w_METERED_GENERATION w_EXTERNAL_PURCHASE w_IBT_MARKET w_IBT_MARKET_EXCL h0 n0 _ T1.heap _
    rw [e1]
    exact ⟨rfl, N0, rfl⟩
theorem own_p_5_ef (m : MethodId)  : entryFrame m #[(.int 5)] 1 = mkF m 0 #[iv 5] [] := by first | (simp [entryFrame, mkF, argsToLocals, Value.category]; done) | rfl
def own_p_5_Q (Z : State) (w_DEMAND_BID : Addr) (w_DECREMENT_BID : Addr) (w_METERED_LOAD : Addr) (w_EXTERNAL_SALE : Addr) (w_IBT_LOAD : Addr) (w_SUPPLY_OFFER : Addr) (w_INCREMENT_OFFER : Addr) (w_METERED_GENERATION : Addr) (w_EXTERNAL_PURCHASE : Addr) (w_IBT_MARKET : Addr) (w_IBT_MARKET_EXCL : Addr) (h0 : Heap) (n0 : Nat) (v : Option Value) (h : Heap) (L : List Loc) : Prop := v = some (.ref w_SUPPLY_OFFER) ∧ Fr n0 L ∧ h = h0
set_option maxRecDepth 65536 in
set_option maxHeartbeats 40000000 in
theorem own_p_5 (l : Launch) (Z : State) (a0 : Array Value) (hw : ∀ d ∈ tables_1, d.before a0 Z = true) (ws : List Jvm.Cond) (w_DEMAND_BID : Addr) (w_DECREMENT_BID : Addr) (w_METERED_LOAD : Addr) (w_EXTERNAL_SALE : Addr) (w_IBT_LOAD : Addr) (w_SUPPLY_OFFER : Addr) (w_INCREMENT_OFFER : Addr) (w_METERED_GENERATION : Addr) (w_EXTERNAL_PURCHASE : Addr) (w_IBT_MARKET : Addr) (w_IBT_MARKET_EXCL : Addr) (h0 : Heap) (n0 : Nat) (O0 : Old Z n0 h0) (U_DEMAND_BID : own_En Z Z.heap "com/example/holdfast/holdfast/PositionKind" "DEMAND_BID" "Lcom/example/holdfast/holdfast/PositionKind;" w_DEMAND_BID (0 : Int32)) (U_DECREMENT_BID : own_En Z Z.heap "com/example/holdfast/holdfast/PositionKind" "DECREMENT_BID" "Lcom/example/holdfast/holdfast/PositionKind;" w_DECREMENT_BID (1 : Int32)) (U_METERED_LOAD : own_En Z Z.heap "com/example/holdfast/holdfast/PositionKind" "METERED_LOAD" "Lcom/example/holdfast/holdfast/PositionKind;" w_METERED_LOAD (2 : Int32)) (U_EXTERNAL_SALE : own_En Z Z.heap "com/example/holdfast/holdfast/PositionKind" "EXTERNAL_SALE" "Lcom/example/holdfast/holdfast/PositionKind;" w_EXTERNAL_SALE (3 : Int32)) (U_IBT_LOAD : own_En Z Z.heap "com/example/holdfast/holdfast/PositionKind" "IBT_LOAD" "Lcom/example/holdfast/holdfast/PositionKind;" w_IBT_LOAD (4 : Int32)) (U_SUPPLY_OFFER : own_En Z Z.heap "com/example/holdfast/holdfast/PositionKind" "SUPPLY_OFFER" "Lcom/example/holdfast/holdfast/PositionKind;" w_SUPPLY_OFFER (5 : Int32)) (U_INCREMENT_OFFER : own_En Z Z.heap "com/example/holdfast/holdfast/PositionKind" "INCREMENT_OFFER" "Lcom/example/holdfast/holdfast/PositionKind;" w_INCREMENT_OFFER (6 : Int32)) (U_METERED_GENERATION : own_En Z Z.heap "com/example/holdfast/holdfast/PositionKind" "METERED_GENERATION" "Lcom/example/holdfast/holdfast/PositionKind;" w_METERED_GENERATION (7 : Int32)) (U_EXTERNAL_PURCHASE : own_En Z Z.heap "com/example/holdfast/holdfast/PositionKind" "EXTERNAL_PURCHASE" "Lcom/example/holdfast/holdfast/PositionKind;" w_EXTERNAL_PURCHASE (8 : Int32)) (U_IBT_MARKET : own_En Z Z.heap "com/example/holdfast/holdfast/PositionKind" "IBT_MARKET" "Lcom/example/holdfast/holdfast/PositionKind;" w_IBT_MARKET (9 : Int32)) (U_IBT_MARKET_EXCL : own_En Z Z.heap "com/example/holdfast/holdfast/PositionKind" "IBT_MARKET_EXCL" "Lcom/example/holdfast/holdfast/PositionKind;" w_IBT_MARKET_EXCL (10 : Int32)) :
    MetFree l (⟨"com/example/holdfast/holdfast/PositionKindCarriesIntoRealTimePinLaw", "kindAt", "(I)Lcom/example/holdfast/holdfast/PositionKind;"⟩ : MethodName) (head1 (Jvm.Cond.code (⟨"com/example/holdfast/holdfast/PositionKindCarriesIntoRealTimePinLaw", "kindAt", "(I)Lcom/example/holdfast/holdfast/PositionKind;"⟩ : MethodName) method_2_code 1 (some (.object "com/example/holdfast/holdfast/PositionKind")) :: ws) ({ frames := 0, cells := 0, slots := 0, locals := 0 } : Room)) (fun a U => a = #[(.int 5)] ∧ Z.Warmed39 U.vm ∧ U.heap = h0) (fun _ _ _ _ _ => True) (fun _ U o U' => ∃ v L, o = .returned v ∧ own_p_5_Q Z w_DEMAND_BID w_DECREMENT_BID w_METERED_LOAD w_EXTERNAL_SALE w_IBT_LOAD w_SUPPLY_OFFER w_INCREMENT_OFFER w_METERED_GENERATION w_EXTERNAL_PURCHASE w_IBT_MARKET w_IBT_MARKET_EXCL h0 n0 v U'.heap L ∧ FrameEnd U o U' L ({ frames := 0, cells := 0, slots := 0, locals := 0 } : Room).cells ({ frames := 0, cells := 0, slots := 0, locals := 0 } : Room).slots) := by
  refine MetFree.of_bodySF (plainFor_of_name own_pn1) hisR ?_
  intro p e s m args below meth c s₁ Bd hml0 hP hK
  obtain ⟨rfl, hZ, hh⟩ := hP
  have hx := Bd.exec
  have hby := Bd.bytes
  have hml : c.maxLocals = 1 := hml0
  have hown : s.vm.findClass "com/example/holdfast/holdfast/PositionKindCarriesIntoRealTimePinLaw" = some m.cls := findClass_of_methodNamed Bd.named
  have hnm := (name_of_methodNamed Bd.named Bd.method).1
  have X0 : Stand p l e ({ frames := 0, cells := 0, slots := 0, locals := 0 } : Room) s m #[(.int 5)] below meth c s₁ [] 0 0 := Stand.of_body Bd
  have e0 : s₁.heap = h0 := by rw [← hh, Bd.state]; rfl
  have N0 := Fr.nil n0
  have pre0 : ∀ t, Steps p.tables e below (s₁.setTop (mkF m 0 #[iv 5] [])) t → Steps p.tables e below (s₁.setTop (entryFrame m #[(.int 5)] 1)) t := fun t k => castTop (own_p_5_ef m ) k
  obtain ⟨T1, X1, e1, st1⟩ := getS2 X0 hx hZ hown (host := "") (Or.inl (hw _ (List.mem_of_getElem? (i := 29) rfl))) Via.refl e0 (U_SUPPLY_OFFER.1.ext O0.2) (g := (mkF m 49 #[iv 5] [])) rfl (hb hby own_d1_49)
  obtain ⟨fs, hr, hrun, hended, hW, hsame⟩ := X1.leave (v := some (.ref w_SUPPLY_OFFER)) (fun h => by rw [Bd.returns] at h; cases h)
  refine ⟨_, _, pre0 _ ?_, hrun, hended, _, _, rfl, ?_, ⟨_, rfl⟩, hW, hsame.mono (by decide) (by decide)⟩
  · show Steps p.tables e below (s₁.setTop (mkF m 0 #[iv 5] [])) _
    refine XS.iloadN X0.here hx rfl (hb hby own_d1_0) rfl ?_
    show Steps p.tables e below (s₁.setTop (mkF m 1 #[iv 5] [(.int 5)])) _
    refine XS.ifYes X0.here hx rfl (pc0 := 1) (pc' := 8) rfl (hb hby own_d1_1) rfl ((if0 _ _).trans (feq (by decide)).2) (by decide) (by decide) ?_
    show Steps p.tables e below (s₁.setTop (mkF m 8 #[iv 5] [])) _
    refine XS.iloadN X0.here hx rfl (hb hby own_d1_8) rfl ?_
    show Steps p.tables e below (s₁.setTop (mkF m 9 #[iv 5] [(.int 5)])) _
    refine XS.iconst X0.here hx rfl (hb hby own_d1_9) ?_
    show Steps p.tables e below (s₁.setTop (mkF m 10 #[iv 5] [(.int 1), (.int 5)])) _
    refine XS.icmpYes X0.here hx rfl (pc0 := 10) (pc' := 17) rfl (hb hby own_d1_10) rfl (feq (by decide)).2 (by decide) (by decide) ?_
    show Steps p.tables e below (s₁.setTop (mkF m 17 #[iv 5] [])) _
    refine XS.iloadN X0.here hx rfl (hb hby own_d1_17) rfl ?_
    show Steps p.tables e below (s₁.setTop (mkF m 18 #[iv 5] [(.int 5)])) _
    refine XS.iconst X0.here hx rfl (hb hby own_d1_18) ?_
    show Steps p.tables e below (s₁.setTop (mkF m 19 #[iv 5] [(.int 2), (.int 5)])) _
    refine XS.icmpYes X0.here hx rfl (pc0 := 19) (pc' := 26) rfl (hb hby own_d1_19) rfl (feq (by decide)).2 (by decide) (by decide) ?_
    show Steps p.tables e below (s₁.setTop (mkF m 26 #[iv 5] [])) _
    refine XS.iloadN X0.here hx rfl (hb hby own_d1_26) rfl ?_
    show Steps p.tables e below (s₁.setTop (mkF m 27 #[iv 5] [(.int 5)])) _
    refine XS.iconst X0.here hx rfl (hb hby own_d1_27) ?_
    show Steps p.tables e below (s₁.setTop (mkF m 28 #[iv 5] [(.int 3), (.int 5)])) _
    refine XS.icmpYes X0.here hx rfl (pc0 := 28) (pc' := 35) rfl (hb hby own_d1_28) rfl (feq (by decide)).2 (by decide) (by decide) ?_
    show Steps p.tables e below (s₁.setTop (mkF m 35 #[iv 5] [])) _
    refine XS.iloadN X0.here hx rfl (hb hby own_d1_35) rfl ?_
    show Steps p.tables e below (s₁.setTop (mkF m 36 #[iv 5] [(.int 5)])) _
    refine XS.iconst X0.here hx rfl (hb hby own_d1_36) ?_
    show Steps p.tables e below (s₁.setTop (mkF m 37 #[iv 5] [(.int 4), (.int 5)])) _
    refine XS.icmpYes X0.here hx rfl (pc0 := 37) (pc' := 44) rfl (hb hby own_d1_37) rfl (feq (by decide)).2 (by decide) (by decide) ?_
    show Steps p.tables e below (s₁.setTop (mkF m 44 #[iv 5] [])) _
    refine XS.iloadN X0.here hx rfl (hb hby own_d1_44) rfl ?_
    show Steps p.tables e below (s₁.setTop (mkF m 45 #[iv 5] [(.int 5)])) _
    refine XS.iconst X0.here hx rfl (hb hby own_d1_45) ?_
    show Steps p.tables e below (s₁.setTop (mkF m 46 #[iv 5] [(.int 5), (.int 5)])) _
    refine XS.icmpNo X0.here hx rfl (hb hby own_d1_46) rfl (teq (by decide)).2 ?_
    show Steps p.tables e below (s₁.setTop (mkF m 49 #[iv 5] [])) _
    refine st1 _ ?_
    show Steps p.tables e below (T1.setTop (mkF m 52 #[iv 5] [(.ref w_SUPPLY_OFFER)])) _
    jvm_step X1.here [X1.here.top, hx, (hb hby own_d1_52), X1.method', Bd.returns, Value.isRef, FieldType.isReference]
    first | (intro acts; rw [hr _ acts rfl rfl rfl]) | rw [hr _ _ rfl rfl rfl]
    exact Steps.refl _
  · show own_p_5_Q Z w_DEMAND_BID w_DECREMENT_BID w_METERED_LOAD w_EXTERNAL_SALE w_IBT_LOAD w_SUPPLY_OFFER w_INCREMENT_OFFER w_METERED_GENERATION w_EXTERNAL_PURCHASE w_IBT_MARKET w_IBT_MARKET_EXCL h0 n0 _ T1.heap _
    rw [e1]
    exact ⟨rfl, N0, rfl⟩
theorem own_p_6_ef (m : MethodId)  : entryFrame m #[(.int 6)] 1 = mkF m 0 #[iv 6] [] := by first | (simp [entryFrame, mkF, argsToLocals, Value.category]; done) | rfl
def own_p_6_Q (Z : State) (w_DEMAND_BID : Addr) (w_DECREMENT_BID : Addr) (w_METERED_LOAD : Addr) (w_EXTERNAL_SALE : Addr) (w_IBT_LOAD : Addr) (w_SUPPLY_OFFER : Addr) (w_INCREMENT_OFFER : Addr) (w_METERED_GENERATION : Addr) (w_EXTERNAL_PURCHASE : Addr) (w_IBT_MARKET : Addr) (w_IBT_MARKET_EXCL : Addr) (h0 : Heap) (n0 : Nat) (v : Option Value) (h : Heap) (L : List Loc) : Prop := v = some (.ref w_INCREMENT_OFFER) ∧ Fr n0 L ∧ h = h0
set_option maxRecDepth 65536 in
set_option maxHeartbeats 40000000 in
theorem own_p_6 (l : Launch) (Z : State) (a0 : Array Value) (hw : ∀ d ∈ tables_1, d.before a0 Z = true) (ws : List Jvm.Cond) (w_DEMAND_BID : Addr) (w_DECREMENT_BID : Addr) (w_METERED_LOAD : Addr) (w_EXTERNAL_SALE : Addr) (w_IBT_LOAD : Addr) (w_SUPPLY_OFFER : Addr) (w_INCREMENT_OFFER : Addr) (w_METERED_GENERATION : Addr) (w_EXTERNAL_PURCHASE : Addr) (w_IBT_MARKET : Addr) (w_IBT_MARKET_EXCL : Addr) (h0 : Heap) (n0 : Nat) (O0 : Old Z n0 h0) (U_DEMAND_BID : own_En Z Z.heap "com/example/holdfast/holdfast/PositionKind" "DEMAND_BID" "Lcom/example/holdfast/holdfast/PositionKind;" w_DEMAND_BID (0 : Int32)) (U_DECREMENT_BID : own_En Z Z.heap "com/example/holdfast/holdfast/PositionKind" "DECREMENT_BID" "Lcom/example/holdfast/holdfast/PositionKind;" w_DECREMENT_BID (1 : Int32)) (U_METERED_LOAD : own_En Z Z.heap "com/example/holdfast/holdfast/PositionKind" "METERED_LOAD" "Lcom/example/holdfast/holdfast/PositionKind;" w_METERED_LOAD (2 : Int32)) (U_EXTERNAL_SALE : own_En Z Z.heap "com/example/holdfast/holdfast/PositionKind" "EXTERNAL_SALE" "Lcom/example/holdfast/holdfast/PositionKind;" w_EXTERNAL_SALE (3 : Int32)) (U_IBT_LOAD : own_En Z Z.heap "com/example/holdfast/holdfast/PositionKind" "IBT_LOAD" "Lcom/example/holdfast/holdfast/PositionKind;" w_IBT_LOAD (4 : Int32)) (U_SUPPLY_OFFER : own_En Z Z.heap "com/example/holdfast/holdfast/PositionKind" "SUPPLY_OFFER" "Lcom/example/holdfast/holdfast/PositionKind;" w_SUPPLY_OFFER (5 : Int32)) (U_INCREMENT_OFFER : own_En Z Z.heap "com/example/holdfast/holdfast/PositionKind" "INCREMENT_OFFER" "Lcom/example/holdfast/holdfast/PositionKind;" w_INCREMENT_OFFER (6 : Int32)) (U_METERED_GENERATION : own_En Z Z.heap "com/example/holdfast/holdfast/PositionKind" "METERED_GENERATION" "Lcom/example/holdfast/holdfast/PositionKind;" w_METERED_GENERATION (7 : Int32)) (U_EXTERNAL_PURCHASE : own_En Z Z.heap "com/example/holdfast/holdfast/PositionKind" "EXTERNAL_PURCHASE" "Lcom/example/holdfast/holdfast/PositionKind;" w_EXTERNAL_PURCHASE (8 : Int32)) (U_IBT_MARKET : own_En Z Z.heap "com/example/holdfast/holdfast/PositionKind" "IBT_MARKET" "Lcom/example/holdfast/holdfast/PositionKind;" w_IBT_MARKET (9 : Int32)) (U_IBT_MARKET_EXCL : own_En Z Z.heap "com/example/holdfast/holdfast/PositionKind" "IBT_MARKET_EXCL" "Lcom/example/holdfast/holdfast/PositionKind;" w_IBT_MARKET_EXCL (10 : Int32)) :
    MetFree l (⟨"com/example/holdfast/holdfast/PositionKindCarriesIntoRealTimePinLaw", "kindAt", "(I)Lcom/example/holdfast/holdfast/PositionKind;"⟩ : MethodName) (head1 (Jvm.Cond.code (⟨"com/example/holdfast/holdfast/PositionKindCarriesIntoRealTimePinLaw", "kindAt", "(I)Lcom/example/holdfast/holdfast/PositionKind;"⟩ : MethodName) method_2_code 1 (some (.object "com/example/holdfast/holdfast/PositionKind")) :: ws) ({ frames := 0, cells := 0, slots := 0, locals := 0 } : Room)) (fun a U => a = #[(.int 6)] ∧ Z.Warmed39 U.vm ∧ U.heap = h0) (fun _ _ _ _ _ => True) (fun _ U o U' => ∃ v L, o = .returned v ∧ own_p_6_Q Z w_DEMAND_BID w_DECREMENT_BID w_METERED_LOAD w_EXTERNAL_SALE w_IBT_LOAD w_SUPPLY_OFFER w_INCREMENT_OFFER w_METERED_GENERATION w_EXTERNAL_PURCHASE w_IBT_MARKET w_IBT_MARKET_EXCL h0 n0 v U'.heap L ∧ FrameEnd U o U' L ({ frames := 0, cells := 0, slots := 0, locals := 0 } : Room).cells ({ frames := 0, cells := 0, slots := 0, locals := 0 } : Room).slots) := by
  refine MetFree.of_bodySF (plainFor_of_name own_pn1) hisR ?_
  intro p e s m args below meth c s₁ Bd hml0 hP hK
  obtain ⟨rfl, hZ, hh⟩ := hP
  have hx := Bd.exec
  have hby := Bd.bytes
  have hml : c.maxLocals = 1 := hml0
  have hown : s.vm.findClass "com/example/holdfast/holdfast/PositionKindCarriesIntoRealTimePinLaw" = some m.cls := findClass_of_methodNamed Bd.named
  have hnm := (name_of_methodNamed Bd.named Bd.method).1
  have X0 : Stand p l e ({ frames := 0, cells := 0, slots := 0, locals := 0 } : Room) s m #[(.int 6)] below meth c s₁ [] 0 0 := Stand.of_body Bd
  have e0 : s₁.heap = h0 := by rw [← hh, Bd.state]; rfl
  have N0 := Fr.nil n0
  have pre0 : ∀ t, Steps p.tables e below (s₁.setTop (mkF m 0 #[iv 6] [])) t → Steps p.tables e below (s₁.setTop (entryFrame m #[(.int 6)] 1)) t := fun t k => castTop (own_p_6_ef m ) k
  obtain ⟨T1, X1, e1, st1⟩ := getS2 X0 hx hZ hown (host := "") (Or.inl (hw _ (List.mem_of_getElem? (i := 31) rfl))) Via.refl e0 (U_INCREMENT_OFFER.1.ext O0.2) (g := (mkF m 59 #[iv 6] [])) rfl (hb hby own_d1_59)
  obtain ⟨fs, hr, hrun, hended, hW, hsame⟩ := X1.leave (v := some (.ref w_INCREMENT_OFFER)) (fun h => by rw [Bd.returns] at h; cases h)
  refine ⟨_, _, pre0 _ ?_, hrun, hended, _, _, rfl, ?_, ⟨_, rfl⟩, hW, hsame.mono (by decide) (by decide)⟩
  · show Steps p.tables e below (s₁.setTop (mkF m 0 #[iv 6] [])) _
    refine XS.iloadN X0.here hx rfl (hb hby own_d1_0) rfl ?_
    show Steps p.tables e below (s₁.setTop (mkF m 1 #[iv 6] [(.int 6)])) _
    refine XS.ifYes X0.here hx rfl (pc0 := 1) (pc' := 8) rfl (hb hby own_d1_1) rfl ((if0 _ _).trans (feq (by decide)).2) (by decide) (by decide) ?_
    show Steps p.tables e below (s₁.setTop (mkF m 8 #[iv 6] [])) _
    refine XS.iloadN X0.here hx rfl (hb hby own_d1_8) rfl ?_
    show Steps p.tables e below (s₁.setTop (mkF m 9 #[iv 6] [(.int 6)])) _
    refine XS.iconst X0.here hx rfl (hb hby own_d1_9) ?_
    show Steps p.tables e below (s₁.setTop (mkF m 10 #[iv 6] [(.int 1), (.int 6)])) _
    refine XS.icmpYes X0.here hx rfl (pc0 := 10) (pc' := 17) rfl (hb hby own_d1_10) rfl (feq (by decide)).2 (by decide) (by decide) ?_
    show Steps p.tables e below (s₁.setTop (mkF m 17 #[iv 6] [])) _
    refine XS.iloadN X0.here hx rfl (hb hby own_d1_17) rfl ?_
    show Steps p.tables e below (s₁.setTop (mkF m 18 #[iv 6] [(.int 6)])) _
    refine XS.iconst X0.here hx rfl (hb hby own_d1_18) ?_
    show Steps p.tables e below (s₁.setTop (mkF m 19 #[iv 6] [(.int 2), (.int 6)])) _
    refine XS.icmpYes X0.here hx rfl (pc0 := 19) (pc' := 26) rfl (hb hby own_d1_19) rfl (feq (by decide)).2 (by decide) (by decide) ?_
    show Steps p.tables e below (s₁.setTop (mkF m 26 #[iv 6] [])) _
    refine XS.iloadN X0.here hx rfl (hb hby own_d1_26) rfl ?_
    show Steps p.tables e below (s₁.setTop (mkF m 27 #[iv 6] [(.int 6)])) _
    refine XS.iconst X0.here hx rfl (hb hby own_d1_27) ?_
    show Steps p.tables e below (s₁.setTop (mkF m 28 #[iv 6] [(.int 3), (.int 6)])) _
    refine XS.icmpYes X0.here hx rfl (pc0 := 28) (pc' := 35) rfl (hb hby own_d1_28) rfl (feq (by decide)).2 (by decide) (by decide) ?_
    show Steps p.tables e below (s₁.setTop (mkF m 35 #[iv 6] [])) _
    refine XS.iloadN X0.here hx rfl (hb hby own_d1_35) rfl ?_
    show Steps p.tables e below (s₁.setTop (mkF m 36 #[iv 6] [(.int 6)])) _
    refine XS.iconst X0.here hx rfl (hb hby own_d1_36) ?_
    show Steps p.tables e below (s₁.setTop (mkF m 37 #[iv 6] [(.int 4), (.int 6)])) _
    refine XS.icmpYes X0.here hx rfl (pc0 := 37) (pc' := 44) rfl (hb hby own_d1_37) rfl (feq (by decide)).2 (by decide) (by decide) ?_
    show Steps p.tables e below (s₁.setTop (mkF m 44 #[iv 6] [])) _
    refine XS.iloadN X0.here hx rfl (hb hby own_d1_44) rfl ?_
    show Steps p.tables e below (s₁.setTop (mkF m 45 #[iv 6] [(.int 6)])) _
    refine XS.iconst X0.here hx rfl (hb hby own_d1_45) ?_
    show Steps p.tables e below (s₁.setTop (mkF m 46 #[iv 6] [(.int 5), (.int 6)])) _
    refine XS.icmpYes X0.here hx rfl (pc0 := 46) (pc' := 53) rfl (hb hby own_d1_46) rfl (feq (by decide)).2 (by decide) (by decide) ?_
    show Steps p.tables e below (s₁.setTop (mkF m 53 #[iv 6] [])) _
    refine XS.iloadN X0.here hx rfl (hb hby own_d1_53) rfl ?_
    show Steps p.tables e below (s₁.setTop (mkF m 54 #[iv 6] [(.int 6)])) _
    refine XS.bipush X0.here hx rfl (hb hby own_d1_54) ?_
    show Steps p.tables e below (s₁.setTop (mkF m 56 #[iv 6] [(.int 6), (.int 6)])) _
    refine XS.icmpNo X0.here hx rfl (hb hby own_d1_56) rfl (teq (by decide)).2 ?_
    show Steps p.tables e below (s₁.setTop (mkF m 59 #[iv 6] [])) _
    refine st1 _ ?_
    show Steps p.tables e below (T1.setTop (mkF m 62 #[iv 6] [(.ref w_INCREMENT_OFFER)])) _
    jvm_step X1.here [X1.here.top, hx, (hb hby own_d1_62), X1.method', Bd.returns, Value.isRef, FieldType.isReference]
    first | (intro acts; rw [hr _ acts rfl rfl rfl]) | rw [hr _ _ rfl rfl rfl]
    exact Steps.refl _
  · show own_p_6_Q Z w_DEMAND_BID w_DECREMENT_BID w_METERED_LOAD w_EXTERNAL_SALE w_IBT_LOAD w_SUPPLY_OFFER w_INCREMENT_OFFER w_METERED_GENERATION w_EXTERNAL_PURCHASE w_IBT_MARKET w_IBT_MARKET_EXCL h0 n0 _ T1.heap _
    rw [e1]
    exact ⟨rfl, N0, rfl⟩
theorem own_p_7_ef (m : MethodId)  : entryFrame m #[(.int 7)] 1 = mkF m 0 #[iv 7] [] := by first | (simp [entryFrame, mkF, argsToLocals, Value.category]; done) | rfl
def own_p_7_Q (Z : State) (w_DEMAND_BID : Addr) (w_DECREMENT_BID : Addr) (w_METERED_LOAD : Addr) (w_EXTERNAL_SALE : Addr) (w_IBT_LOAD : Addr) (w_SUPPLY_OFFER : Addr) (w_INCREMENT_OFFER : Addr) (w_METERED_GENERATION : Addr) (w_EXTERNAL_PURCHASE : Addr) (w_IBT_MARKET : Addr) (w_IBT_MARKET_EXCL : Addr) (h0 : Heap) (n0 : Nat) (v : Option Value) (h : Heap) (L : List Loc) : Prop := v = some (.ref w_METERED_GENERATION) ∧ Fr n0 L ∧ h = h0
set_option maxRecDepth 65536 in
set_option maxHeartbeats 40000000 in
theorem own_p_7 (l : Launch) (Z : State) (a0 : Array Value) (hw : ∀ d ∈ tables_1, d.before a0 Z = true) (ws : List Jvm.Cond) (w_DEMAND_BID : Addr) (w_DECREMENT_BID : Addr) (w_METERED_LOAD : Addr) (w_EXTERNAL_SALE : Addr) (w_IBT_LOAD : Addr) (w_SUPPLY_OFFER : Addr) (w_INCREMENT_OFFER : Addr) (w_METERED_GENERATION : Addr) (w_EXTERNAL_PURCHASE : Addr) (w_IBT_MARKET : Addr) (w_IBT_MARKET_EXCL : Addr) (h0 : Heap) (n0 : Nat) (O0 : Old Z n0 h0) (U_DEMAND_BID : own_En Z Z.heap "com/example/holdfast/holdfast/PositionKind" "DEMAND_BID" "Lcom/example/holdfast/holdfast/PositionKind;" w_DEMAND_BID (0 : Int32)) (U_DECREMENT_BID : own_En Z Z.heap "com/example/holdfast/holdfast/PositionKind" "DECREMENT_BID" "Lcom/example/holdfast/holdfast/PositionKind;" w_DECREMENT_BID (1 : Int32)) (U_METERED_LOAD : own_En Z Z.heap "com/example/holdfast/holdfast/PositionKind" "METERED_LOAD" "Lcom/example/holdfast/holdfast/PositionKind;" w_METERED_LOAD (2 : Int32)) (U_EXTERNAL_SALE : own_En Z Z.heap "com/example/holdfast/holdfast/PositionKind" "EXTERNAL_SALE" "Lcom/example/holdfast/holdfast/PositionKind;" w_EXTERNAL_SALE (3 : Int32)) (U_IBT_LOAD : own_En Z Z.heap "com/example/holdfast/holdfast/PositionKind" "IBT_LOAD" "Lcom/example/holdfast/holdfast/PositionKind;" w_IBT_LOAD (4 : Int32)) (U_SUPPLY_OFFER : own_En Z Z.heap "com/example/holdfast/holdfast/PositionKind" "SUPPLY_OFFER" "Lcom/example/holdfast/holdfast/PositionKind;" w_SUPPLY_OFFER (5 : Int32)) (U_INCREMENT_OFFER : own_En Z Z.heap "com/example/holdfast/holdfast/PositionKind" "INCREMENT_OFFER" "Lcom/example/holdfast/holdfast/PositionKind;" w_INCREMENT_OFFER (6 : Int32)) (U_METERED_GENERATION : own_En Z Z.heap "com/example/holdfast/holdfast/PositionKind" "METERED_GENERATION" "Lcom/example/holdfast/holdfast/PositionKind;" w_METERED_GENERATION (7 : Int32)) (U_EXTERNAL_PURCHASE : own_En Z Z.heap "com/example/holdfast/holdfast/PositionKind" "EXTERNAL_PURCHASE" "Lcom/example/holdfast/holdfast/PositionKind;" w_EXTERNAL_PURCHASE (8 : Int32)) (U_IBT_MARKET : own_En Z Z.heap "com/example/holdfast/holdfast/PositionKind" "IBT_MARKET" "Lcom/example/holdfast/holdfast/PositionKind;" w_IBT_MARKET (9 : Int32)) (U_IBT_MARKET_EXCL : own_En Z Z.heap "com/example/holdfast/holdfast/PositionKind" "IBT_MARKET_EXCL" "Lcom/example/holdfast/holdfast/PositionKind;" w_IBT_MARKET_EXCL (10 : Int32)) :
    MetFree l (⟨"com/example/holdfast/holdfast/PositionKindCarriesIntoRealTimePinLaw", "kindAt", "(I)Lcom/example/holdfast/holdfast/PositionKind;"⟩ : MethodName) (head1 (Jvm.Cond.code (⟨"com/example/holdfast/holdfast/PositionKindCarriesIntoRealTimePinLaw", "kindAt", "(I)Lcom/example/holdfast/holdfast/PositionKind;"⟩ : MethodName) method_2_code 1 (some (.object "com/example/holdfast/holdfast/PositionKind")) :: ws) ({ frames := 0, cells := 0, slots := 0, locals := 0 } : Room)) (fun a U => a = #[(.int 7)] ∧ Z.Warmed39 U.vm ∧ U.heap = h0) (fun _ _ _ _ _ => True) (fun _ U o U' => ∃ v L, o = .returned v ∧ own_p_7_Q Z w_DEMAND_BID w_DECREMENT_BID w_METERED_LOAD w_EXTERNAL_SALE w_IBT_LOAD w_SUPPLY_OFFER w_INCREMENT_OFFER w_METERED_GENERATION w_EXTERNAL_PURCHASE w_IBT_MARKET w_IBT_MARKET_EXCL h0 n0 v U'.heap L ∧ FrameEnd U o U' L ({ frames := 0, cells := 0, slots := 0, locals := 0 } : Room).cells ({ frames := 0, cells := 0, slots := 0, locals := 0 } : Room).slots) := by
  refine MetFree.of_bodySF (plainFor_of_name own_pn1) hisR ?_
  intro p e s m args below meth c s₁ Bd hml0 hP hK
  obtain ⟨rfl, hZ, hh⟩ := hP
  have hx := Bd.exec
  have hby := Bd.bytes
  have hml : c.maxLocals = 1 := hml0
  have hown : s.vm.findClass "com/example/holdfast/holdfast/PositionKindCarriesIntoRealTimePinLaw" = some m.cls := findClass_of_methodNamed Bd.named
  have hnm := (name_of_methodNamed Bd.named Bd.method).1
  have X0 : Stand p l e ({ frames := 0, cells := 0, slots := 0, locals := 0 } : Room) s m #[(.int 7)] below meth c s₁ [] 0 0 := Stand.of_body Bd
  have e0 : s₁.heap = h0 := by rw [← hh, Bd.state]; rfl
  have N0 := Fr.nil n0
  have pre0 : ∀ t, Steps p.tables e below (s₁.setTop (mkF m 0 #[iv 7] [])) t → Steps p.tables e below (s₁.setTop (entryFrame m #[(.int 7)] 1)) t := fun t k => castTop (own_p_7_ef m ) k
  obtain ⟨T1, X1, e1, st1⟩ := getS2 X0 hx hZ hown (host := "") (Or.inl (hw _ (List.mem_of_getElem? (i := 19) rfl))) Via.refl e0 (U_METERED_GENERATION.1.ext O0.2) (g := (mkF m 69 #[iv 7] [])) rfl (hb hby own_d1_69)
  obtain ⟨fs, hr, hrun, hended, hW, hsame⟩ := X1.leave (v := some (.ref w_METERED_GENERATION)) (fun h => by rw [Bd.returns] at h; cases h)
  refine ⟨_, _, pre0 _ ?_, hrun, hended, _, _, rfl, ?_, ⟨_, rfl⟩, hW, hsame.mono (by decide) (by decide)⟩
  · show Steps p.tables e below (s₁.setTop (mkF m 0 #[iv 7] [])) _
    refine XS.iloadN X0.here hx rfl (hb hby own_d1_0) rfl ?_
    show Steps p.tables e below (s₁.setTop (mkF m 1 #[iv 7] [(.int 7)])) _
    refine XS.ifYes X0.here hx rfl (pc0 := 1) (pc' := 8) rfl (hb hby own_d1_1) rfl ((if0 _ _).trans (feq (by decide)).2) (by decide) (by decide) ?_
    show Steps p.tables e below (s₁.setTop (mkF m 8 #[iv 7] [])) _
    refine XS.iloadN X0.here hx rfl (hb hby own_d1_8) rfl ?_
    show Steps p.tables e below (s₁.setTop (mkF m 9 #[iv 7] [(.int 7)])) _
    refine XS.iconst X0.here hx rfl (hb hby own_d1_9) ?_
    show Steps p.tables e below (s₁.setTop (mkF m 10 #[iv 7] [(.int 1), (.int 7)])) _
    refine XS.icmpYes X0.here hx rfl (pc0 := 10) (pc' := 17) rfl (hb hby own_d1_10) rfl (feq (by decide)).2 (by decide) (by decide) ?_
    show Steps p.tables e below (s₁.setTop (mkF m 17 #[iv 7] [])) _
    refine XS.iloadN X0.here hx rfl (hb hby own_d1_17) rfl ?_
    show Steps p.tables e below (s₁.setTop (mkF m 18 #[iv 7] [(.int 7)])) _
    refine XS.iconst X0.here hx rfl (hb hby own_d1_18) ?_
    show Steps p.tables e below (s₁.setTop (mkF m 19 #[iv 7] [(.int 2), (.int 7)])) _
    refine XS.icmpYes X0.here hx rfl (pc0 := 19) (pc' := 26) rfl (hb hby own_d1_19) rfl (feq (by decide)).2 (by decide) (by decide) ?_
    show Steps p.tables e below (s₁.setTop (mkF m 26 #[iv 7] [])) _
    refine XS.iloadN X0.here hx rfl (hb hby own_d1_26) rfl ?_
    show Steps p.tables e below (s₁.setTop (mkF m 27 #[iv 7] [(.int 7)])) _
    refine XS.iconst X0.here hx rfl (hb hby own_d1_27) ?_
    show Steps p.tables e below (s₁.setTop (mkF m 28 #[iv 7] [(.int 3), (.int 7)])) _
    refine XS.icmpYes X0.here hx rfl (pc0 := 28) (pc' := 35) rfl (hb hby own_d1_28) rfl (feq (by decide)).2 (by decide) (by decide) ?_
    show Steps p.tables e below (s₁.setTop (mkF m 35 #[iv 7] [])) _
    refine XS.iloadN X0.here hx rfl (hb hby own_d1_35) rfl ?_
    show Steps p.tables e below (s₁.setTop (mkF m 36 #[iv 7] [(.int 7)])) _
    refine XS.iconst X0.here hx rfl (hb hby own_d1_36) ?_
    show Steps p.tables e below (s₁.setTop (mkF m 37 #[iv 7] [(.int 4), (.int 7)])) _
    refine XS.icmpYes X0.here hx rfl (pc0 := 37) (pc' := 44) rfl (hb hby own_d1_37) rfl (feq (by decide)).2 (by decide) (by decide) ?_
    show Steps p.tables e below (s₁.setTop (mkF m 44 #[iv 7] [])) _
    refine XS.iloadN X0.here hx rfl (hb hby own_d1_44) rfl ?_
    show Steps p.tables e below (s₁.setTop (mkF m 45 #[iv 7] [(.int 7)])) _
    refine XS.iconst X0.here hx rfl (hb hby own_d1_45) ?_
    show Steps p.tables e below (s₁.setTop (mkF m 46 #[iv 7] [(.int 5), (.int 7)])) _
    refine XS.icmpYes X0.here hx rfl (pc0 := 46) (pc' := 53) rfl (hb hby own_d1_46) rfl (feq (by decide)).2 (by decide) (by decide) ?_
    show Steps p.tables e below (s₁.setTop (mkF m 53 #[iv 7] [])) _
    refine XS.iloadN X0.here hx rfl (hb hby own_d1_53) rfl ?_
    show Steps p.tables e below (s₁.setTop (mkF m 54 #[iv 7] [(.int 7)])) _
    refine XS.bipush X0.here hx rfl (hb hby own_d1_54) ?_
    show Steps p.tables e below (s₁.setTop (mkF m 56 #[iv 7] [(.int 6), (.int 7)])) _
    refine XS.icmpYes X0.here hx rfl (pc0 := 56) (pc' := 63) rfl (hb hby own_d1_56) rfl (feq (by decide)).2 (by decide) (by decide) ?_
    show Steps p.tables e below (s₁.setTop (mkF m 63 #[iv 7] [])) _
    refine XS.iloadN X0.here hx rfl (hb hby own_d1_63) rfl ?_
    show Steps p.tables e below (s₁.setTop (mkF m 64 #[iv 7] [(.int 7)])) _
    refine XS.bipush X0.here hx rfl (hb hby own_d1_64) ?_
    show Steps p.tables e below (s₁.setTop (mkF m 66 #[iv 7] [(.int 7), (.int 7)])) _
    refine XS.icmpNo X0.here hx rfl (hb hby own_d1_66) rfl (teq (by decide)).2 ?_
    show Steps p.tables e below (s₁.setTop (mkF m 69 #[iv 7] [])) _
    refine st1 _ ?_
    show Steps p.tables e below (T1.setTop (mkF m 72 #[iv 7] [(.ref w_METERED_GENERATION)])) _
    jvm_step X1.here [X1.here.top, hx, (hb hby own_d1_72), X1.method', Bd.returns, Value.isRef, FieldType.isReference]
    first | (intro acts; rw [hr _ acts rfl rfl rfl]) | rw [hr _ _ rfl rfl rfl]
    exact Steps.refl _
  · show own_p_7_Q Z w_DEMAND_BID w_DECREMENT_BID w_METERED_LOAD w_EXTERNAL_SALE w_IBT_LOAD w_SUPPLY_OFFER w_INCREMENT_OFFER w_METERED_GENERATION w_EXTERNAL_PURCHASE w_IBT_MARKET w_IBT_MARKET_EXCL h0 n0 _ T1.heap _
    rw [e1]
    exact ⟨rfl, N0, rfl⟩
theorem own_p_8_ef (m : MethodId)  : entryFrame m #[(.int 8)] 1 = mkF m 0 #[iv 8] [] := by first | (simp [entryFrame, mkF, argsToLocals, Value.category]; done) | rfl
def own_p_8_Q (Z : State) (w_DEMAND_BID : Addr) (w_DECREMENT_BID : Addr) (w_METERED_LOAD : Addr) (w_EXTERNAL_SALE : Addr) (w_IBT_LOAD : Addr) (w_SUPPLY_OFFER : Addr) (w_INCREMENT_OFFER : Addr) (w_METERED_GENERATION : Addr) (w_EXTERNAL_PURCHASE : Addr) (w_IBT_MARKET : Addr) (w_IBT_MARKET_EXCL : Addr) (h0 : Heap) (n0 : Nat) (v : Option Value) (h : Heap) (L : List Loc) : Prop := v = some (.ref w_EXTERNAL_PURCHASE) ∧ Fr n0 L ∧ h = h0
set_option maxRecDepth 65536 in
set_option maxHeartbeats 40000000 in
theorem own_p_8 (l : Launch) (Z : State) (a0 : Array Value) (hw : ∀ d ∈ tables_1, d.before a0 Z = true) (ws : List Jvm.Cond) (w_DEMAND_BID : Addr) (w_DECREMENT_BID : Addr) (w_METERED_LOAD : Addr) (w_EXTERNAL_SALE : Addr) (w_IBT_LOAD : Addr) (w_SUPPLY_OFFER : Addr) (w_INCREMENT_OFFER : Addr) (w_METERED_GENERATION : Addr) (w_EXTERNAL_PURCHASE : Addr) (w_IBT_MARKET : Addr) (w_IBT_MARKET_EXCL : Addr) (h0 : Heap) (n0 : Nat) (O0 : Old Z n0 h0) (U_DEMAND_BID : own_En Z Z.heap "com/example/holdfast/holdfast/PositionKind" "DEMAND_BID" "Lcom/example/holdfast/holdfast/PositionKind;" w_DEMAND_BID (0 : Int32)) (U_DECREMENT_BID : own_En Z Z.heap "com/example/holdfast/holdfast/PositionKind" "DECREMENT_BID" "Lcom/example/holdfast/holdfast/PositionKind;" w_DECREMENT_BID (1 : Int32)) (U_METERED_LOAD : own_En Z Z.heap "com/example/holdfast/holdfast/PositionKind" "METERED_LOAD" "Lcom/example/holdfast/holdfast/PositionKind;" w_METERED_LOAD (2 : Int32)) (U_EXTERNAL_SALE : own_En Z Z.heap "com/example/holdfast/holdfast/PositionKind" "EXTERNAL_SALE" "Lcom/example/holdfast/holdfast/PositionKind;" w_EXTERNAL_SALE (3 : Int32)) (U_IBT_LOAD : own_En Z Z.heap "com/example/holdfast/holdfast/PositionKind" "IBT_LOAD" "Lcom/example/holdfast/holdfast/PositionKind;" w_IBT_LOAD (4 : Int32)) (U_SUPPLY_OFFER : own_En Z Z.heap "com/example/holdfast/holdfast/PositionKind" "SUPPLY_OFFER" "Lcom/example/holdfast/holdfast/PositionKind;" w_SUPPLY_OFFER (5 : Int32)) (U_INCREMENT_OFFER : own_En Z Z.heap "com/example/holdfast/holdfast/PositionKind" "INCREMENT_OFFER" "Lcom/example/holdfast/holdfast/PositionKind;" w_INCREMENT_OFFER (6 : Int32)) (U_METERED_GENERATION : own_En Z Z.heap "com/example/holdfast/holdfast/PositionKind" "METERED_GENERATION" "Lcom/example/holdfast/holdfast/PositionKind;" w_METERED_GENERATION (7 : Int32)) (U_EXTERNAL_PURCHASE : own_En Z Z.heap "com/example/holdfast/holdfast/PositionKind" "EXTERNAL_PURCHASE" "Lcom/example/holdfast/holdfast/PositionKind;" w_EXTERNAL_PURCHASE (8 : Int32)) (U_IBT_MARKET : own_En Z Z.heap "com/example/holdfast/holdfast/PositionKind" "IBT_MARKET" "Lcom/example/holdfast/holdfast/PositionKind;" w_IBT_MARKET (9 : Int32)) (U_IBT_MARKET_EXCL : own_En Z Z.heap "com/example/holdfast/holdfast/PositionKind" "IBT_MARKET_EXCL" "Lcom/example/holdfast/holdfast/PositionKind;" w_IBT_MARKET_EXCL (10 : Int32)) :
    MetFree l (⟨"com/example/holdfast/holdfast/PositionKindCarriesIntoRealTimePinLaw", "kindAt", "(I)Lcom/example/holdfast/holdfast/PositionKind;"⟩ : MethodName) (head1 (Jvm.Cond.code (⟨"com/example/holdfast/holdfast/PositionKindCarriesIntoRealTimePinLaw", "kindAt", "(I)Lcom/example/holdfast/holdfast/PositionKind;"⟩ : MethodName) method_2_code 1 (some (.object "com/example/holdfast/holdfast/PositionKind")) :: ws) ({ frames := 0, cells := 0, slots := 0, locals := 0 } : Room)) (fun a U => a = #[(.int 8)] ∧ Z.Warmed39 U.vm ∧ U.heap = h0) (fun _ _ _ _ _ => True) (fun _ U o U' => ∃ v L, o = .returned v ∧ own_p_8_Q Z w_DEMAND_BID w_DECREMENT_BID w_METERED_LOAD w_EXTERNAL_SALE w_IBT_LOAD w_SUPPLY_OFFER w_INCREMENT_OFFER w_METERED_GENERATION w_EXTERNAL_PURCHASE w_IBT_MARKET w_IBT_MARKET_EXCL h0 n0 v U'.heap L ∧ FrameEnd U o U' L ({ frames := 0, cells := 0, slots := 0, locals := 0 } : Room).cells ({ frames := 0, cells := 0, slots := 0, locals := 0 } : Room).slots) := by
  refine MetFree.of_bodySF (plainFor_of_name own_pn1) hisR ?_
  intro p e s m args below meth c s₁ Bd hml0 hP hK
  obtain ⟨rfl, hZ, hh⟩ := hP
  have hx := Bd.exec
  have hby := Bd.bytes
  have hml : c.maxLocals = 1 := hml0
  have hown : s.vm.findClass "com/example/holdfast/holdfast/PositionKindCarriesIntoRealTimePinLaw" = some m.cls := findClass_of_methodNamed Bd.named
  have hnm := (name_of_methodNamed Bd.named Bd.method).1
  have X0 : Stand p l e ({ frames := 0, cells := 0, slots := 0, locals := 0 } : Room) s m #[(.int 8)] below meth c s₁ [] 0 0 := Stand.of_body Bd
  have e0 : s₁.heap = h0 := by rw [← hh, Bd.state]; rfl
  have N0 := Fr.nil n0
  have pre0 : ∀ t, Steps p.tables e below (s₁.setTop (mkF m 0 #[iv 8] [])) t → Steps p.tables e below (s₁.setTop (entryFrame m #[(.int 8)] 1)) t := fun t k => castTop (own_p_8_ef m ) k
  obtain ⟨T1, X1, e1, st1⟩ := getS2 X0 hx hZ hown (host := "") (Or.inl (hw _ (List.mem_of_getElem? (i := 21) rfl))) Via.refl e0 (U_EXTERNAL_PURCHASE.1.ext O0.2) (g := (mkF m 79 #[iv 8] [])) rfl (hb hby own_d1_79)
  obtain ⟨fs, hr, hrun, hended, hW, hsame⟩ := X1.leave (v := some (.ref w_EXTERNAL_PURCHASE)) (fun h => by rw [Bd.returns] at h; cases h)
  refine ⟨_, _, pre0 _ ?_, hrun, hended, _, _, rfl, ?_, ⟨_, rfl⟩, hW, hsame.mono (by decide) (by decide)⟩
  · show Steps p.tables e below (s₁.setTop (mkF m 0 #[iv 8] [])) _
    refine XS.iloadN X0.here hx rfl (hb hby own_d1_0) rfl ?_
    show Steps p.tables e below (s₁.setTop (mkF m 1 #[iv 8] [(.int 8)])) _
    refine XS.ifYes X0.here hx rfl (pc0 := 1) (pc' := 8) rfl (hb hby own_d1_1) rfl ((if0 _ _).trans (feq (by decide)).2) (by decide) (by decide) ?_
    show Steps p.tables e below (s₁.setTop (mkF m 8 #[iv 8] [])) _
    refine XS.iloadN X0.here hx rfl (hb hby own_d1_8) rfl ?_
    show Steps p.tables e below (s₁.setTop (mkF m 9 #[iv 8] [(.int 8)])) _
    refine XS.iconst X0.here hx rfl (hb hby own_d1_9) ?_
    show Steps p.tables e below (s₁.setTop (mkF m 10 #[iv 8] [(.int 1), (.int 8)])) _
    refine XS.icmpYes X0.here hx rfl (pc0 := 10) (pc' := 17) rfl (hb hby own_d1_10) rfl (feq (by decide)).2 (by decide) (by decide) ?_
    show Steps p.tables e below (s₁.setTop (mkF m 17 #[iv 8] [])) _
    refine XS.iloadN X0.here hx rfl (hb hby own_d1_17) rfl ?_
    show Steps p.tables e below (s₁.setTop (mkF m 18 #[iv 8] [(.int 8)])) _
    refine XS.iconst X0.here hx rfl (hb hby own_d1_18) ?_
    show Steps p.tables e below (s₁.setTop (mkF m 19 #[iv 8] [(.int 2), (.int 8)])) _
    refine XS.icmpYes X0.here hx rfl (pc0 := 19) (pc' := 26) rfl (hb hby own_d1_19) rfl (feq (by decide)).2 (by decide) (by decide) ?_
    show Steps p.tables e below (s₁.setTop (mkF m 26 #[iv 8] [])) _
    refine XS.iloadN X0.here hx rfl (hb hby own_d1_26) rfl ?_
    show Steps p.tables e below (s₁.setTop (mkF m 27 #[iv 8] [(.int 8)])) _
    refine XS.iconst X0.here hx rfl (hb hby own_d1_27) ?_
    show Steps p.tables e below (s₁.setTop (mkF m 28 #[iv 8] [(.int 3), (.int 8)])) _
    refine XS.icmpYes X0.here hx rfl (pc0 := 28) (pc' := 35) rfl (hb hby own_d1_28) rfl (feq (by decide)).2 (by decide) (by decide) ?_
    show Steps p.tables e below (s₁.setTop (mkF m 35 #[iv 8] [])) _
    refine XS.iloadN X0.here hx rfl (hb hby own_d1_35) rfl ?_
    show Steps p.tables e below (s₁.setTop (mkF m 36 #[iv 8] [(.int 8)])) _
    refine XS.iconst X0.here hx rfl (hb hby own_d1_36) ?_
    show Steps p.tables e below (s₁.setTop (mkF m 37 #[iv 8] [(.int 4), (.int 8)])) _
    refine XS.icmpYes X0.here hx rfl (pc0 := 37) (pc' := 44) rfl (hb hby own_d1_37) rfl (feq (by decide)).2 (by decide) (by decide) ?_
    show Steps p.tables e below (s₁.setTop (mkF m 44 #[iv 8] [])) _
    refine XS.iloadN X0.here hx rfl (hb hby own_d1_44) rfl ?_
    show Steps p.tables e below (s₁.setTop (mkF m 45 #[iv 8] [(.int 8)])) _
    refine XS.iconst X0.here hx rfl (hb hby own_d1_45) ?_
    show Steps p.tables e below (s₁.setTop (mkF m 46 #[iv 8] [(.int 5), (.int 8)])) _
    refine XS.icmpYes X0.here hx rfl (pc0 := 46) (pc' := 53) rfl (hb hby own_d1_46) rfl (feq (by decide)).2 (by decide) (by decide) ?_
    show Steps p.tables e below (s₁.setTop (mkF m 53 #[iv 8] [])) _
    refine XS.iloadN X0.here hx rfl (hb hby own_d1_53) rfl ?_
    show Steps p.tables e below (s₁.setTop (mkF m 54 #[iv 8] [(.int 8)])) _
    refine XS.bipush X0.here hx rfl (hb hby own_d1_54) ?_
    show Steps p.tables e below (s₁.setTop (mkF m 56 #[iv 8] [(.int 6), (.int 8)])) _
    refine XS.icmpYes X0.here hx rfl (pc0 := 56) (pc' := 63) rfl (hb hby own_d1_56) rfl (feq (by decide)).2 (by decide) (by decide) ?_
    show Steps p.tables e below (s₁.setTop (mkF m 63 #[iv 8] [])) _
    refine XS.iloadN X0.here hx rfl (hb hby own_d1_63) rfl ?_
    show Steps p.tables e below (s₁.setTop (mkF m 64 #[iv 8] [(.int 8)])) _
    refine XS.bipush X0.here hx rfl (hb hby own_d1_64) ?_
    show Steps p.tables e below (s₁.setTop (mkF m 66 #[iv 8] [(.int 7), (.int 8)])) _
    refine XS.icmpYes X0.here hx rfl (pc0 := 66) (pc' := 73) rfl (hb hby own_d1_66) rfl (feq (by decide)).2 (by decide) (by decide) ?_
    show Steps p.tables e below (s₁.setTop (mkF m 73 #[iv 8] [])) _
    refine XS.iloadN X0.here hx rfl (hb hby own_d1_73) rfl ?_
    show Steps p.tables e below (s₁.setTop (mkF m 74 #[iv 8] [(.int 8)])) _
    refine XS.bipush X0.here hx rfl (hb hby own_d1_74) ?_
    show Steps p.tables e below (s₁.setTop (mkF m 76 #[iv 8] [(.int 8), (.int 8)])) _
    refine XS.icmpNo X0.here hx rfl (hb hby own_d1_76) rfl (teq (by decide)).2 ?_
    show Steps p.tables e below (s₁.setTop (mkF m 79 #[iv 8] [])) _
    refine st1 _ ?_
    show Steps p.tables e below (T1.setTop (mkF m 82 #[iv 8] [(.ref w_EXTERNAL_PURCHASE)])) _
    jvm_step X1.here [X1.here.top, hx, (hb hby own_d1_82), X1.method', Bd.returns, Value.isRef, FieldType.isReference]
    first | (intro acts; rw [hr _ acts rfl rfl rfl]) | rw [hr _ _ rfl rfl rfl]
    exact Steps.refl _
  · show own_p_8_Q Z w_DEMAND_BID w_DECREMENT_BID w_METERED_LOAD w_EXTERNAL_SALE w_IBT_LOAD w_SUPPLY_OFFER w_INCREMENT_OFFER w_METERED_GENERATION w_EXTERNAL_PURCHASE w_IBT_MARKET w_IBT_MARKET_EXCL h0 n0 _ T1.heap _
    rw [e1]
    exact ⟨rfl, N0, rfl⟩
theorem own_p_9_ef (m : MethodId)  : entryFrame m #[(.int 9)] 1 = mkF m 0 #[iv 9] [] := by first | (simp [entryFrame, mkF, argsToLocals, Value.category]; done) | rfl
def own_p_9_Q (Z : State) (w_DEMAND_BID : Addr) (w_DECREMENT_BID : Addr) (w_METERED_LOAD : Addr) (w_EXTERNAL_SALE : Addr) (w_IBT_LOAD : Addr) (w_SUPPLY_OFFER : Addr) (w_INCREMENT_OFFER : Addr) (w_METERED_GENERATION : Addr) (w_EXTERNAL_PURCHASE : Addr) (w_IBT_MARKET : Addr) (w_IBT_MARKET_EXCL : Addr) (h0 : Heap) (n0 : Nat) (v : Option Value) (h : Heap) (L : List Loc) : Prop := v = some (.ref w_IBT_MARKET) ∧ Fr n0 L ∧ h = h0
set_option maxRecDepth 65536 in
set_option maxHeartbeats 40000000 in
theorem own_p_9 (l : Launch) (Z : State) (a0 : Array Value) (hw : ∀ d ∈ tables_1, d.before a0 Z = true) (ws : List Jvm.Cond) (w_DEMAND_BID : Addr) (w_DECREMENT_BID : Addr) (w_METERED_LOAD : Addr) (w_EXTERNAL_SALE : Addr) (w_IBT_LOAD : Addr) (w_SUPPLY_OFFER : Addr) (w_INCREMENT_OFFER : Addr) (w_METERED_GENERATION : Addr) (w_EXTERNAL_PURCHASE : Addr) (w_IBT_MARKET : Addr) (w_IBT_MARKET_EXCL : Addr) (h0 : Heap) (n0 : Nat) (O0 : Old Z n0 h0) (U_DEMAND_BID : own_En Z Z.heap "com/example/holdfast/holdfast/PositionKind" "DEMAND_BID" "Lcom/example/holdfast/holdfast/PositionKind;" w_DEMAND_BID (0 : Int32)) (U_DECREMENT_BID : own_En Z Z.heap "com/example/holdfast/holdfast/PositionKind" "DECREMENT_BID" "Lcom/example/holdfast/holdfast/PositionKind;" w_DECREMENT_BID (1 : Int32)) (U_METERED_LOAD : own_En Z Z.heap "com/example/holdfast/holdfast/PositionKind" "METERED_LOAD" "Lcom/example/holdfast/holdfast/PositionKind;" w_METERED_LOAD (2 : Int32)) (U_EXTERNAL_SALE : own_En Z Z.heap "com/example/holdfast/holdfast/PositionKind" "EXTERNAL_SALE" "Lcom/example/holdfast/holdfast/PositionKind;" w_EXTERNAL_SALE (3 : Int32)) (U_IBT_LOAD : own_En Z Z.heap "com/example/holdfast/holdfast/PositionKind" "IBT_LOAD" "Lcom/example/holdfast/holdfast/PositionKind;" w_IBT_LOAD (4 : Int32)) (U_SUPPLY_OFFER : own_En Z Z.heap "com/example/holdfast/holdfast/PositionKind" "SUPPLY_OFFER" "Lcom/example/holdfast/holdfast/PositionKind;" w_SUPPLY_OFFER (5 : Int32)) (U_INCREMENT_OFFER : own_En Z Z.heap "com/example/holdfast/holdfast/PositionKind" "INCREMENT_OFFER" "Lcom/example/holdfast/holdfast/PositionKind;" w_INCREMENT_OFFER (6 : Int32)) (U_METERED_GENERATION : own_En Z Z.heap "com/example/holdfast/holdfast/PositionKind" "METERED_GENERATION" "Lcom/example/holdfast/holdfast/PositionKind;" w_METERED_GENERATION (7 : Int32)) (U_EXTERNAL_PURCHASE : own_En Z Z.heap "com/example/holdfast/holdfast/PositionKind" "EXTERNAL_PURCHASE" "Lcom/example/holdfast/holdfast/PositionKind;" w_EXTERNAL_PURCHASE (8 : Int32)) (U_IBT_MARKET : own_En Z Z.heap "com/example/holdfast/holdfast/PositionKind" "IBT_MARKET" "Lcom/example/holdfast/holdfast/PositionKind;" w_IBT_MARKET (9 : Int32)) (U_IBT_MARKET_EXCL : own_En Z Z.heap "com/example/holdfast/holdfast/PositionKind" "IBT_MARKET_EXCL" "Lcom/example/holdfast/holdfast/PositionKind;" w_IBT_MARKET_EXCL (10 : Int32)) :
    MetFree l (⟨"com/example/holdfast/holdfast/PositionKindCarriesIntoRealTimePinLaw", "kindAt", "(I)Lcom/example/holdfast/holdfast/PositionKind;"⟩ : MethodName) (head1 (Jvm.Cond.code (⟨"com/example/holdfast/holdfast/PositionKindCarriesIntoRealTimePinLaw", "kindAt", "(I)Lcom/example/holdfast/holdfast/PositionKind;"⟩ : MethodName) method_2_code 1 (some (.object "com/example/holdfast/holdfast/PositionKind")) :: ws) ({ frames := 0, cells := 0, slots := 0, locals := 0 } : Room)) (fun a U => a = #[(.int 9)] ∧ Z.Warmed39 U.vm ∧ U.heap = h0) (fun _ _ _ _ _ => True) (fun _ U o U' => ∃ v L, o = .returned v ∧ own_p_9_Q Z w_DEMAND_BID w_DECREMENT_BID w_METERED_LOAD w_EXTERNAL_SALE w_IBT_LOAD w_SUPPLY_OFFER w_INCREMENT_OFFER w_METERED_GENERATION w_EXTERNAL_PURCHASE w_IBT_MARKET w_IBT_MARKET_EXCL h0 n0 v U'.heap L ∧ FrameEnd U o U' L ({ frames := 0, cells := 0, slots := 0, locals := 0 } : Room).cells ({ frames := 0, cells := 0, slots := 0, locals := 0 } : Room).slots) := by
  refine MetFree.of_bodySF (plainFor_of_name own_pn1) hisR ?_
  intro p e s m args below meth c s₁ Bd hml0 hP hK
  obtain ⟨rfl, hZ, hh⟩ := hP
  have hx := Bd.exec
  have hby := Bd.bytes
  have hml : c.maxLocals = 1 := hml0
  have hown : s.vm.findClass "com/example/holdfast/holdfast/PositionKindCarriesIntoRealTimePinLaw" = some m.cls := findClass_of_methodNamed Bd.named
  have hnm := (name_of_methodNamed Bd.named Bd.method).1
  have X0 : Stand p l e ({ frames := 0, cells := 0, slots := 0, locals := 0 } : Room) s m #[(.int 9)] below meth c s₁ [] 0 0 := Stand.of_body Bd
  have e0 : s₁.heap = h0 := by rw [← hh, Bd.state]; rfl
  have N0 := Fr.nil n0
  have pre0 : ∀ t, Steps p.tables e below (s₁.setTop (mkF m 0 #[iv 9] [])) t → Steps p.tables e below (s₁.setTop (entryFrame m #[(.int 9)] 1)) t := fun t k => castTop (own_p_9_ef m ) k
  obtain ⟨T1, X1, e1, st1⟩ := getS2 X0 hx hZ hown (host := "") (Or.inl (hw _ (List.mem_of_getElem? (i := 28) rfl))) Via.refl e0 (U_IBT_MARKET.1.ext O0.2) (g := (mkF m 89 #[iv 9] [])) rfl (hb hby own_d1_89)
  obtain ⟨fs, hr, hrun, hended, hW, hsame⟩ := X1.leave (v := some (.ref w_IBT_MARKET)) (fun h => by rw [Bd.returns] at h; cases h)
  refine ⟨_, _, pre0 _ ?_, hrun, hended, _, _, rfl, ?_, ⟨_, rfl⟩, hW, hsame.mono (by decide) (by decide)⟩
  · show Steps p.tables e below (s₁.setTop (mkF m 0 #[iv 9] [])) _
    refine XS.iloadN X0.here hx rfl (hb hby own_d1_0) rfl ?_
    show Steps p.tables e below (s₁.setTop (mkF m 1 #[iv 9] [(.int 9)])) _
    refine XS.ifYes X0.here hx rfl (pc0 := 1) (pc' := 8) rfl (hb hby own_d1_1) rfl ((if0 _ _).trans (feq (by decide)).2) (by decide) (by decide) ?_
    show Steps p.tables e below (s₁.setTop (mkF m 8 #[iv 9] [])) _
    refine XS.iloadN X0.here hx rfl (hb hby own_d1_8) rfl ?_
    show Steps p.tables e below (s₁.setTop (mkF m 9 #[iv 9] [(.int 9)])) _
    refine XS.iconst X0.here hx rfl (hb hby own_d1_9) ?_
    show Steps p.tables e below (s₁.setTop (mkF m 10 #[iv 9] [(.int 1), (.int 9)])) _
    refine XS.icmpYes X0.here hx rfl (pc0 := 10) (pc' := 17) rfl (hb hby own_d1_10) rfl (feq (by decide)).2 (by decide) (by decide) ?_
    show Steps p.tables e below (s₁.setTop (mkF m 17 #[iv 9] [])) _
    refine XS.iloadN X0.here hx rfl (hb hby own_d1_17) rfl ?_
    show Steps p.tables e below (s₁.setTop (mkF m 18 #[iv 9] [(.int 9)])) _
    refine XS.iconst X0.here hx rfl (hb hby own_d1_18) ?_
    show Steps p.tables e below (s₁.setTop (mkF m 19 #[iv 9] [(.int 2), (.int 9)])) _
    refine XS.icmpYes X0.here hx rfl (pc0 := 19) (pc' := 26) rfl (hb hby own_d1_19) rfl (feq (by decide)).2 (by decide) (by decide) ?_
    show Steps p.tables e below (s₁.setTop (mkF m 26 #[iv 9] [])) _
    refine XS.iloadN X0.here hx rfl (hb hby own_d1_26) rfl ?_
    show Steps p.tables e below (s₁.setTop (mkF m 27 #[iv 9] [(.int 9)])) _
    refine XS.iconst X0.here hx rfl (hb hby own_d1_27) ?_
    show Steps p.tables e below (s₁.setTop (mkF m 28 #[iv 9] [(.int 3), (.int 9)])) _
    refine XS.icmpYes X0.here hx rfl (pc0 := 28) (pc' := 35) rfl (hb hby own_d1_28) rfl (feq (by decide)).2 (by decide) (by decide) ?_
    show Steps p.tables e below (s₁.setTop (mkF m 35 #[iv 9] [])) _
    refine XS.iloadN X0.here hx rfl (hb hby own_d1_35) rfl ?_
    show Steps p.tables e below (s₁.setTop (mkF m 36 #[iv 9] [(.int 9)])) _
    refine XS.iconst X0.here hx rfl (hb hby own_d1_36) ?_
    show Steps p.tables e below (s₁.setTop (mkF m 37 #[iv 9] [(.int 4), (.int 9)])) _
    refine XS.icmpYes X0.here hx rfl (pc0 := 37) (pc' := 44) rfl (hb hby own_d1_37) rfl (feq (by decide)).2 (by decide) (by decide) ?_
    show Steps p.tables e below (s₁.setTop (mkF m 44 #[iv 9] [])) _
    refine XS.iloadN X0.here hx rfl (hb hby own_d1_44) rfl ?_
    show Steps p.tables e below (s₁.setTop (mkF m 45 #[iv 9] [(.int 9)])) _
    refine XS.iconst X0.here hx rfl (hb hby own_d1_45) ?_
    show Steps p.tables e below (s₁.setTop (mkF m 46 #[iv 9] [(.int 5), (.int 9)])) _
    refine XS.icmpYes X0.here hx rfl (pc0 := 46) (pc' := 53) rfl (hb hby own_d1_46) rfl (feq (by decide)).2 (by decide) (by decide) ?_
    show Steps p.tables e below (s₁.setTop (mkF m 53 #[iv 9] [])) _
    refine XS.iloadN X0.here hx rfl (hb hby own_d1_53) rfl ?_
    show Steps p.tables e below (s₁.setTop (mkF m 54 #[iv 9] [(.int 9)])) _
    refine XS.bipush X0.here hx rfl (hb hby own_d1_54) ?_
    show Steps p.tables e below (s₁.setTop (mkF m 56 #[iv 9] [(.int 6), (.int 9)])) _
    refine XS.icmpYes X0.here hx rfl (pc0 := 56) (pc' := 63) rfl (hb hby own_d1_56) rfl (feq (by decide)).2 (by decide) (by decide) ?_
    show Steps p.tables e below (s₁.setTop (mkF m 63 #[iv 9] [])) _
    refine XS.iloadN X0.here hx rfl (hb hby own_d1_63) rfl ?_
    show Steps p.tables e below (s₁.setTop (mkF m 64 #[iv 9] [(.int 9)])) _
    refine XS.bipush X0.here hx rfl (hb hby own_d1_64) ?_
    show Steps p.tables e below (s₁.setTop (mkF m 66 #[iv 9] [(.int 7), (.int 9)])) _
    refine XS.icmpYes X0.here hx rfl (pc0 := 66) (pc' := 73) rfl (hb hby own_d1_66) rfl (feq (by decide)).2 (by decide) (by decide) ?_
    show Steps p.tables e below (s₁.setTop (mkF m 73 #[iv 9] [])) _
    refine XS.iloadN X0.here hx rfl (hb hby own_d1_73) rfl ?_
    show Steps p.tables e below (s₁.setTop (mkF m 74 #[iv 9] [(.int 9)])) _
    refine XS.bipush X0.here hx rfl (hb hby own_d1_74) ?_
    show Steps p.tables e below (s₁.setTop (mkF m 76 #[iv 9] [(.int 8), (.int 9)])) _
    refine XS.icmpYes X0.here hx rfl (pc0 := 76) (pc' := 83) rfl (hb hby own_d1_76) rfl (feq (by decide)).2 (by decide) (by decide) ?_
    show Steps p.tables e below (s₁.setTop (mkF m 83 #[iv 9] [])) _
    refine XS.iloadN X0.here hx rfl (hb hby own_d1_83) rfl ?_
    show Steps p.tables e below (s₁.setTop (mkF m 84 #[iv 9] [(.int 9)])) _
    refine XS.bipush X0.here hx rfl (hb hby own_d1_84) ?_
    show Steps p.tables e below (s₁.setTop (mkF m 86 #[iv 9] [(.int 9), (.int 9)])) _
    refine XS.icmpNo X0.here hx rfl (hb hby own_d1_86) rfl (teq (by decide)).2 ?_
    show Steps p.tables e below (s₁.setTop (mkF m 89 #[iv 9] [])) _
    refine st1 _ ?_
    show Steps p.tables e below (T1.setTop (mkF m 92 #[iv 9] [(.ref w_IBT_MARKET)])) _
    jvm_step X1.here [X1.here.top, hx, (hb hby own_d1_92), X1.method', Bd.returns, Value.isRef, FieldType.isReference]
    first | (intro acts; rw [hr _ acts rfl rfl rfl]) | rw [hr _ _ rfl rfl rfl]
    exact Steps.refl _
  · show own_p_9_Q Z w_DEMAND_BID w_DECREMENT_BID w_METERED_LOAD w_EXTERNAL_SALE w_IBT_LOAD w_SUPPLY_OFFER w_INCREMENT_OFFER w_METERED_GENERATION w_EXTERNAL_PURCHASE w_IBT_MARKET w_IBT_MARKET_EXCL h0 n0 _ T1.heap _
    rw [e1]
    exact ⟨rfl, N0, rfl⟩
theorem own_p_10_ef (m : MethodId)  : entryFrame m #[(.int 10)] 1 = mkF m 0 #[iv 10] [] := by first | (simp [entryFrame, mkF, argsToLocals, Value.category]; done) | rfl
def own_p_10_Q (Z : State) (w_DEMAND_BID : Addr) (w_DECREMENT_BID : Addr) (w_METERED_LOAD : Addr) (w_EXTERNAL_SALE : Addr) (w_IBT_LOAD : Addr) (w_SUPPLY_OFFER : Addr) (w_INCREMENT_OFFER : Addr) (w_METERED_GENERATION : Addr) (w_EXTERNAL_PURCHASE : Addr) (w_IBT_MARKET : Addr) (w_IBT_MARKET_EXCL : Addr) (h0 : Heap) (n0 : Nat) (v : Option Value) (h : Heap) (L : List Loc) : Prop := v = some (.ref w_IBT_MARKET_EXCL) ∧ Fr n0 L ∧ h = h0
set_option maxRecDepth 65536 in
set_option maxHeartbeats 40000000 in
theorem own_p_10 (l : Launch) (Z : State) (a0 : Array Value) (hw : ∀ d ∈ tables_1, d.before a0 Z = true) (ws : List Jvm.Cond) (w_DEMAND_BID : Addr) (w_DECREMENT_BID : Addr) (w_METERED_LOAD : Addr) (w_EXTERNAL_SALE : Addr) (w_IBT_LOAD : Addr) (w_SUPPLY_OFFER : Addr) (w_INCREMENT_OFFER : Addr) (w_METERED_GENERATION : Addr) (w_EXTERNAL_PURCHASE : Addr) (w_IBT_MARKET : Addr) (w_IBT_MARKET_EXCL : Addr) (h0 : Heap) (n0 : Nat) (O0 : Old Z n0 h0) (U_DEMAND_BID : own_En Z Z.heap "com/example/holdfast/holdfast/PositionKind" "DEMAND_BID" "Lcom/example/holdfast/holdfast/PositionKind;" w_DEMAND_BID (0 : Int32)) (U_DECREMENT_BID : own_En Z Z.heap "com/example/holdfast/holdfast/PositionKind" "DECREMENT_BID" "Lcom/example/holdfast/holdfast/PositionKind;" w_DECREMENT_BID (1 : Int32)) (U_METERED_LOAD : own_En Z Z.heap "com/example/holdfast/holdfast/PositionKind" "METERED_LOAD" "Lcom/example/holdfast/holdfast/PositionKind;" w_METERED_LOAD (2 : Int32)) (U_EXTERNAL_SALE : own_En Z Z.heap "com/example/holdfast/holdfast/PositionKind" "EXTERNAL_SALE" "Lcom/example/holdfast/holdfast/PositionKind;" w_EXTERNAL_SALE (3 : Int32)) (U_IBT_LOAD : own_En Z Z.heap "com/example/holdfast/holdfast/PositionKind" "IBT_LOAD" "Lcom/example/holdfast/holdfast/PositionKind;" w_IBT_LOAD (4 : Int32)) (U_SUPPLY_OFFER : own_En Z Z.heap "com/example/holdfast/holdfast/PositionKind" "SUPPLY_OFFER" "Lcom/example/holdfast/holdfast/PositionKind;" w_SUPPLY_OFFER (5 : Int32)) (U_INCREMENT_OFFER : own_En Z Z.heap "com/example/holdfast/holdfast/PositionKind" "INCREMENT_OFFER" "Lcom/example/holdfast/holdfast/PositionKind;" w_INCREMENT_OFFER (6 : Int32)) (U_METERED_GENERATION : own_En Z Z.heap "com/example/holdfast/holdfast/PositionKind" "METERED_GENERATION" "Lcom/example/holdfast/holdfast/PositionKind;" w_METERED_GENERATION (7 : Int32)) (U_EXTERNAL_PURCHASE : own_En Z Z.heap "com/example/holdfast/holdfast/PositionKind" "EXTERNAL_PURCHASE" "Lcom/example/holdfast/holdfast/PositionKind;" w_EXTERNAL_PURCHASE (8 : Int32)) (U_IBT_MARKET : own_En Z Z.heap "com/example/holdfast/holdfast/PositionKind" "IBT_MARKET" "Lcom/example/holdfast/holdfast/PositionKind;" w_IBT_MARKET (9 : Int32)) (U_IBT_MARKET_EXCL : own_En Z Z.heap "com/example/holdfast/holdfast/PositionKind" "IBT_MARKET_EXCL" "Lcom/example/holdfast/holdfast/PositionKind;" w_IBT_MARKET_EXCL (10 : Int32)) :
    MetFree l (⟨"com/example/holdfast/holdfast/PositionKindCarriesIntoRealTimePinLaw", "kindAt", "(I)Lcom/example/holdfast/holdfast/PositionKind;"⟩ : MethodName) (head1 (Jvm.Cond.code (⟨"com/example/holdfast/holdfast/PositionKindCarriesIntoRealTimePinLaw", "kindAt", "(I)Lcom/example/holdfast/holdfast/PositionKind;"⟩ : MethodName) method_2_code 1 (some (.object "com/example/holdfast/holdfast/PositionKind")) :: ws) ({ frames := 0, cells := 0, slots := 0, locals := 0 } : Room)) (fun a U => a = #[(.int 10)] ∧ Z.Warmed39 U.vm ∧ U.heap = h0) (fun _ _ _ _ _ => True) (fun _ U o U' => ∃ v L, o = .returned v ∧ own_p_10_Q Z w_DEMAND_BID w_DECREMENT_BID w_METERED_LOAD w_EXTERNAL_SALE w_IBT_LOAD w_SUPPLY_OFFER w_INCREMENT_OFFER w_METERED_GENERATION w_EXTERNAL_PURCHASE w_IBT_MARKET w_IBT_MARKET_EXCL h0 n0 v U'.heap L ∧ FrameEnd U o U' L ({ frames := 0, cells := 0, slots := 0, locals := 0 } : Room).cells ({ frames := 0, cells := 0, slots := 0, locals := 0 } : Room).slots) := by
  refine MetFree.of_bodySF (plainFor_of_name own_pn1) hisR ?_
  intro p e s m args below meth c s₁ Bd hml0 hP hK
  obtain ⟨rfl, hZ, hh⟩ := hP
  have hx := Bd.exec
  have hby := Bd.bytes
  have hml : c.maxLocals = 1 := hml0
  have hown : s.vm.findClass "com/example/holdfast/holdfast/PositionKindCarriesIntoRealTimePinLaw" = some m.cls := findClass_of_methodNamed Bd.named
  have hnm := (name_of_methodNamed Bd.named Bd.method).1
  have X0 : Stand p l e ({ frames := 0, cells := 0, slots := 0, locals := 0 } : Room) s m #[(.int 10)] below meth c s₁ [] 0 0 := Stand.of_body Bd
  have e0 : s₁.heap = h0 := by rw [← hh, Bd.state]; rfl
  have N0 := Fr.nil n0
  have pre0 : ∀ t, Steps p.tables e below (s₁.setTop (mkF m 0 #[iv 10] [])) t → Steps p.tables e below (s₁.setTop (entryFrame m #[(.int 10)] 1)) t := fun t k => castTop (own_p_10_ef m ) k
  obtain ⟨T1, X1, e1, st1⟩ := getS2 X0 hx hZ hown (host := "") (Or.inl (hw _ (List.mem_of_getElem? (i := 25) rfl))) Via.refl e0 (U_IBT_MARKET_EXCL.1.ext O0.2) (g := (mkF m 93 #[iv 10] [])) rfl (hb hby own_d1_93)
  obtain ⟨fs, hr, hrun, hended, hW, hsame⟩ := X1.leave (v := some (.ref w_IBT_MARKET_EXCL)) (fun h => by rw [Bd.returns] at h; cases h)
  refine ⟨_, _, pre0 _ ?_, hrun, hended, _, _, rfl, ?_, ⟨_, rfl⟩, hW, hsame.mono (by decide) (by decide)⟩
  · show Steps p.tables e below (s₁.setTop (mkF m 0 #[iv 10] [])) _
    refine XS.iloadN X0.here hx rfl (hb hby own_d1_0) rfl ?_
    show Steps p.tables e below (s₁.setTop (mkF m 1 #[iv 10] [(.int 10)])) _
    refine XS.ifYes X0.here hx rfl (pc0 := 1) (pc' := 8) rfl (hb hby own_d1_1) rfl ((if0 _ _).trans (feq (by decide)).2) (by decide) (by decide) ?_
    show Steps p.tables e below (s₁.setTop (mkF m 8 #[iv 10] [])) _
    refine XS.iloadN X0.here hx rfl (hb hby own_d1_8) rfl ?_
    show Steps p.tables e below (s₁.setTop (mkF m 9 #[iv 10] [(.int 10)])) _
    refine XS.iconst X0.here hx rfl (hb hby own_d1_9) ?_
    show Steps p.tables e below (s₁.setTop (mkF m 10 #[iv 10] [(.int 1), (.int 10)])) _
    refine XS.icmpYes X0.here hx rfl (pc0 := 10) (pc' := 17) rfl (hb hby own_d1_10) rfl (feq (by decide)).2 (by decide) (by decide) ?_
    show Steps p.tables e below (s₁.setTop (mkF m 17 #[iv 10] [])) _
    refine XS.iloadN X0.here hx rfl (hb hby own_d1_17) rfl ?_
    show Steps p.tables e below (s₁.setTop (mkF m 18 #[iv 10] [(.int 10)])) _
    refine XS.iconst X0.here hx rfl (hb hby own_d1_18) ?_
    show Steps p.tables e below (s₁.setTop (mkF m 19 #[iv 10] [(.int 2), (.int 10)])) _
    refine XS.icmpYes X0.here hx rfl (pc0 := 19) (pc' := 26) rfl (hb hby own_d1_19) rfl (feq (by decide)).2 (by decide) (by decide) ?_
    show Steps p.tables e below (s₁.setTop (mkF m 26 #[iv 10] [])) _
    refine XS.iloadN X0.here hx rfl (hb hby own_d1_26) rfl ?_
    show Steps p.tables e below (s₁.setTop (mkF m 27 #[iv 10] [(.int 10)])) _
    refine XS.iconst X0.here hx rfl (hb hby own_d1_27) ?_
    show Steps p.tables e below (s₁.setTop (mkF m 28 #[iv 10] [(.int 3), (.int 10)])) _
    refine XS.icmpYes X0.here hx rfl (pc0 := 28) (pc' := 35) rfl (hb hby own_d1_28) rfl (feq (by decide)).2 (by decide) (by decide) ?_
    show Steps p.tables e below (s₁.setTop (mkF m 35 #[iv 10] [])) _
    refine XS.iloadN X0.here hx rfl (hb hby own_d1_35) rfl ?_
    show Steps p.tables e below (s₁.setTop (mkF m 36 #[iv 10] [(.int 10)])) _
    refine XS.iconst X0.here hx rfl (hb hby own_d1_36) ?_
    show Steps p.tables e below (s₁.setTop (mkF m 37 #[iv 10] [(.int 4), (.int 10)])) _
    refine XS.icmpYes X0.here hx rfl (pc0 := 37) (pc' := 44) rfl (hb hby own_d1_37) rfl (feq (by decide)).2 (by decide) (by decide) ?_
    show Steps p.tables e below (s₁.setTop (mkF m 44 #[iv 10] [])) _
    refine XS.iloadN X0.here hx rfl (hb hby own_d1_44) rfl ?_
    show Steps p.tables e below (s₁.setTop (mkF m 45 #[iv 10] [(.int 10)])) _
    refine XS.iconst X0.here hx rfl (hb hby own_d1_45) ?_
    show Steps p.tables e below (s₁.setTop (mkF m 46 #[iv 10] [(.int 5), (.int 10)])) _
    refine XS.icmpYes X0.here hx rfl (pc0 := 46) (pc' := 53) rfl (hb hby own_d1_46) rfl (feq (by decide)).2 (by decide) (by decide) ?_
    show Steps p.tables e below (s₁.setTop (mkF m 53 #[iv 10] [])) _
    refine XS.iloadN X0.here hx rfl (hb hby own_d1_53) rfl ?_
    show Steps p.tables e below (s₁.setTop (mkF m 54 #[iv 10] [(.int 10)])) _
    refine XS.bipush X0.here hx rfl (hb hby own_d1_54) ?_
    show Steps p.tables e below (s₁.setTop (mkF m 56 #[iv 10] [(.int 6), (.int 10)])) _
    refine XS.icmpYes X0.here hx rfl (pc0 := 56) (pc' := 63) rfl (hb hby own_d1_56) rfl (feq (by decide)).2 (by decide) (by decide) ?_
    show Steps p.tables e below (s₁.setTop (mkF m 63 #[iv 10] [])) _
    refine XS.iloadN X0.here hx rfl (hb hby own_d1_63) rfl ?_
    show Steps p.tables e below (s₁.setTop (mkF m 64 #[iv 10] [(.int 10)])) _
    refine XS.bipush X0.here hx rfl (hb hby own_d1_64) ?_
    show Steps p.tables e below (s₁.setTop (mkF m 66 #[iv 10] [(.int 7), (.int 10)])) _
    refine XS.icmpYes X0.here hx rfl (pc0 := 66) (pc' := 73) rfl (hb hby own_d1_66) rfl (feq (by decide)).2 (by decide) (by decide) ?_
    show Steps p.tables e below (s₁.setTop (mkF m 73 #[iv 10] [])) _
    refine XS.iloadN X0.here hx rfl (hb hby own_d1_73) rfl ?_
    show Steps p.tables e below (s₁.setTop (mkF m 74 #[iv 10] [(.int 10)])) _
    refine XS.bipush X0.here hx rfl (hb hby own_d1_74) ?_
    show Steps p.tables e below (s₁.setTop (mkF m 76 #[iv 10] [(.int 8), (.int 10)])) _
    refine XS.icmpYes X0.here hx rfl (pc0 := 76) (pc' := 83) rfl (hb hby own_d1_76) rfl (feq (by decide)).2 (by decide) (by decide) ?_
    show Steps p.tables e below (s₁.setTop (mkF m 83 #[iv 10] [])) _
    refine XS.iloadN X0.here hx rfl (hb hby own_d1_83) rfl ?_
    show Steps p.tables e below (s₁.setTop (mkF m 84 #[iv 10] [(.int 10)])) _
    refine XS.bipush X0.here hx rfl (hb hby own_d1_84) ?_
    show Steps p.tables e below (s₁.setTop (mkF m 86 #[iv 10] [(.int 9), (.int 10)])) _
    refine XS.icmpYes X0.here hx rfl (pc0 := 86) (pc' := 93) rfl (hb hby own_d1_86) rfl (feq (by decide)).2 (by decide) (by decide) ?_
    show Steps p.tables e below (s₁.setTop (mkF m 93 #[iv 10] [])) _
    refine st1 _ ?_
    show Steps p.tables e below (T1.setTop (mkF m 96 #[iv 10] [(.ref w_IBT_MARKET_EXCL)])) _
    jvm_step X1.here [X1.here.top, hx, (hb hby own_d1_96), X1.method', Bd.returns, Value.isRef, FieldType.isReference]
    first | (intro acts; rw [hr _ acts rfl rfl rfl]) | rw [hr _ _ rfl rfl rfl]
    exact Steps.refl _
  · show own_p_10_Q Z w_DEMAND_BID w_DECREMENT_BID w_METERED_LOAD w_EXTERNAL_SALE w_IBT_LOAD w_SUPPLY_OFFER w_INCREMENT_OFFER w_METERED_GENERATION w_EXTERNAL_PURCHASE w_IBT_MARKET w_IBT_MARKET_EXCL h0 n0 _ T1.heap _
    rw [e1]
    exact ⟨rfl, N0, rfl⟩
theorem own_law0_ef (m : MethodId) (p0 : Int32) : entryFrame m #[(.int p0)] maxLocals = mkF m 0 #[iv p0, .unset, .unset, .unset] [] := by first | (simp [entryFrame, mkF, argsToLocals, Value.category, maxLocals]; done) | rfl
def own_law0_Q (Z : State) (w_DEMAND_BID : Addr) (w_DECREMENT_BID : Addr) (w_METERED_LOAD : Addr) (w_EXTERNAL_SALE : Addr) (w_IBT_LOAD : Addr) (w_SUPPLY_OFFER : Addr) (w_INCREMENT_OFFER : Addr) (w_METERED_GENERATION : Addr) (w_EXTERNAL_PURCHASE : Addr) (w_IBT_MARKET : Addr) (w_IBT_MARKET_EXCL : Addr) (p0 : Int32) (h0 : Heap) (n0 : Nat) (v : Option Value) (h : Heap) (L : List Loc) : Prop := v = some (.int 1) ∧ Fr n0 L ∧ True
set_option maxRecDepth 65536 in
set_option maxHeartbeats 40000000 in
theorem own_law0 (l : Launch) (Z : State) (a0 : Array Value) (hw : ∀ d ∈ tables_1, d.before a0 Z = true) (ws : List Jvm.Cond) (w_DEMAND_BID : Addr) (w_DECREMENT_BID : Addr) (w_METERED_LOAD : Addr) (w_EXTERNAL_SALE : Addr) (w_IBT_LOAD : Addr) (w_SUPPLY_OFFER : Addr) (w_INCREMENT_OFFER : Addr) (w_METERED_GENERATION : Addr) (w_EXTERNAL_PURCHASE : Addr) (w_IBT_MARKET : Addr) (w_IBT_MARKET_EXCL : Addr) (p0 : Int32) (h0 : Heap) (n0 : Nat) (O0 : Old Z n0 h0) (U_DEMAND_BID : own_En Z Z.heap "com/example/holdfast/holdfast/PositionKind" "DEMAND_BID" "Lcom/example/holdfast/holdfast/PositionKind;" w_DEMAND_BID (0 : Int32)) (U_DECREMENT_BID : own_En Z Z.heap "com/example/holdfast/holdfast/PositionKind" "DECREMENT_BID" "Lcom/example/holdfast/holdfast/PositionKind;" w_DECREMENT_BID (1 : Int32)) (U_METERED_LOAD : own_En Z Z.heap "com/example/holdfast/holdfast/PositionKind" "METERED_LOAD" "Lcom/example/holdfast/holdfast/PositionKind;" w_METERED_LOAD (2 : Int32)) (U_EXTERNAL_SALE : own_En Z Z.heap "com/example/holdfast/holdfast/PositionKind" "EXTERNAL_SALE" "Lcom/example/holdfast/holdfast/PositionKind;" w_EXTERNAL_SALE (3 : Int32)) (U_IBT_LOAD : own_En Z Z.heap "com/example/holdfast/holdfast/PositionKind" "IBT_LOAD" "Lcom/example/holdfast/holdfast/PositionKind;" w_IBT_LOAD (4 : Int32)) (U_SUPPLY_OFFER : own_En Z Z.heap "com/example/holdfast/holdfast/PositionKind" "SUPPLY_OFFER" "Lcom/example/holdfast/holdfast/PositionKind;" w_SUPPLY_OFFER (5 : Int32)) (U_INCREMENT_OFFER : own_En Z Z.heap "com/example/holdfast/holdfast/PositionKind" "INCREMENT_OFFER" "Lcom/example/holdfast/holdfast/PositionKind;" w_INCREMENT_OFFER (6 : Int32)) (U_METERED_GENERATION : own_En Z Z.heap "com/example/holdfast/holdfast/PositionKind" "METERED_GENERATION" "Lcom/example/holdfast/holdfast/PositionKind;" w_METERED_GENERATION (7 : Int32)) (U_EXTERNAL_PURCHASE : own_En Z Z.heap "com/example/holdfast/holdfast/PositionKind" "EXTERNAL_PURCHASE" "Lcom/example/holdfast/holdfast/PositionKind;" w_EXTERNAL_PURCHASE (8 : Int32)) (U_IBT_MARKET : own_En Z Z.heap "com/example/holdfast/holdfast/PositionKind" "IBT_MARKET" "Lcom/example/holdfast/holdfast/PositionKind;" w_IBT_MARKET (9 : Int32)) (U_IBT_MARKET_EXCL : own_En Z Z.heap "com/example/holdfast/holdfast/PositionKind" "IBT_MARKET_EXCL" "Lcom/example/holdfast/holdfast/PositionKind;" w_IBT_MARKET_EXCL (10 : Int32)) (hk : (p0 &&& (2147483647 : Int32)) % (11 : Int32) = (0 : Int32)) :
    MetFree l x (head1 (Jvm.Cond.code x code maxLocals ret :: ws) room_1) (fun a U => a = #[(.int p0)] ∧ Z.Warmed39 U.vm ∧ U.heap = h0) (fun _ _ _ _ _ => True) (fun _ U o U' => ∃ v L, o = .returned v ∧ own_law0_Q Z w_DEMAND_BID w_DECREMENT_BID w_METERED_LOAD w_EXTERNAL_SALE w_IBT_LOAD w_SUPPLY_OFFER w_INCREMENT_OFFER w_METERED_GENERATION w_EXTERNAL_PURCHASE w_IBT_MARKET w_IBT_MARKET_EXCL p0 h0 n0 v U'.heap L ∧ FrameEnd U o U' L 0 0) := by
  refine MetFree.of_bodySF (plainFor_of_name own_pn1) hisR ?_
  intro p e s m args below meth c s₁ Bd hml0 hP hK
  obtain ⟨rfl, hZ, hh⟩ := hP
  have hx := Bd.exec
  have hby := Bd.bytes
  have hml : c.maxLocals = 4 := hml0
  have hown : s.vm.findClass "com/example/holdfast/holdfast/PositionKindCarriesIntoRealTimePinLaw" = some m.cls := findClass_of_methodNamed Bd.named
  have hnm := (name_of_methodNamed Bd.named Bd.method).1
  have X0 : Stand p l e room_1 s m #[(.int p0)] below meth c s₁ [] 0 0 := Stand.of_body Bd
  have e0 : s₁.heap = h0 := by rw [← hh, Bd.state]; rfl
  have N0 := Fr.nil n0
  have pre0 : ∀ t, Steps p.tables e below (s₁.setTop (mkF m 0 #[iv p0, .unset, .unset, .unset] [])) t → Steps p.tables e below (s₁.setTop (entryFrame m #[(.int p0)] maxLocals)) t := fun t k => castTop (own_law0_ef m p0) k
  obtain ⟨_, _, ⟨T1, L1, k1, n1⟩, -, X1, ⟨Lc1, hQ1, l1, y1, z1⟩, st1⟩ := Jvm.LawKit.callS X0 hx (y := (⟨"com/example/holdfast/holdfast/PositionKindCarriesIntoRealTimePinLaw", "kindAt", "(I)Lcom/example/holdfast/holdfast/PositionKind;"⟩ : MethodName)) hown (mvT hZ (hw _ (List.mem_of_getElem? (i := 1) rfl))) (mvT hZ (hw _ (List.mem_of_getElem? (i := 2) rfl))) (mvT hZ (hw _ (List.mem_of_getElem? (i := 3) rfl))) (mvT hZ (hw _ (List.mem_of_getElem? (i := 4) rfl))) (by decide) (backOf (W := 0) (own_p_0 l Z a0 hw [] w_DEMAND_BID w_DECREMENT_BID w_METERED_LOAD w_EXTERNAL_SALE w_IBT_LOAD w_SUPPLY_OFFER w_INCREMENT_OFFER w_METERED_GENERATION w_EXTERNAL_PURCHASE w_IBT_MARKET w_IBT_MARKET_EXCL  h0 n0 O0 U_DEMAND_BID U_DECREMENT_BID U_METERED_LOAD U_EXTERNAL_SALE U_IBT_LOAD U_SUPPLY_OFFER U_INCREMENT_OFFER U_METERED_GENERATION U_EXTERNAL_PURCHASE U_IBT_MARKET U_IBT_MARKET_EXCL ) hZ (hw _ (List.mem_of_getElem? (i := 4) rfl)) (hw _ (List.mem_of_getElem? (i := 3) rfl)) (by decide) (by decide)) (g := (mkF m 9 #[iv p0, iv 0, .unset, .unset] [(.int 0)])) rfl (by rw [hml]; rfl) (argsL := [(.int 0)]) (rest := []) (lenOf own_pd0 rfl) rfl (by show 2 * 0 + _ ≤ _; exact Nat.le_of_eq rfl) (hb hby at_9) (fun _ _ => ⟨rfl, e0, (by decide : 0 + 0 ≤ _), (by decide : 0 + 0 ≤ _)⟩)
  dsimp only [Pt.U, Pt.locs, Pt.cells, Pt.slots] at X1 l1 y1 z1 st1 hQ1
  subst l1 y1 z1
  obtain ⟨rfl, N1q, e1⟩ := hQ1
  have N1 := Fr.app N0 N1q
  obtain ⟨cq2, kq2, q2a, q2b, q2c⟩ := isOf hZ e1 (U_DEMAND_BID.2.1.ext O0.2)
  obtain ⟨_, _, ⟨T2, L2, k2, n2⟩, -, X2, ⟨Lc2, hQ2, l2, y2, z2⟩, st2⟩ := X1.virtualBack hx (y := (⟨"com/example/holdfast/holdfast/PositionKind", "carriesIntoRealTime", "()Z"⟩ : MethodName)) (z := (⟨"com/example/holdfast/holdfast/PositionKind", "carriesIntoRealTime", "()Z"⟩ : MethodName)) hown (mvT hZ (hw _ (List.mem_of_getElem? (i := 8) rfl))) (mvT hZ (hw _ (List.mem_of_getElem? (i := 9) rfl))) (notFace_of_selects (args := #[]) (mvT hZ (hw _ (List.mem_of_getElem? (i := 11) rfl)))) (mvT hZ (hw _ (List.mem_of_getElem? (i := 11) rfl))) (mvT hZ (hw _ (List.mem_of_getElem? (i := 10) rfl))) (by decide) (backOf (W := 0) (own_m_DEMAND_BID l Z a0 hw [] w_DEMAND_BID w_DECREMENT_BID w_METERED_LOAD w_EXTERNAL_SALE w_IBT_LOAD w_SUPPLY_OFFER w_INCREMENT_OFFER w_METERED_GENERATION w_EXTERNAL_PURCHASE w_IBT_MARKET w_IBT_MARKET_EXCL  h0 n0 O0 U_DEMAND_BID U_DECREMENT_BID U_METERED_LOAD U_EXTERNAL_SALE U_IBT_LOAD U_SUPPLY_OFFER U_INCREMENT_OFFER U_METERED_GENERATION U_EXTERNAL_PURCHASE U_IBT_MARKET U_IBT_MARKET_EXCL ) hZ (hw _ (List.mem_of_getElem? (i := 12) rfl)) (hw _ (List.mem_of_getElem? (i := 6) rfl)) (by decide) (by decide)) q2a q2c (g := (mkF m 32 #[iv p0, iv 0, rv w_DEMAND_BID, iv 0] [(.ref w_DEMAND_BID)])) rfl (by rw [hml]; rfl) (Steps.refl _) (argsL := []) (rest := []) (lenOf own_pd1 rfl) rfl (by show 2 * 0 + _ ≤ _; exact Nat.le_of_eq rfl) (hb hby at_32) (fun _ _ => ⟨rfl, e1, (by decide : 0 + 0 ≤ _), (by decide : 0 + 0 ≤ _)⟩)
  dsimp only [Pt.U, Pt.locs, Pt.cells, Pt.slots] at X2 l2 y2 z2 st2 hQ2
  subst l2 y2 z2
  obtain ⟨rfl, N2q, e2⟩ := hQ2
  have N2 := Fr.app N1 N2q
  obtain ⟨fs, hr, hrun, hended, hW, hsame⟩ := X2.leave (v := some (.int 1)) (fun h => by rw [Bd.returns] at h; cases h)
  refine ⟨_, _, pre0 _ ?_, hrun, hended, _, _, rfl, ?_, ⟨_, rfl⟩, hW, hsame.mono (by decide) (by decide)⟩
  · show Steps p.tables e below (s₁.setTop (mkF m 0 #[iv p0, .unset, .unset, .unset] [])) _
    refine XS.iloadN X0.here hx rfl (hb hby at_0) rfl ?_
    show Steps p.tables e below (s₁.setTop (mkF m 1 #[iv p0, .unset, .unset, .unset] [(.int p0)])) _
    refine X0.ldcInt hx hown (mvT hZ (hw _ (List.mem_of_getElem? (i := 0) rfl))) (g := (mkF m 1 #[iv p0, .unset, .unset, .unset] [(.int p0)])) rfl (hb hby at_1) _ ?_
    show Steps p.tables e below (s₁.setTop (mkF m 3 #[iv p0, .unset, .unset, .unset] [(.int 2147483647), (.int p0)])) _
    refine XS.iand X0.here hx rfl (hb hby at_3) rfl ?_
    show Steps p.tables e below (s₁.setTop (mkF m 4 #[iv p0, .unset, .unset, .unset] [(.int (p0 &&& (2147483647 : Int32)))])) _
    refine XS.bipush X0.here hx rfl (hb hby at_4) ?_
    show Steps p.tables e below (s₁.setTop (mkF m 6 #[iv p0, .unset, .unset, .unset] [(.int 11), (.int (p0 &&& (2147483647 : Int32)))])) _
    refine iremM X0 hx rfl (hb hby at_6) rfl (by decide) ?_
    show Steps p.tables e below (s₁.setTop (mkF m 7 #[iv p0, .unset, .unset, .unset] [(.int ((p0 &&& (2147483647 : Int32)) % (11 : Int32)))])) _
    refine own_top (v' := (.int 0)) (congrArg Value.int hk) ?_
    show Steps p.tables e below (s₁.setTop (mkF m 7 #[iv p0, .unset, .unset, .unset] [(.int 0)])) _
    refine XS.istoreN X0.here hx rfl (hb hby at_7) rfl (l' := #[iv p0, iv 0, .unset, .unset]) rfl ?_
    show Steps p.tables e below (s₁.setTop (mkF m 8 #[iv p0, iv 0, .unset, .unset] [])) _
    refine XS.iloadN X0.here hx rfl (hb hby at_8) rfl ?_
    show Steps p.tables e below (s₁.setTop (mkF m 9 #[iv p0, iv 0, .unset, .unset] [(.int 0)])) _
    refine st1 _ ?_
    show Steps p.tables e below (T1.setTop (mkF m 12 #[iv p0, iv 0, .unset, .unset] [(.ref w_DEMAND_BID)])) _
    refine XS.astoreN X1.here hx rfl (hb hby at_12) rfl rfl (l' := #[iv p0, iv 0, rv w_DEMAND_BID, .unset]) rfl ?_
    show Steps p.tables e below (T1.setTop (mkF m 13 #[iv p0, iv 0, rv w_DEMAND_BID, .unset] [])) _
    refine XS.iloadN X1.here hx rfl (hb hby at_13) rfl ?_
    show Steps p.tables e below (T1.setTop (mkF m 14 #[iv p0, iv 0, rv w_DEMAND_BID, .unset] [(.int 0)])) _
    refine XS.bipush X1.here hx rfl (hb hby at_14) ?_
    show Steps p.tables e below (T1.setTop (mkF m 16 #[iv p0, iv 0, rv w_DEMAND_BID, .unset] [(.int 9), (.int 0)])) _
    refine XS.icmpNo X1.here hx rfl (hb hby at_16) rfl (feq (by decide)).1 ?_
    show Steps p.tables e below (T1.setTop (mkF m 19 #[iv p0, iv 0, rv w_DEMAND_BID, .unset] [])) _
    refine XS.iloadN X1.here hx rfl (hb hby at_19) rfl ?_
    show Steps p.tables e below (T1.setTop (mkF m 20 #[iv p0, iv 0, rv w_DEMAND_BID, .unset] [(.int 0)])) _
    refine XS.bipush X1.here hx rfl (hb hby at_20) ?_
    show Steps p.tables e below (T1.setTop (mkF m 22 #[iv p0, iv 0, rv w_DEMAND_BID, .unset] [(.int 10), (.int 0)])) _
    refine XS.icmpYes X1.here hx rfl (pc0 := 22) (pc' := 29) rfl (hb hby at_22) rfl (feq (by decide)).2 (by decide) (by decide) ?_
    show Steps p.tables e below (T1.setTop (mkF m 29 #[iv p0, iv 0, rv w_DEMAND_BID, .unset] [])) _
    refine XS.iconst X1.here hx rfl (hb hby at_29) ?_
    show Steps p.tables e below (T1.setTop (mkF m 30 #[iv p0, iv 0, rv w_DEMAND_BID, .unset] [(.int 0)])) _
    refine XS.istoreN X1.here hx rfl (hb hby at_30) rfl (l' := #[iv p0, iv 0, rv w_DEMAND_BID, iv 0]) rfl ?_
    show Steps p.tables e below (T1.setTop (mkF m 31 #[iv p0, iv 0, rv w_DEMAND_BID, iv 0] [])) _
    refine XS.aloadN X1.here hx rfl (hb hby at_31) rfl rfl ?_
    show Steps p.tables e below (T1.setTop (mkF m 32 #[iv p0, iv 0, rv w_DEMAND_BID, iv 0] [(.ref w_DEMAND_BID)])) _
    refine st2.trans ?_
    show Steps p.tables e below (T2.setTop (mkF m 35 #[iv p0, iv 0, rv w_DEMAND_BID, iv 0] [(.int 0)])) _
    refine XS.iloadN X2.here hx rfl (hb hby at_35) rfl ?_
    show Steps p.tables e below (T2.setTop (mkF m 36 #[iv p0, iv 0, rv w_DEMAND_BID, iv 0] [(.int 0), (.int 0)])) _
    refine XS.icmpNo X2.here hx rfl (hb hby at_36) rfl (teq (by decide)).2 ?_
    show Steps p.tables e below (T2.setTop (mkF m 39 #[iv p0, iv 0, rv w_DEMAND_BID, iv 0] [])) _
    refine XS.iconst X2.here hx rfl (hb hby at_39) ?_
    show Steps p.tables e below (T2.setTop (mkF m 40 #[iv p0, iv 0, rv w_DEMAND_BID, iv 0] [(.int 1)])) _
    refine XS.goto X2.here hx rfl (pc0 := 40) (pc' := 44) rfl (hb hby at_40) (by decide) (by decide) ?_
    show Steps p.tables e below (T2.setTop (mkF m 44 #[iv p0, iv 0, rv w_DEMAND_BID, iv 0] [(.int 1)])) _
    exact retN X2 hx (t := .boolean) Bd.returns (by simp) (hb hby at_44) hr
  · show own_law0_Q Z w_DEMAND_BID w_DECREMENT_BID w_METERED_LOAD w_EXTERNAL_SALE w_IBT_LOAD w_SUPPLY_OFFER w_INCREMENT_OFFER w_METERED_GENERATION w_EXTERNAL_PURCHASE w_IBT_MARKET w_IBT_MARKET_EXCL p0 h0 n0 _ T2.heap _
    rw [e2]
    exact ⟨rfl, N2, trivial⟩
theorem own_law1_ef (m : MethodId) (p0 : Int32) : entryFrame m #[(.int p0)] maxLocals = mkF m 0 #[iv p0, .unset, .unset, .unset] [] := by first | (simp [entryFrame, mkF, argsToLocals, Value.category, maxLocals]; done) | rfl
def own_law1_Q (Z : State) (w_DEMAND_BID : Addr) (w_DECREMENT_BID : Addr) (w_METERED_LOAD : Addr) (w_EXTERNAL_SALE : Addr) (w_IBT_LOAD : Addr) (w_SUPPLY_OFFER : Addr) (w_INCREMENT_OFFER : Addr) (w_METERED_GENERATION : Addr) (w_EXTERNAL_PURCHASE : Addr) (w_IBT_MARKET : Addr) (w_IBT_MARKET_EXCL : Addr) (p0 : Int32) (h0 : Heap) (n0 : Nat) (v : Option Value) (h : Heap) (L : List Loc) : Prop := v = some (.int 1) ∧ Fr n0 L ∧ True
set_option maxRecDepth 65536 in
set_option maxHeartbeats 40000000 in
theorem own_law1 (l : Launch) (Z : State) (a0 : Array Value) (hw : ∀ d ∈ tables_1, d.before a0 Z = true) (ws : List Jvm.Cond) (w_DEMAND_BID : Addr) (w_DECREMENT_BID : Addr) (w_METERED_LOAD : Addr) (w_EXTERNAL_SALE : Addr) (w_IBT_LOAD : Addr) (w_SUPPLY_OFFER : Addr) (w_INCREMENT_OFFER : Addr) (w_METERED_GENERATION : Addr) (w_EXTERNAL_PURCHASE : Addr) (w_IBT_MARKET : Addr) (w_IBT_MARKET_EXCL : Addr) (p0 : Int32) (h0 : Heap) (n0 : Nat) (O0 : Old Z n0 h0) (U_DEMAND_BID : own_En Z Z.heap "com/example/holdfast/holdfast/PositionKind" "DEMAND_BID" "Lcom/example/holdfast/holdfast/PositionKind;" w_DEMAND_BID (0 : Int32)) (U_DECREMENT_BID : own_En Z Z.heap "com/example/holdfast/holdfast/PositionKind" "DECREMENT_BID" "Lcom/example/holdfast/holdfast/PositionKind;" w_DECREMENT_BID (1 : Int32)) (U_METERED_LOAD : own_En Z Z.heap "com/example/holdfast/holdfast/PositionKind" "METERED_LOAD" "Lcom/example/holdfast/holdfast/PositionKind;" w_METERED_LOAD (2 : Int32)) (U_EXTERNAL_SALE : own_En Z Z.heap "com/example/holdfast/holdfast/PositionKind" "EXTERNAL_SALE" "Lcom/example/holdfast/holdfast/PositionKind;" w_EXTERNAL_SALE (3 : Int32)) (U_IBT_LOAD : own_En Z Z.heap "com/example/holdfast/holdfast/PositionKind" "IBT_LOAD" "Lcom/example/holdfast/holdfast/PositionKind;" w_IBT_LOAD (4 : Int32)) (U_SUPPLY_OFFER : own_En Z Z.heap "com/example/holdfast/holdfast/PositionKind" "SUPPLY_OFFER" "Lcom/example/holdfast/holdfast/PositionKind;" w_SUPPLY_OFFER (5 : Int32)) (U_INCREMENT_OFFER : own_En Z Z.heap "com/example/holdfast/holdfast/PositionKind" "INCREMENT_OFFER" "Lcom/example/holdfast/holdfast/PositionKind;" w_INCREMENT_OFFER (6 : Int32)) (U_METERED_GENERATION : own_En Z Z.heap "com/example/holdfast/holdfast/PositionKind" "METERED_GENERATION" "Lcom/example/holdfast/holdfast/PositionKind;" w_METERED_GENERATION (7 : Int32)) (U_EXTERNAL_PURCHASE : own_En Z Z.heap "com/example/holdfast/holdfast/PositionKind" "EXTERNAL_PURCHASE" "Lcom/example/holdfast/holdfast/PositionKind;" w_EXTERNAL_PURCHASE (8 : Int32)) (U_IBT_MARKET : own_En Z Z.heap "com/example/holdfast/holdfast/PositionKind" "IBT_MARKET" "Lcom/example/holdfast/holdfast/PositionKind;" w_IBT_MARKET (9 : Int32)) (U_IBT_MARKET_EXCL : own_En Z Z.heap "com/example/holdfast/holdfast/PositionKind" "IBT_MARKET_EXCL" "Lcom/example/holdfast/holdfast/PositionKind;" w_IBT_MARKET_EXCL (10 : Int32)) (hk : (p0 &&& (2147483647 : Int32)) % (11 : Int32) = (1 : Int32)) :
    MetFree l x (head1 (Jvm.Cond.code x code maxLocals ret :: ws) room_1) (fun a U => a = #[(.int p0)] ∧ Z.Warmed39 U.vm ∧ U.heap = h0) (fun _ _ _ _ _ => True) (fun _ U o U' => ∃ v L, o = .returned v ∧ own_law1_Q Z w_DEMAND_BID w_DECREMENT_BID w_METERED_LOAD w_EXTERNAL_SALE w_IBT_LOAD w_SUPPLY_OFFER w_INCREMENT_OFFER w_METERED_GENERATION w_EXTERNAL_PURCHASE w_IBT_MARKET w_IBT_MARKET_EXCL p0 h0 n0 v U'.heap L ∧ FrameEnd U o U' L 0 0) := by
  refine MetFree.of_bodySF (plainFor_of_name own_pn1) hisR ?_
  intro p e s m args below meth c s₁ Bd hml0 hP hK
  obtain ⟨rfl, hZ, hh⟩ := hP
  have hx := Bd.exec
  have hby := Bd.bytes
  have hml : c.maxLocals = 4 := hml0
  have hown : s.vm.findClass "com/example/holdfast/holdfast/PositionKindCarriesIntoRealTimePinLaw" = some m.cls := findClass_of_methodNamed Bd.named
  have hnm := (name_of_methodNamed Bd.named Bd.method).1
  have X0 : Stand p l e room_1 s m #[(.int p0)] below meth c s₁ [] 0 0 := Stand.of_body Bd
  have e0 : s₁.heap = h0 := by rw [← hh, Bd.state]; rfl
  have N0 := Fr.nil n0
  have pre0 : ∀ t, Steps p.tables e below (s₁.setTop (mkF m 0 #[iv p0, .unset, .unset, .unset] [])) t → Steps p.tables e below (s₁.setTop (entryFrame m #[(.int p0)] maxLocals)) t := fun t k => castTop (own_law1_ef m p0) k
  obtain ⟨_, _, ⟨T1, L1, k1, n1⟩, -, X1, ⟨Lc1, hQ1, l1, y1, z1⟩, st1⟩ := Jvm.LawKit.callS X0 hx (y := (⟨"com/example/holdfast/holdfast/PositionKindCarriesIntoRealTimePinLaw", "kindAt", "(I)Lcom/example/holdfast/holdfast/PositionKind;"⟩ : MethodName)) hown (mvT hZ (hw _ (List.mem_of_getElem? (i := 1) rfl))) (mvT hZ (hw _ (List.mem_of_getElem? (i := 2) rfl))) (mvT hZ (hw _ (List.mem_of_getElem? (i := 3) rfl))) (mvT hZ (hw _ (List.mem_of_getElem? (i := 4) rfl))) (by decide) (backOf (W := 0) (own_p_1 l Z a0 hw [] w_DEMAND_BID w_DECREMENT_BID w_METERED_LOAD w_EXTERNAL_SALE w_IBT_LOAD w_SUPPLY_OFFER w_INCREMENT_OFFER w_METERED_GENERATION w_EXTERNAL_PURCHASE w_IBT_MARKET w_IBT_MARKET_EXCL  h0 n0 O0 U_DEMAND_BID U_DECREMENT_BID U_METERED_LOAD U_EXTERNAL_SALE U_IBT_LOAD U_SUPPLY_OFFER U_INCREMENT_OFFER U_METERED_GENERATION U_EXTERNAL_PURCHASE U_IBT_MARKET U_IBT_MARKET_EXCL ) hZ (hw _ (List.mem_of_getElem? (i := 4) rfl)) (hw _ (List.mem_of_getElem? (i := 3) rfl)) (by decide) (by decide)) (g := (mkF m 9 #[iv p0, iv 1, .unset, .unset] [(.int 1)])) rfl (by rw [hml]; rfl) (argsL := [(.int 1)]) (rest := []) (lenOf own_pd0 rfl) rfl (by show 2 * 0 + _ ≤ _; exact Nat.le_of_eq rfl) (hb hby at_9) (fun _ _ => ⟨rfl, e0, (by decide : 0 + 0 ≤ _), (by decide : 0 + 0 ≤ _)⟩)
  dsimp only [Pt.U, Pt.locs, Pt.cells, Pt.slots] at X1 l1 y1 z1 st1 hQ1
  subst l1 y1 z1
  obtain ⟨rfl, N1q, e1⟩ := hQ1
  have N1 := Fr.app N0 N1q
  obtain ⟨cq2, kq2, q2a, q2b, q2c⟩ := isOf hZ e1 (U_DECREMENT_BID.2.1.ext O0.2)
  obtain ⟨_, _, ⟨T2, L2, k2, n2⟩, -, X2, ⟨Lc2, hQ2, l2, y2, z2⟩, st2⟩ := X1.virtualBack hx (y := (⟨"com/example/holdfast/holdfast/PositionKind", "carriesIntoRealTime", "()Z"⟩ : MethodName)) (z := (⟨"com/example/holdfast/holdfast/PositionKind", "carriesIntoRealTime", "()Z"⟩ : MethodName)) hown (mvT hZ (hw _ (List.mem_of_getElem? (i := 8) rfl))) (mvT hZ (hw _ (List.mem_of_getElem? (i := 9) rfl))) (notFace_of_selects (args := #[]) (mvT hZ (hw _ (List.mem_of_getElem? (i := 11) rfl)))) (mvT hZ (hw _ (List.mem_of_getElem? (i := 11) rfl))) (mvT hZ (hw _ (List.mem_of_getElem? (i := 10) rfl))) (by decide) (backOf (W := 0) (own_m_DECREMENT_BID l Z a0 hw [] w_DEMAND_BID w_DECREMENT_BID w_METERED_LOAD w_EXTERNAL_SALE w_IBT_LOAD w_SUPPLY_OFFER w_INCREMENT_OFFER w_METERED_GENERATION w_EXTERNAL_PURCHASE w_IBT_MARKET w_IBT_MARKET_EXCL  h0 n0 O0 U_DEMAND_BID U_DECREMENT_BID U_METERED_LOAD U_EXTERNAL_SALE U_IBT_LOAD U_SUPPLY_OFFER U_INCREMENT_OFFER U_METERED_GENERATION U_EXTERNAL_PURCHASE U_IBT_MARKET U_IBT_MARKET_EXCL ) hZ (hw _ (List.mem_of_getElem? (i := 12) rfl)) (hw _ (List.mem_of_getElem? (i := 6) rfl)) (by decide) (by decide)) q2a q2c (g := (mkF m 32 #[iv p0, iv 1, rv w_DECREMENT_BID, iv 0] [(.ref w_DECREMENT_BID)])) rfl (by rw [hml]; rfl) (Steps.refl _) (argsL := []) (rest := []) (lenOf own_pd1 rfl) rfl (by show 2 * 0 + _ ≤ _; exact Nat.le_of_eq rfl) (hb hby at_32) (fun _ _ => ⟨rfl, e1, (by decide : 0 + 0 ≤ _), (by decide : 0 + 0 ≤ _)⟩)
  dsimp only [Pt.U, Pt.locs, Pt.cells, Pt.slots] at X2 l2 y2 z2 st2 hQ2
  subst l2 y2 z2
  obtain ⟨rfl, N2q, e2⟩ := hQ2
  have N2 := Fr.app N1 N2q
  obtain ⟨fs, hr, hrun, hended, hW, hsame⟩ := X2.leave (v := some (.int 1)) (fun h => by rw [Bd.returns] at h; cases h)
  refine ⟨_, _, pre0 _ ?_, hrun, hended, _, _, rfl, ?_, ⟨_, rfl⟩, hW, hsame.mono (by decide) (by decide)⟩
  · show Steps p.tables e below (s₁.setTop (mkF m 0 #[iv p0, .unset, .unset, .unset] [])) _
    refine XS.iloadN X0.here hx rfl (hb hby at_0) rfl ?_
    show Steps p.tables e below (s₁.setTop (mkF m 1 #[iv p0, .unset, .unset, .unset] [(.int p0)])) _
    refine X0.ldcInt hx hown (mvT hZ (hw _ (List.mem_of_getElem? (i := 0) rfl))) (g := (mkF m 1 #[iv p0, .unset, .unset, .unset] [(.int p0)])) rfl (hb hby at_1) _ ?_
    show Steps p.tables e below (s₁.setTop (mkF m 3 #[iv p0, .unset, .unset, .unset] [(.int 2147483647), (.int p0)])) _
    refine XS.iand X0.here hx rfl (hb hby at_3) rfl ?_
    show Steps p.tables e below (s₁.setTop (mkF m 4 #[iv p0, .unset, .unset, .unset] [(.int (p0 &&& (2147483647 : Int32)))])) _
    refine XS.bipush X0.here hx rfl (hb hby at_4) ?_
    show Steps p.tables e below (s₁.setTop (mkF m 6 #[iv p0, .unset, .unset, .unset] [(.int 11), (.int (p0 &&& (2147483647 : Int32)))])) _
    refine iremM X0 hx rfl (hb hby at_6) rfl (by decide) ?_
    show Steps p.tables e below (s₁.setTop (mkF m 7 #[iv p0, .unset, .unset, .unset] [(.int ((p0 &&& (2147483647 : Int32)) % (11 : Int32)))])) _
    refine own_top (v' := (.int 1)) (congrArg Value.int hk) ?_
    show Steps p.tables e below (s₁.setTop (mkF m 7 #[iv p0, .unset, .unset, .unset] [(.int 1)])) _
    refine XS.istoreN X0.here hx rfl (hb hby at_7) rfl (l' := #[iv p0, iv 1, .unset, .unset]) rfl ?_
    show Steps p.tables e below (s₁.setTop (mkF m 8 #[iv p0, iv 1, .unset, .unset] [])) _
    refine XS.iloadN X0.here hx rfl (hb hby at_8) rfl ?_
    show Steps p.tables e below (s₁.setTop (mkF m 9 #[iv p0, iv 1, .unset, .unset] [(.int 1)])) _
    refine st1 _ ?_
    show Steps p.tables e below (T1.setTop (mkF m 12 #[iv p0, iv 1, .unset, .unset] [(.ref w_DECREMENT_BID)])) _
    refine XS.astoreN X1.here hx rfl (hb hby at_12) rfl rfl (l' := #[iv p0, iv 1, rv w_DECREMENT_BID, .unset]) rfl ?_
    show Steps p.tables e below (T1.setTop (mkF m 13 #[iv p0, iv 1, rv w_DECREMENT_BID, .unset] [])) _
    refine XS.iloadN X1.here hx rfl (hb hby at_13) rfl ?_
    show Steps p.tables e below (T1.setTop (mkF m 14 #[iv p0, iv 1, rv w_DECREMENT_BID, .unset] [(.int 1)])) _
    refine XS.bipush X1.here hx rfl (hb hby at_14) ?_
    show Steps p.tables e below (T1.setTop (mkF m 16 #[iv p0, iv 1, rv w_DECREMENT_BID, .unset] [(.int 9), (.int 1)])) _
    refine XS.icmpNo X1.here hx rfl (hb hby at_16) rfl (feq (by decide)).1 ?_
    show Steps p.tables e below (T1.setTop (mkF m 19 #[iv p0, iv 1, rv w_DECREMENT_BID, .unset] [])) _
    refine XS.iloadN X1.here hx rfl (hb hby at_19) rfl ?_
    show Steps p.tables e below (T1.setTop (mkF m 20 #[iv p0, iv 1, rv w_DECREMENT_BID, .unset] [(.int 1)])) _
    refine XS.bipush X1.here hx rfl (hb hby at_20) ?_
    show Steps p.tables e below (T1.setTop (mkF m 22 #[iv p0, iv 1, rv w_DECREMENT_BID, .unset] [(.int 10), (.int 1)])) _
    refine XS.icmpYes X1.here hx rfl (pc0 := 22) (pc' := 29) rfl (hb hby at_22) rfl (feq (by decide)).2 (by decide) (by decide) ?_
    show Steps p.tables e below (T1.setTop (mkF m 29 #[iv p0, iv 1, rv w_DECREMENT_BID, .unset] [])) _
    refine XS.iconst X1.here hx rfl (hb hby at_29) ?_
    show Steps p.tables e below (T1.setTop (mkF m 30 #[iv p0, iv 1, rv w_DECREMENT_BID, .unset] [(.int 0)])) _
    refine XS.istoreN X1.here hx rfl (hb hby at_30) rfl (l' := #[iv p0, iv 1, rv w_DECREMENT_BID, iv 0]) rfl ?_
    show Steps p.tables e below (T1.setTop (mkF m 31 #[iv p0, iv 1, rv w_DECREMENT_BID, iv 0] [])) _
    refine XS.aloadN X1.here hx rfl (hb hby at_31) rfl rfl ?_
    show Steps p.tables e below (T1.setTop (mkF m 32 #[iv p0, iv 1, rv w_DECREMENT_BID, iv 0] [(.ref w_DECREMENT_BID)])) _
    refine st2.trans ?_
    show Steps p.tables e below (T2.setTop (mkF m 35 #[iv p0, iv 1, rv w_DECREMENT_BID, iv 0] [(.int 0)])) _
    refine XS.iloadN X2.here hx rfl (hb hby at_35) rfl ?_
    show Steps p.tables e below (T2.setTop (mkF m 36 #[iv p0, iv 1, rv w_DECREMENT_BID, iv 0] [(.int 0), (.int 0)])) _
    refine XS.icmpNo X2.here hx rfl (hb hby at_36) rfl (teq (by decide)).2 ?_
    show Steps p.tables e below (T2.setTop (mkF m 39 #[iv p0, iv 1, rv w_DECREMENT_BID, iv 0] [])) _
    refine XS.iconst X2.here hx rfl (hb hby at_39) ?_
    show Steps p.tables e below (T2.setTop (mkF m 40 #[iv p0, iv 1, rv w_DECREMENT_BID, iv 0] [(.int 1)])) _
    refine XS.goto X2.here hx rfl (pc0 := 40) (pc' := 44) rfl (hb hby at_40) (by decide) (by decide) ?_
    show Steps p.tables e below (T2.setTop (mkF m 44 #[iv p0, iv 1, rv w_DECREMENT_BID, iv 0] [(.int 1)])) _
    exact retN X2 hx (t := .boolean) Bd.returns (by simp) (hb hby at_44) hr
  · show own_law1_Q Z w_DEMAND_BID w_DECREMENT_BID w_METERED_LOAD w_EXTERNAL_SALE w_IBT_LOAD w_SUPPLY_OFFER w_INCREMENT_OFFER w_METERED_GENERATION w_EXTERNAL_PURCHASE w_IBT_MARKET w_IBT_MARKET_EXCL p0 h0 n0 _ T2.heap _
    rw [e2]
    exact ⟨rfl, N2, trivial⟩
theorem own_law2_ef (m : MethodId) (p0 : Int32) : entryFrame m #[(.int p0)] maxLocals = mkF m 0 #[iv p0, .unset, .unset, .unset] [] := by first | (simp [entryFrame, mkF, argsToLocals, Value.category, maxLocals]; done) | rfl
def own_law2_Q (Z : State) (w_DEMAND_BID : Addr) (w_DECREMENT_BID : Addr) (w_METERED_LOAD : Addr) (w_EXTERNAL_SALE : Addr) (w_IBT_LOAD : Addr) (w_SUPPLY_OFFER : Addr) (w_INCREMENT_OFFER : Addr) (w_METERED_GENERATION : Addr) (w_EXTERNAL_PURCHASE : Addr) (w_IBT_MARKET : Addr) (w_IBT_MARKET_EXCL : Addr) (p0 : Int32) (h0 : Heap) (n0 : Nat) (v : Option Value) (h : Heap) (L : List Loc) : Prop := v = some (.int 1) ∧ Fr n0 L ∧ True
set_option maxRecDepth 65536 in
set_option maxHeartbeats 40000000 in
theorem own_law2 (l : Launch) (Z : State) (a0 : Array Value) (hw : ∀ d ∈ tables_1, d.before a0 Z = true) (ws : List Jvm.Cond) (w_DEMAND_BID : Addr) (w_DECREMENT_BID : Addr) (w_METERED_LOAD : Addr) (w_EXTERNAL_SALE : Addr) (w_IBT_LOAD : Addr) (w_SUPPLY_OFFER : Addr) (w_INCREMENT_OFFER : Addr) (w_METERED_GENERATION : Addr) (w_EXTERNAL_PURCHASE : Addr) (w_IBT_MARKET : Addr) (w_IBT_MARKET_EXCL : Addr) (p0 : Int32) (h0 : Heap) (n0 : Nat) (O0 : Old Z n0 h0) (U_DEMAND_BID : own_En Z Z.heap "com/example/holdfast/holdfast/PositionKind" "DEMAND_BID" "Lcom/example/holdfast/holdfast/PositionKind;" w_DEMAND_BID (0 : Int32)) (U_DECREMENT_BID : own_En Z Z.heap "com/example/holdfast/holdfast/PositionKind" "DECREMENT_BID" "Lcom/example/holdfast/holdfast/PositionKind;" w_DECREMENT_BID (1 : Int32)) (U_METERED_LOAD : own_En Z Z.heap "com/example/holdfast/holdfast/PositionKind" "METERED_LOAD" "Lcom/example/holdfast/holdfast/PositionKind;" w_METERED_LOAD (2 : Int32)) (U_EXTERNAL_SALE : own_En Z Z.heap "com/example/holdfast/holdfast/PositionKind" "EXTERNAL_SALE" "Lcom/example/holdfast/holdfast/PositionKind;" w_EXTERNAL_SALE (3 : Int32)) (U_IBT_LOAD : own_En Z Z.heap "com/example/holdfast/holdfast/PositionKind" "IBT_LOAD" "Lcom/example/holdfast/holdfast/PositionKind;" w_IBT_LOAD (4 : Int32)) (U_SUPPLY_OFFER : own_En Z Z.heap "com/example/holdfast/holdfast/PositionKind" "SUPPLY_OFFER" "Lcom/example/holdfast/holdfast/PositionKind;" w_SUPPLY_OFFER (5 : Int32)) (U_INCREMENT_OFFER : own_En Z Z.heap "com/example/holdfast/holdfast/PositionKind" "INCREMENT_OFFER" "Lcom/example/holdfast/holdfast/PositionKind;" w_INCREMENT_OFFER (6 : Int32)) (U_METERED_GENERATION : own_En Z Z.heap "com/example/holdfast/holdfast/PositionKind" "METERED_GENERATION" "Lcom/example/holdfast/holdfast/PositionKind;" w_METERED_GENERATION (7 : Int32)) (U_EXTERNAL_PURCHASE : own_En Z Z.heap "com/example/holdfast/holdfast/PositionKind" "EXTERNAL_PURCHASE" "Lcom/example/holdfast/holdfast/PositionKind;" w_EXTERNAL_PURCHASE (8 : Int32)) (U_IBT_MARKET : own_En Z Z.heap "com/example/holdfast/holdfast/PositionKind" "IBT_MARKET" "Lcom/example/holdfast/holdfast/PositionKind;" w_IBT_MARKET (9 : Int32)) (U_IBT_MARKET_EXCL : own_En Z Z.heap "com/example/holdfast/holdfast/PositionKind" "IBT_MARKET_EXCL" "Lcom/example/holdfast/holdfast/PositionKind;" w_IBT_MARKET_EXCL (10 : Int32)) (hk : (p0 &&& (2147483647 : Int32)) % (11 : Int32) = (2 : Int32)) :
    MetFree l x (head1 (Jvm.Cond.code x code maxLocals ret :: ws) room_1) (fun a U => a = #[(.int p0)] ∧ Z.Warmed39 U.vm ∧ U.heap = h0) (fun _ _ _ _ _ => True) (fun _ U o U' => ∃ v L, o = .returned v ∧ own_law2_Q Z w_DEMAND_BID w_DECREMENT_BID w_METERED_LOAD w_EXTERNAL_SALE w_IBT_LOAD w_SUPPLY_OFFER w_INCREMENT_OFFER w_METERED_GENERATION w_EXTERNAL_PURCHASE w_IBT_MARKET w_IBT_MARKET_EXCL p0 h0 n0 v U'.heap L ∧ FrameEnd U o U' L 0 0) := by
  refine MetFree.of_bodySF (plainFor_of_name own_pn1) hisR ?_
  intro p e s m args below meth c s₁ Bd hml0 hP hK
  obtain ⟨rfl, hZ, hh⟩ := hP
  have hx := Bd.exec
  have hby := Bd.bytes
  have hml : c.maxLocals = 4 := hml0
  have hown : s.vm.findClass "com/example/holdfast/holdfast/PositionKindCarriesIntoRealTimePinLaw" = some m.cls := findClass_of_methodNamed Bd.named
  have hnm := (name_of_methodNamed Bd.named Bd.method).1
  have X0 : Stand p l e room_1 s m #[(.int p0)] below meth c s₁ [] 0 0 := Stand.of_body Bd
  have e0 : s₁.heap = h0 := by rw [← hh, Bd.state]; rfl
  have N0 := Fr.nil n0
  have pre0 : ∀ t, Steps p.tables e below (s₁.setTop (mkF m 0 #[iv p0, .unset, .unset, .unset] [])) t → Steps p.tables e below (s₁.setTop (entryFrame m #[(.int p0)] maxLocals)) t := fun t k => castTop (own_law2_ef m p0) k
  obtain ⟨_, _, ⟨T1, L1, k1, n1⟩, -, X1, ⟨Lc1, hQ1, l1, y1, z1⟩, st1⟩ := Jvm.LawKit.callS X0 hx (y := (⟨"com/example/holdfast/holdfast/PositionKindCarriesIntoRealTimePinLaw", "kindAt", "(I)Lcom/example/holdfast/holdfast/PositionKind;"⟩ : MethodName)) hown (mvT hZ (hw _ (List.mem_of_getElem? (i := 1) rfl))) (mvT hZ (hw _ (List.mem_of_getElem? (i := 2) rfl))) (mvT hZ (hw _ (List.mem_of_getElem? (i := 3) rfl))) (mvT hZ (hw _ (List.mem_of_getElem? (i := 4) rfl))) (by decide) (backOf (W := 0) (own_p_2 l Z a0 hw [] w_DEMAND_BID w_DECREMENT_BID w_METERED_LOAD w_EXTERNAL_SALE w_IBT_LOAD w_SUPPLY_OFFER w_INCREMENT_OFFER w_METERED_GENERATION w_EXTERNAL_PURCHASE w_IBT_MARKET w_IBT_MARKET_EXCL  h0 n0 O0 U_DEMAND_BID U_DECREMENT_BID U_METERED_LOAD U_EXTERNAL_SALE U_IBT_LOAD U_SUPPLY_OFFER U_INCREMENT_OFFER U_METERED_GENERATION U_EXTERNAL_PURCHASE U_IBT_MARKET U_IBT_MARKET_EXCL ) hZ (hw _ (List.mem_of_getElem? (i := 4) rfl)) (hw _ (List.mem_of_getElem? (i := 3) rfl)) (by decide) (by decide)) (g := (mkF m 9 #[iv p0, iv 2, .unset, .unset] [(.int 2)])) rfl (by rw [hml]; rfl) (argsL := [(.int 2)]) (rest := []) (lenOf own_pd0 rfl) rfl (by show 2 * 0 + _ ≤ _; exact Nat.le_of_eq rfl) (hb hby at_9) (fun _ _ => ⟨rfl, e0, (by decide : 0 + 0 ≤ _), (by decide : 0 + 0 ≤ _)⟩)
  dsimp only [Pt.U, Pt.locs, Pt.cells, Pt.slots] at X1 l1 y1 z1 st1 hQ1
  subst l1 y1 z1
  obtain ⟨rfl, N1q, e1⟩ := hQ1
  have N1 := Fr.app N0 N1q
  obtain ⟨cq2, kq2, q2a, q2b, q2c⟩ := isOf hZ e1 (U_METERED_LOAD.2.1.ext O0.2)
  obtain ⟨_, _, ⟨T2, L2, k2, n2⟩, -, X2, ⟨Lc2, hQ2, l2, y2, z2⟩, st2⟩ := X1.virtualBack hx (y := (⟨"com/example/holdfast/holdfast/PositionKind", "carriesIntoRealTime", "()Z"⟩ : MethodName)) (z := (⟨"com/example/holdfast/holdfast/PositionKind", "carriesIntoRealTime", "()Z"⟩ : MethodName)) hown (mvT hZ (hw _ (List.mem_of_getElem? (i := 8) rfl))) (mvT hZ (hw _ (List.mem_of_getElem? (i := 9) rfl))) (notFace_of_selects (args := #[]) (mvT hZ (hw _ (List.mem_of_getElem? (i := 11) rfl)))) (mvT hZ (hw _ (List.mem_of_getElem? (i := 11) rfl))) (mvT hZ (hw _ (List.mem_of_getElem? (i := 10) rfl))) (by decide) (backOf (W := 0) (own_m_METERED_LOAD l Z a0 hw [] w_DEMAND_BID w_DECREMENT_BID w_METERED_LOAD w_EXTERNAL_SALE w_IBT_LOAD w_SUPPLY_OFFER w_INCREMENT_OFFER w_METERED_GENERATION w_EXTERNAL_PURCHASE w_IBT_MARKET w_IBT_MARKET_EXCL  h0 n0 O0 U_DEMAND_BID U_DECREMENT_BID U_METERED_LOAD U_EXTERNAL_SALE U_IBT_LOAD U_SUPPLY_OFFER U_INCREMENT_OFFER U_METERED_GENERATION U_EXTERNAL_PURCHASE U_IBT_MARKET U_IBT_MARKET_EXCL ) hZ (hw _ (List.mem_of_getElem? (i := 12) rfl)) (hw _ (List.mem_of_getElem? (i := 6) rfl)) (by decide) (by decide)) q2a q2c (g := (mkF m 32 #[iv p0, iv 2, rv w_METERED_LOAD, iv 0] [(.ref w_METERED_LOAD)])) rfl (by rw [hml]; rfl) (Steps.refl _) (argsL := []) (rest := []) (lenOf own_pd1 rfl) rfl (by show 2 * 0 + _ ≤ _; exact Nat.le_of_eq rfl) (hb hby at_32) (fun _ _ => ⟨rfl, e1, (by decide : 0 + 0 ≤ _), (by decide : 0 + 0 ≤ _)⟩)
  dsimp only [Pt.U, Pt.locs, Pt.cells, Pt.slots] at X2 l2 y2 z2 st2 hQ2
  subst l2 y2 z2
  obtain ⟨rfl, N2q, e2⟩ := hQ2
  have N2 := Fr.app N1 N2q
  obtain ⟨fs, hr, hrun, hended, hW, hsame⟩ := X2.leave (v := some (.int 1)) (fun h => by rw [Bd.returns] at h; cases h)
  refine ⟨_, _, pre0 _ ?_, hrun, hended, _, _, rfl, ?_, ⟨_, rfl⟩, hW, hsame.mono (by decide) (by decide)⟩
  · show Steps p.tables e below (s₁.setTop (mkF m 0 #[iv p0, .unset, .unset, .unset] [])) _
    refine XS.iloadN X0.here hx rfl (hb hby at_0) rfl ?_
    show Steps p.tables e below (s₁.setTop (mkF m 1 #[iv p0, .unset, .unset, .unset] [(.int p0)])) _
    refine X0.ldcInt hx hown (mvT hZ (hw _ (List.mem_of_getElem? (i := 0) rfl))) (g := (mkF m 1 #[iv p0, .unset, .unset, .unset] [(.int p0)])) rfl (hb hby at_1) _ ?_
    show Steps p.tables e below (s₁.setTop (mkF m 3 #[iv p0, .unset, .unset, .unset] [(.int 2147483647), (.int p0)])) _
    refine XS.iand X0.here hx rfl (hb hby at_3) rfl ?_
    show Steps p.tables e below (s₁.setTop (mkF m 4 #[iv p0, .unset, .unset, .unset] [(.int (p0 &&& (2147483647 : Int32)))])) _
    refine XS.bipush X0.here hx rfl (hb hby at_4) ?_
    show Steps p.tables e below (s₁.setTop (mkF m 6 #[iv p0, .unset, .unset, .unset] [(.int 11), (.int (p0 &&& (2147483647 : Int32)))])) _
    refine iremM X0 hx rfl (hb hby at_6) rfl (by decide) ?_
    show Steps p.tables e below (s₁.setTop (mkF m 7 #[iv p0, .unset, .unset, .unset] [(.int ((p0 &&& (2147483647 : Int32)) % (11 : Int32)))])) _
    refine own_top (v' := (.int 2)) (congrArg Value.int hk) ?_
    show Steps p.tables e below (s₁.setTop (mkF m 7 #[iv p0, .unset, .unset, .unset] [(.int 2)])) _
    refine XS.istoreN X0.here hx rfl (hb hby at_7) rfl (l' := #[iv p0, iv 2, .unset, .unset]) rfl ?_
    show Steps p.tables e below (s₁.setTop (mkF m 8 #[iv p0, iv 2, .unset, .unset] [])) _
    refine XS.iloadN X0.here hx rfl (hb hby at_8) rfl ?_
    show Steps p.tables e below (s₁.setTop (mkF m 9 #[iv p0, iv 2, .unset, .unset] [(.int 2)])) _
    refine st1 _ ?_
    show Steps p.tables e below (T1.setTop (mkF m 12 #[iv p0, iv 2, .unset, .unset] [(.ref w_METERED_LOAD)])) _
    refine XS.astoreN X1.here hx rfl (hb hby at_12) rfl rfl (l' := #[iv p0, iv 2, rv w_METERED_LOAD, .unset]) rfl ?_
    show Steps p.tables e below (T1.setTop (mkF m 13 #[iv p0, iv 2, rv w_METERED_LOAD, .unset] [])) _
    refine XS.iloadN X1.here hx rfl (hb hby at_13) rfl ?_
    show Steps p.tables e below (T1.setTop (mkF m 14 #[iv p0, iv 2, rv w_METERED_LOAD, .unset] [(.int 2)])) _
    refine XS.bipush X1.here hx rfl (hb hby at_14) ?_
    show Steps p.tables e below (T1.setTop (mkF m 16 #[iv p0, iv 2, rv w_METERED_LOAD, .unset] [(.int 9), (.int 2)])) _
    refine XS.icmpNo X1.here hx rfl (hb hby at_16) rfl (feq (by decide)).1 ?_
    show Steps p.tables e below (T1.setTop (mkF m 19 #[iv p0, iv 2, rv w_METERED_LOAD, .unset] [])) _
    refine XS.iloadN X1.here hx rfl (hb hby at_19) rfl ?_
    show Steps p.tables e below (T1.setTop (mkF m 20 #[iv p0, iv 2, rv w_METERED_LOAD, .unset] [(.int 2)])) _
    refine XS.bipush X1.here hx rfl (hb hby at_20) ?_
    show Steps p.tables e below (T1.setTop (mkF m 22 #[iv p0, iv 2, rv w_METERED_LOAD, .unset] [(.int 10), (.int 2)])) _
    refine XS.icmpYes X1.here hx rfl (pc0 := 22) (pc' := 29) rfl (hb hby at_22) rfl (feq (by decide)).2 (by decide) (by decide) ?_
    show Steps p.tables e below (T1.setTop (mkF m 29 #[iv p0, iv 2, rv w_METERED_LOAD, .unset] [])) _
    refine XS.iconst X1.here hx rfl (hb hby at_29) ?_
    show Steps p.tables e below (T1.setTop (mkF m 30 #[iv p0, iv 2, rv w_METERED_LOAD, .unset] [(.int 0)])) _
    refine XS.istoreN X1.here hx rfl (hb hby at_30) rfl (l' := #[iv p0, iv 2, rv w_METERED_LOAD, iv 0]) rfl ?_
    show Steps p.tables e below (T1.setTop (mkF m 31 #[iv p0, iv 2, rv w_METERED_LOAD, iv 0] [])) _
    refine XS.aloadN X1.here hx rfl (hb hby at_31) rfl rfl ?_
    show Steps p.tables e below (T1.setTop (mkF m 32 #[iv p0, iv 2, rv w_METERED_LOAD, iv 0] [(.ref w_METERED_LOAD)])) _
    refine st2.trans ?_
    show Steps p.tables e below (T2.setTop (mkF m 35 #[iv p0, iv 2, rv w_METERED_LOAD, iv 0] [(.int 0)])) _
    refine XS.iloadN X2.here hx rfl (hb hby at_35) rfl ?_
    show Steps p.tables e below (T2.setTop (mkF m 36 #[iv p0, iv 2, rv w_METERED_LOAD, iv 0] [(.int 0), (.int 0)])) _
    refine XS.icmpNo X2.here hx rfl (hb hby at_36) rfl (teq (by decide)).2 ?_
    show Steps p.tables e below (T2.setTop (mkF m 39 #[iv p0, iv 2, rv w_METERED_LOAD, iv 0] [])) _
    refine XS.iconst X2.here hx rfl (hb hby at_39) ?_
    show Steps p.tables e below (T2.setTop (mkF m 40 #[iv p0, iv 2, rv w_METERED_LOAD, iv 0] [(.int 1)])) _
    refine XS.goto X2.here hx rfl (pc0 := 40) (pc' := 44) rfl (hb hby at_40) (by decide) (by decide) ?_
    show Steps p.tables e below (T2.setTop (mkF m 44 #[iv p0, iv 2, rv w_METERED_LOAD, iv 0] [(.int 1)])) _
    exact retN X2 hx (t := .boolean) Bd.returns (by simp) (hb hby at_44) hr
  · show own_law2_Q Z w_DEMAND_BID w_DECREMENT_BID w_METERED_LOAD w_EXTERNAL_SALE w_IBT_LOAD w_SUPPLY_OFFER w_INCREMENT_OFFER w_METERED_GENERATION w_EXTERNAL_PURCHASE w_IBT_MARKET w_IBT_MARKET_EXCL p0 h0 n0 _ T2.heap _
    rw [e2]
    exact ⟨rfl, N2, trivial⟩
theorem own_law3_ef (m : MethodId) (p0 : Int32) : entryFrame m #[(.int p0)] maxLocals = mkF m 0 #[iv p0, .unset, .unset, .unset] [] := by first | (simp [entryFrame, mkF, argsToLocals, Value.category, maxLocals]; done) | rfl
def own_law3_Q (Z : State) (w_DEMAND_BID : Addr) (w_DECREMENT_BID : Addr) (w_METERED_LOAD : Addr) (w_EXTERNAL_SALE : Addr) (w_IBT_LOAD : Addr) (w_SUPPLY_OFFER : Addr) (w_INCREMENT_OFFER : Addr) (w_METERED_GENERATION : Addr) (w_EXTERNAL_PURCHASE : Addr) (w_IBT_MARKET : Addr) (w_IBT_MARKET_EXCL : Addr) (p0 : Int32) (h0 : Heap) (n0 : Nat) (v : Option Value) (h : Heap) (L : List Loc) : Prop := v = some (.int 1) ∧ Fr n0 L ∧ True
set_option maxRecDepth 65536 in
set_option maxHeartbeats 40000000 in
theorem own_law3 (l : Launch) (Z : State) (a0 : Array Value) (hw : ∀ d ∈ tables_1, d.before a0 Z = true) (ws : List Jvm.Cond) (w_DEMAND_BID : Addr) (w_DECREMENT_BID : Addr) (w_METERED_LOAD : Addr) (w_EXTERNAL_SALE : Addr) (w_IBT_LOAD : Addr) (w_SUPPLY_OFFER : Addr) (w_INCREMENT_OFFER : Addr) (w_METERED_GENERATION : Addr) (w_EXTERNAL_PURCHASE : Addr) (w_IBT_MARKET : Addr) (w_IBT_MARKET_EXCL : Addr) (p0 : Int32) (h0 : Heap) (n0 : Nat) (O0 : Old Z n0 h0) (U_DEMAND_BID : own_En Z Z.heap "com/example/holdfast/holdfast/PositionKind" "DEMAND_BID" "Lcom/example/holdfast/holdfast/PositionKind;" w_DEMAND_BID (0 : Int32)) (U_DECREMENT_BID : own_En Z Z.heap "com/example/holdfast/holdfast/PositionKind" "DECREMENT_BID" "Lcom/example/holdfast/holdfast/PositionKind;" w_DECREMENT_BID (1 : Int32)) (U_METERED_LOAD : own_En Z Z.heap "com/example/holdfast/holdfast/PositionKind" "METERED_LOAD" "Lcom/example/holdfast/holdfast/PositionKind;" w_METERED_LOAD (2 : Int32)) (U_EXTERNAL_SALE : own_En Z Z.heap "com/example/holdfast/holdfast/PositionKind" "EXTERNAL_SALE" "Lcom/example/holdfast/holdfast/PositionKind;" w_EXTERNAL_SALE (3 : Int32)) (U_IBT_LOAD : own_En Z Z.heap "com/example/holdfast/holdfast/PositionKind" "IBT_LOAD" "Lcom/example/holdfast/holdfast/PositionKind;" w_IBT_LOAD (4 : Int32)) (U_SUPPLY_OFFER : own_En Z Z.heap "com/example/holdfast/holdfast/PositionKind" "SUPPLY_OFFER" "Lcom/example/holdfast/holdfast/PositionKind;" w_SUPPLY_OFFER (5 : Int32)) (U_INCREMENT_OFFER : own_En Z Z.heap "com/example/holdfast/holdfast/PositionKind" "INCREMENT_OFFER" "Lcom/example/holdfast/holdfast/PositionKind;" w_INCREMENT_OFFER (6 : Int32)) (U_METERED_GENERATION : own_En Z Z.heap "com/example/holdfast/holdfast/PositionKind" "METERED_GENERATION" "Lcom/example/holdfast/holdfast/PositionKind;" w_METERED_GENERATION (7 : Int32)) (U_EXTERNAL_PURCHASE : own_En Z Z.heap "com/example/holdfast/holdfast/PositionKind" "EXTERNAL_PURCHASE" "Lcom/example/holdfast/holdfast/PositionKind;" w_EXTERNAL_PURCHASE (8 : Int32)) (U_IBT_MARKET : own_En Z Z.heap "com/example/holdfast/holdfast/PositionKind" "IBT_MARKET" "Lcom/example/holdfast/holdfast/PositionKind;" w_IBT_MARKET (9 : Int32)) (U_IBT_MARKET_EXCL : own_En Z Z.heap "com/example/holdfast/holdfast/PositionKind" "IBT_MARKET_EXCL" "Lcom/example/holdfast/holdfast/PositionKind;" w_IBT_MARKET_EXCL (10 : Int32)) (hk : (p0 &&& (2147483647 : Int32)) % (11 : Int32) = (3 : Int32)) :
    MetFree l x (head1 (Jvm.Cond.code x code maxLocals ret :: ws) room_1) (fun a U => a = #[(.int p0)] ∧ Z.Warmed39 U.vm ∧ U.heap = h0) (fun _ _ _ _ _ => True) (fun _ U o U' => ∃ v L, o = .returned v ∧ own_law3_Q Z w_DEMAND_BID w_DECREMENT_BID w_METERED_LOAD w_EXTERNAL_SALE w_IBT_LOAD w_SUPPLY_OFFER w_INCREMENT_OFFER w_METERED_GENERATION w_EXTERNAL_PURCHASE w_IBT_MARKET w_IBT_MARKET_EXCL p0 h0 n0 v U'.heap L ∧ FrameEnd U o U' L 0 0) := by
  refine MetFree.of_bodySF (plainFor_of_name own_pn1) hisR ?_
  intro p e s m args below meth c s₁ Bd hml0 hP hK
  obtain ⟨rfl, hZ, hh⟩ := hP
  have hx := Bd.exec
  have hby := Bd.bytes
  have hml : c.maxLocals = 4 := hml0
  have hown : s.vm.findClass "com/example/holdfast/holdfast/PositionKindCarriesIntoRealTimePinLaw" = some m.cls := findClass_of_methodNamed Bd.named
  have hnm := (name_of_methodNamed Bd.named Bd.method).1
  have X0 : Stand p l e room_1 s m #[(.int p0)] below meth c s₁ [] 0 0 := Stand.of_body Bd
  have e0 : s₁.heap = h0 := by rw [← hh, Bd.state]; rfl
  have N0 := Fr.nil n0
  have pre0 : ∀ t, Steps p.tables e below (s₁.setTop (mkF m 0 #[iv p0, .unset, .unset, .unset] [])) t → Steps p.tables e below (s₁.setTop (entryFrame m #[(.int p0)] maxLocals)) t := fun t k => castTop (own_law3_ef m p0) k
  obtain ⟨_, _, ⟨T1, L1, k1, n1⟩, -, X1, ⟨Lc1, hQ1, l1, y1, z1⟩, st1⟩ := Jvm.LawKit.callS X0 hx (y := (⟨"com/example/holdfast/holdfast/PositionKindCarriesIntoRealTimePinLaw", "kindAt", "(I)Lcom/example/holdfast/holdfast/PositionKind;"⟩ : MethodName)) hown (mvT hZ (hw _ (List.mem_of_getElem? (i := 1) rfl))) (mvT hZ (hw _ (List.mem_of_getElem? (i := 2) rfl))) (mvT hZ (hw _ (List.mem_of_getElem? (i := 3) rfl))) (mvT hZ (hw _ (List.mem_of_getElem? (i := 4) rfl))) (by decide) (backOf (W := 0) (own_p_3 l Z a0 hw [] w_DEMAND_BID w_DECREMENT_BID w_METERED_LOAD w_EXTERNAL_SALE w_IBT_LOAD w_SUPPLY_OFFER w_INCREMENT_OFFER w_METERED_GENERATION w_EXTERNAL_PURCHASE w_IBT_MARKET w_IBT_MARKET_EXCL  h0 n0 O0 U_DEMAND_BID U_DECREMENT_BID U_METERED_LOAD U_EXTERNAL_SALE U_IBT_LOAD U_SUPPLY_OFFER U_INCREMENT_OFFER U_METERED_GENERATION U_EXTERNAL_PURCHASE U_IBT_MARKET U_IBT_MARKET_EXCL ) hZ (hw _ (List.mem_of_getElem? (i := 4) rfl)) (hw _ (List.mem_of_getElem? (i := 3) rfl)) (by decide) (by decide)) (g := (mkF m 9 #[iv p0, iv 3, .unset, .unset] [(.int 3)])) rfl (by rw [hml]; rfl) (argsL := [(.int 3)]) (rest := []) (lenOf own_pd0 rfl) rfl (by show 2 * 0 + _ ≤ _; exact Nat.le_of_eq rfl) (hb hby at_9) (fun _ _ => ⟨rfl, e0, (by decide : 0 + 0 ≤ _), (by decide : 0 + 0 ≤ _)⟩)
  dsimp only [Pt.U, Pt.locs, Pt.cells, Pt.slots] at X1 l1 y1 z1 st1 hQ1
  subst l1 y1 z1
  obtain ⟨rfl, N1q, e1⟩ := hQ1
  have N1 := Fr.app N0 N1q
  obtain ⟨cq2, kq2, q2a, q2b, q2c⟩ := isOf hZ e1 (U_EXTERNAL_SALE.2.1.ext O0.2)
  obtain ⟨_, _, ⟨T2, L2, k2, n2⟩, -, X2, ⟨Lc2, hQ2, l2, y2, z2⟩, st2⟩ := X1.virtualBack hx (y := (⟨"com/example/holdfast/holdfast/PositionKind", "carriesIntoRealTime", "()Z"⟩ : MethodName)) (z := (⟨"com/example/holdfast/holdfast/PositionKind", "carriesIntoRealTime", "()Z"⟩ : MethodName)) hown (mvT hZ (hw _ (List.mem_of_getElem? (i := 8) rfl))) (mvT hZ (hw _ (List.mem_of_getElem? (i := 9) rfl))) (notFace_of_selects (args := #[]) (mvT hZ (hw _ (List.mem_of_getElem? (i := 11) rfl)))) (mvT hZ (hw _ (List.mem_of_getElem? (i := 11) rfl))) (mvT hZ (hw _ (List.mem_of_getElem? (i := 10) rfl))) (by decide) (backOf (W := 0) (own_m_EXTERNAL_SALE l Z a0 hw [] w_DEMAND_BID w_DECREMENT_BID w_METERED_LOAD w_EXTERNAL_SALE w_IBT_LOAD w_SUPPLY_OFFER w_INCREMENT_OFFER w_METERED_GENERATION w_EXTERNAL_PURCHASE w_IBT_MARKET w_IBT_MARKET_EXCL  h0 n0 O0 U_DEMAND_BID U_DECREMENT_BID U_METERED_LOAD U_EXTERNAL_SALE U_IBT_LOAD U_SUPPLY_OFFER U_INCREMENT_OFFER U_METERED_GENERATION U_EXTERNAL_PURCHASE U_IBT_MARKET U_IBT_MARKET_EXCL ) hZ (hw _ (List.mem_of_getElem? (i := 12) rfl)) (hw _ (List.mem_of_getElem? (i := 6) rfl)) (by decide) (by decide)) q2a q2c (g := (mkF m 32 #[iv p0, iv 3, rv w_EXTERNAL_SALE, iv 0] [(.ref w_EXTERNAL_SALE)])) rfl (by rw [hml]; rfl) (Steps.refl _) (argsL := []) (rest := []) (lenOf own_pd1 rfl) rfl (by show 2 * 0 + _ ≤ _; exact Nat.le_of_eq rfl) (hb hby at_32) (fun _ _ => ⟨rfl, e1, (by decide : 0 + 0 ≤ _), (by decide : 0 + 0 ≤ _)⟩)
  dsimp only [Pt.U, Pt.locs, Pt.cells, Pt.slots] at X2 l2 y2 z2 st2 hQ2
  subst l2 y2 z2
  obtain ⟨rfl, N2q, e2⟩ := hQ2
  have N2 := Fr.app N1 N2q
  obtain ⟨fs, hr, hrun, hended, hW, hsame⟩ := X2.leave (v := some (.int 1)) (fun h => by rw [Bd.returns] at h; cases h)
  refine ⟨_, _, pre0 _ ?_, hrun, hended, _, _, rfl, ?_, ⟨_, rfl⟩, hW, hsame.mono (by decide) (by decide)⟩
  · show Steps p.tables e below (s₁.setTop (mkF m 0 #[iv p0, .unset, .unset, .unset] [])) _
    refine XS.iloadN X0.here hx rfl (hb hby at_0) rfl ?_
    show Steps p.tables e below (s₁.setTop (mkF m 1 #[iv p0, .unset, .unset, .unset] [(.int p0)])) _
    refine X0.ldcInt hx hown (mvT hZ (hw _ (List.mem_of_getElem? (i := 0) rfl))) (g := (mkF m 1 #[iv p0, .unset, .unset, .unset] [(.int p0)])) rfl (hb hby at_1) _ ?_
    show Steps p.tables e below (s₁.setTop (mkF m 3 #[iv p0, .unset, .unset, .unset] [(.int 2147483647), (.int p0)])) _
    refine XS.iand X0.here hx rfl (hb hby at_3) rfl ?_
    show Steps p.tables e below (s₁.setTop (mkF m 4 #[iv p0, .unset, .unset, .unset] [(.int (p0 &&& (2147483647 : Int32)))])) _
    refine XS.bipush X0.here hx rfl (hb hby at_4) ?_
    show Steps p.tables e below (s₁.setTop (mkF m 6 #[iv p0, .unset, .unset, .unset] [(.int 11), (.int (p0 &&& (2147483647 : Int32)))])) _
    refine iremM X0 hx rfl (hb hby at_6) rfl (by decide) ?_
    show Steps p.tables e below (s₁.setTop (mkF m 7 #[iv p0, .unset, .unset, .unset] [(.int ((p0 &&& (2147483647 : Int32)) % (11 : Int32)))])) _
    refine own_top (v' := (.int 3)) (congrArg Value.int hk) ?_
    show Steps p.tables e below (s₁.setTop (mkF m 7 #[iv p0, .unset, .unset, .unset] [(.int 3)])) _
    refine XS.istoreN X0.here hx rfl (hb hby at_7) rfl (l' := #[iv p0, iv 3, .unset, .unset]) rfl ?_
    show Steps p.tables e below (s₁.setTop (mkF m 8 #[iv p0, iv 3, .unset, .unset] [])) _
    refine XS.iloadN X0.here hx rfl (hb hby at_8) rfl ?_
    show Steps p.tables e below (s₁.setTop (mkF m 9 #[iv p0, iv 3, .unset, .unset] [(.int 3)])) _
    refine st1 _ ?_
    show Steps p.tables e below (T1.setTop (mkF m 12 #[iv p0, iv 3, .unset, .unset] [(.ref w_EXTERNAL_SALE)])) _
    refine XS.astoreN X1.here hx rfl (hb hby at_12) rfl rfl (l' := #[iv p0, iv 3, rv w_EXTERNAL_SALE, .unset]) rfl ?_
    show Steps p.tables e below (T1.setTop (mkF m 13 #[iv p0, iv 3, rv w_EXTERNAL_SALE, .unset] [])) _
    refine XS.iloadN X1.here hx rfl (hb hby at_13) rfl ?_
    show Steps p.tables e below (T1.setTop (mkF m 14 #[iv p0, iv 3, rv w_EXTERNAL_SALE, .unset] [(.int 3)])) _
    refine XS.bipush X1.here hx rfl (hb hby at_14) ?_
    show Steps p.tables e below (T1.setTop (mkF m 16 #[iv p0, iv 3, rv w_EXTERNAL_SALE, .unset] [(.int 9), (.int 3)])) _
    refine XS.icmpNo X1.here hx rfl (hb hby at_16) rfl (feq (by decide)).1 ?_
    show Steps p.tables e below (T1.setTop (mkF m 19 #[iv p0, iv 3, rv w_EXTERNAL_SALE, .unset] [])) _
    refine XS.iloadN X1.here hx rfl (hb hby at_19) rfl ?_
    show Steps p.tables e below (T1.setTop (mkF m 20 #[iv p0, iv 3, rv w_EXTERNAL_SALE, .unset] [(.int 3)])) _
    refine XS.bipush X1.here hx rfl (hb hby at_20) ?_
    show Steps p.tables e below (T1.setTop (mkF m 22 #[iv p0, iv 3, rv w_EXTERNAL_SALE, .unset] [(.int 10), (.int 3)])) _
    refine XS.icmpYes X1.here hx rfl (pc0 := 22) (pc' := 29) rfl (hb hby at_22) rfl (feq (by decide)).2 (by decide) (by decide) ?_
    show Steps p.tables e below (T1.setTop (mkF m 29 #[iv p0, iv 3, rv w_EXTERNAL_SALE, .unset] [])) _
    refine XS.iconst X1.here hx rfl (hb hby at_29) ?_
    show Steps p.tables e below (T1.setTop (mkF m 30 #[iv p0, iv 3, rv w_EXTERNAL_SALE, .unset] [(.int 0)])) _
    refine XS.istoreN X1.here hx rfl (hb hby at_30) rfl (l' := #[iv p0, iv 3, rv w_EXTERNAL_SALE, iv 0]) rfl ?_
    show Steps p.tables e below (T1.setTop (mkF m 31 #[iv p0, iv 3, rv w_EXTERNAL_SALE, iv 0] [])) _
    refine XS.aloadN X1.here hx rfl (hb hby at_31) rfl rfl ?_
    show Steps p.tables e below (T1.setTop (mkF m 32 #[iv p0, iv 3, rv w_EXTERNAL_SALE, iv 0] [(.ref w_EXTERNAL_SALE)])) _
    refine st2.trans ?_
    show Steps p.tables e below (T2.setTop (mkF m 35 #[iv p0, iv 3, rv w_EXTERNAL_SALE, iv 0] [(.int 0)])) _
    refine XS.iloadN X2.here hx rfl (hb hby at_35) rfl ?_
    show Steps p.tables e below (T2.setTop (mkF m 36 #[iv p0, iv 3, rv w_EXTERNAL_SALE, iv 0] [(.int 0), (.int 0)])) _
    refine XS.icmpNo X2.here hx rfl (hb hby at_36) rfl (teq (by decide)).2 ?_
    show Steps p.tables e below (T2.setTop (mkF m 39 #[iv p0, iv 3, rv w_EXTERNAL_SALE, iv 0] [])) _
    refine XS.iconst X2.here hx rfl (hb hby at_39) ?_
    show Steps p.tables e below (T2.setTop (mkF m 40 #[iv p0, iv 3, rv w_EXTERNAL_SALE, iv 0] [(.int 1)])) _
    refine XS.goto X2.here hx rfl (pc0 := 40) (pc' := 44) rfl (hb hby at_40) (by decide) (by decide) ?_
    show Steps p.tables e below (T2.setTop (mkF m 44 #[iv p0, iv 3, rv w_EXTERNAL_SALE, iv 0] [(.int 1)])) _
    exact retN X2 hx (t := .boolean) Bd.returns (by simp) (hb hby at_44) hr
  · show own_law3_Q Z w_DEMAND_BID w_DECREMENT_BID w_METERED_LOAD w_EXTERNAL_SALE w_IBT_LOAD w_SUPPLY_OFFER w_INCREMENT_OFFER w_METERED_GENERATION w_EXTERNAL_PURCHASE w_IBT_MARKET w_IBT_MARKET_EXCL p0 h0 n0 _ T2.heap _
    rw [e2]
    exact ⟨rfl, N2, trivial⟩
theorem own_law4_ef (m : MethodId) (p0 : Int32) : entryFrame m #[(.int p0)] maxLocals = mkF m 0 #[iv p0, .unset, .unset, .unset] [] := by first | (simp [entryFrame, mkF, argsToLocals, Value.category, maxLocals]; done) | rfl
def own_law4_Q (Z : State) (w_DEMAND_BID : Addr) (w_DECREMENT_BID : Addr) (w_METERED_LOAD : Addr) (w_EXTERNAL_SALE : Addr) (w_IBT_LOAD : Addr) (w_SUPPLY_OFFER : Addr) (w_INCREMENT_OFFER : Addr) (w_METERED_GENERATION : Addr) (w_EXTERNAL_PURCHASE : Addr) (w_IBT_MARKET : Addr) (w_IBT_MARKET_EXCL : Addr) (p0 : Int32) (h0 : Heap) (n0 : Nat) (v : Option Value) (h : Heap) (L : List Loc) : Prop := v = some (.int 1) ∧ Fr n0 L ∧ True
set_option maxRecDepth 65536 in
set_option maxHeartbeats 40000000 in
theorem own_law4 (l : Launch) (Z : State) (a0 : Array Value) (hw : ∀ d ∈ tables_1, d.before a0 Z = true) (ws : List Jvm.Cond) (w_DEMAND_BID : Addr) (w_DECREMENT_BID : Addr) (w_METERED_LOAD : Addr) (w_EXTERNAL_SALE : Addr) (w_IBT_LOAD : Addr) (w_SUPPLY_OFFER : Addr) (w_INCREMENT_OFFER : Addr) (w_METERED_GENERATION : Addr) (w_EXTERNAL_PURCHASE : Addr) (w_IBT_MARKET : Addr) (w_IBT_MARKET_EXCL : Addr) (p0 : Int32) (h0 : Heap) (n0 : Nat) (O0 : Old Z n0 h0) (U_DEMAND_BID : own_En Z Z.heap "com/example/holdfast/holdfast/PositionKind" "DEMAND_BID" "Lcom/example/holdfast/holdfast/PositionKind;" w_DEMAND_BID (0 : Int32)) (U_DECREMENT_BID : own_En Z Z.heap "com/example/holdfast/holdfast/PositionKind" "DECREMENT_BID" "Lcom/example/holdfast/holdfast/PositionKind;" w_DECREMENT_BID (1 : Int32)) (U_METERED_LOAD : own_En Z Z.heap "com/example/holdfast/holdfast/PositionKind" "METERED_LOAD" "Lcom/example/holdfast/holdfast/PositionKind;" w_METERED_LOAD (2 : Int32)) (U_EXTERNAL_SALE : own_En Z Z.heap "com/example/holdfast/holdfast/PositionKind" "EXTERNAL_SALE" "Lcom/example/holdfast/holdfast/PositionKind;" w_EXTERNAL_SALE (3 : Int32)) (U_IBT_LOAD : own_En Z Z.heap "com/example/holdfast/holdfast/PositionKind" "IBT_LOAD" "Lcom/example/holdfast/holdfast/PositionKind;" w_IBT_LOAD (4 : Int32)) (U_SUPPLY_OFFER : own_En Z Z.heap "com/example/holdfast/holdfast/PositionKind" "SUPPLY_OFFER" "Lcom/example/holdfast/holdfast/PositionKind;" w_SUPPLY_OFFER (5 : Int32)) (U_INCREMENT_OFFER : own_En Z Z.heap "com/example/holdfast/holdfast/PositionKind" "INCREMENT_OFFER" "Lcom/example/holdfast/holdfast/PositionKind;" w_INCREMENT_OFFER (6 : Int32)) (U_METERED_GENERATION : own_En Z Z.heap "com/example/holdfast/holdfast/PositionKind" "METERED_GENERATION" "Lcom/example/holdfast/holdfast/PositionKind;" w_METERED_GENERATION (7 : Int32)) (U_EXTERNAL_PURCHASE : own_En Z Z.heap "com/example/holdfast/holdfast/PositionKind" "EXTERNAL_PURCHASE" "Lcom/example/holdfast/holdfast/PositionKind;" w_EXTERNAL_PURCHASE (8 : Int32)) (U_IBT_MARKET : own_En Z Z.heap "com/example/holdfast/holdfast/PositionKind" "IBT_MARKET" "Lcom/example/holdfast/holdfast/PositionKind;" w_IBT_MARKET (9 : Int32)) (U_IBT_MARKET_EXCL : own_En Z Z.heap "com/example/holdfast/holdfast/PositionKind" "IBT_MARKET_EXCL" "Lcom/example/holdfast/holdfast/PositionKind;" w_IBT_MARKET_EXCL (10 : Int32)) (hk : (p0 &&& (2147483647 : Int32)) % (11 : Int32) = (4 : Int32)) :
    MetFree l x (head1 (Jvm.Cond.code x code maxLocals ret :: ws) room_1) (fun a U => a = #[(.int p0)] ∧ Z.Warmed39 U.vm ∧ U.heap = h0) (fun _ _ _ _ _ => True) (fun _ U o U' => ∃ v L, o = .returned v ∧ own_law4_Q Z w_DEMAND_BID w_DECREMENT_BID w_METERED_LOAD w_EXTERNAL_SALE w_IBT_LOAD w_SUPPLY_OFFER w_INCREMENT_OFFER w_METERED_GENERATION w_EXTERNAL_PURCHASE w_IBT_MARKET w_IBT_MARKET_EXCL p0 h0 n0 v U'.heap L ∧ FrameEnd U o U' L 0 0) := by
  refine MetFree.of_bodySF (plainFor_of_name own_pn1) hisR ?_
  intro p e s m args below meth c s₁ Bd hml0 hP hK
  obtain ⟨rfl, hZ, hh⟩ := hP
  have hx := Bd.exec
  have hby := Bd.bytes
  have hml : c.maxLocals = 4 := hml0
  have hown : s.vm.findClass "com/example/holdfast/holdfast/PositionKindCarriesIntoRealTimePinLaw" = some m.cls := findClass_of_methodNamed Bd.named
  have hnm := (name_of_methodNamed Bd.named Bd.method).1
  have X0 : Stand p l e room_1 s m #[(.int p0)] below meth c s₁ [] 0 0 := Stand.of_body Bd
  have e0 : s₁.heap = h0 := by rw [← hh, Bd.state]; rfl
  have N0 := Fr.nil n0
  have pre0 : ∀ t, Steps p.tables e below (s₁.setTop (mkF m 0 #[iv p0, .unset, .unset, .unset] [])) t → Steps p.tables e below (s₁.setTop (entryFrame m #[(.int p0)] maxLocals)) t := fun t k => castTop (own_law4_ef m p0) k
  obtain ⟨_, _, ⟨T1, L1, k1, n1⟩, -, X1, ⟨Lc1, hQ1, l1, y1, z1⟩, st1⟩ := Jvm.LawKit.callS X0 hx (y := (⟨"com/example/holdfast/holdfast/PositionKindCarriesIntoRealTimePinLaw", "kindAt", "(I)Lcom/example/holdfast/holdfast/PositionKind;"⟩ : MethodName)) hown (mvT hZ (hw _ (List.mem_of_getElem? (i := 1) rfl))) (mvT hZ (hw _ (List.mem_of_getElem? (i := 2) rfl))) (mvT hZ (hw _ (List.mem_of_getElem? (i := 3) rfl))) (mvT hZ (hw _ (List.mem_of_getElem? (i := 4) rfl))) (by decide) (backOf (W := 0) (own_p_4 l Z a0 hw [] w_DEMAND_BID w_DECREMENT_BID w_METERED_LOAD w_EXTERNAL_SALE w_IBT_LOAD w_SUPPLY_OFFER w_INCREMENT_OFFER w_METERED_GENERATION w_EXTERNAL_PURCHASE w_IBT_MARKET w_IBT_MARKET_EXCL  h0 n0 O0 U_DEMAND_BID U_DECREMENT_BID U_METERED_LOAD U_EXTERNAL_SALE U_IBT_LOAD U_SUPPLY_OFFER U_INCREMENT_OFFER U_METERED_GENERATION U_EXTERNAL_PURCHASE U_IBT_MARKET U_IBT_MARKET_EXCL ) hZ (hw _ (List.mem_of_getElem? (i := 4) rfl)) (hw _ (List.mem_of_getElem? (i := 3) rfl)) (by decide) (by decide)) (g := (mkF m 9 #[iv p0, iv 4, .unset, .unset] [(.int 4)])) rfl (by rw [hml]; rfl) (argsL := [(.int 4)]) (rest := []) (lenOf own_pd0 rfl) rfl (by show 2 * 0 + _ ≤ _; exact Nat.le_of_eq rfl) (hb hby at_9) (fun _ _ => ⟨rfl, e0, (by decide : 0 + 0 ≤ _), (by decide : 0 + 0 ≤ _)⟩)
  dsimp only [Pt.U, Pt.locs, Pt.cells, Pt.slots] at X1 l1 y1 z1 st1 hQ1
  subst l1 y1 z1
  obtain ⟨rfl, N1q, e1⟩ := hQ1
  have N1 := Fr.app N0 N1q
  obtain ⟨cq2, kq2, q2a, q2b, q2c⟩ := isOf hZ e1 (U_IBT_LOAD.2.1.ext O0.2)
  obtain ⟨_, _, ⟨T2, L2, k2, n2⟩, -, X2, ⟨Lc2, hQ2, l2, y2, z2⟩, st2⟩ := X1.virtualBack hx (y := (⟨"com/example/holdfast/holdfast/PositionKind", "carriesIntoRealTime", "()Z"⟩ : MethodName)) (z := (⟨"com/example/holdfast/holdfast/PositionKind", "carriesIntoRealTime", "()Z"⟩ : MethodName)) hown (mvT hZ (hw _ (List.mem_of_getElem? (i := 8) rfl))) (mvT hZ (hw _ (List.mem_of_getElem? (i := 9) rfl))) (notFace_of_selects (args := #[]) (mvT hZ (hw _ (List.mem_of_getElem? (i := 11) rfl)))) (mvT hZ (hw _ (List.mem_of_getElem? (i := 11) rfl))) (mvT hZ (hw _ (List.mem_of_getElem? (i := 10) rfl))) (by decide) (backOf (W := 0) (own_m_IBT_LOAD l Z a0 hw [] w_DEMAND_BID w_DECREMENT_BID w_METERED_LOAD w_EXTERNAL_SALE w_IBT_LOAD w_SUPPLY_OFFER w_INCREMENT_OFFER w_METERED_GENERATION w_EXTERNAL_PURCHASE w_IBT_MARKET w_IBT_MARKET_EXCL  h0 n0 O0 U_DEMAND_BID U_DECREMENT_BID U_METERED_LOAD U_EXTERNAL_SALE U_IBT_LOAD U_SUPPLY_OFFER U_INCREMENT_OFFER U_METERED_GENERATION U_EXTERNAL_PURCHASE U_IBT_MARKET U_IBT_MARKET_EXCL ) hZ (hw _ (List.mem_of_getElem? (i := 12) rfl)) (hw _ (List.mem_of_getElem? (i := 6) rfl)) (by decide) (by decide)) q2a q2c (g := (mkF m 32 #[iv p0, iv 4, rv w_IBT_LOAD, iv 0] [(.ref w_IBT_LOAD)])) rfl (by rw [hml]; rfl) (Steps.refl _) (argsL := []) (rest := []) (lenOf own_pd1 rfl) rfl (by show 2 * 0 + _ ≤ _; exact Nat.le_of_eq rfl) (hb hby at_32) (fun _ _ => ⟨rfl, e1, (by decide : 0 + 0 ≤ _), (by decide : 0 + 0 ≤ _)⟩)
  dsimp only [Pt.U, Pt.locs, Pt.cells, Pt.slots] at X2 l2 y2 z2 st2 hQ2
  subst l2 y2 z2
  obtain ⟨rfl, N2q, e2⟩ := hQ2
  have N2 := Fr.app N1 N2q
  obtain ⟨fs, hr, hrun, hended, hW, hsame⟩ := X2.leave (v := some (.int 1)) (fun h => by rw [Bd.returns] at h; cases h)
  refine ⟨_, _, pre0 _ ?_, hrun, hended, _, _, rfl, ?_, ⟨_, rfl⟩, hW, hsame.mono (by decide) (by decide)⟩
  · show Steps p.tables e below (s₁.setTop (mkF m 0 #[iv p0, .unset, .unset, .unset] [])) _
    refine XS.iloadN X0.here hx rfl (hb hby at_0) rfl ?_
    show Steps p.tables e below (s₁.setTop (mkF m 1 #[iv p0, .unset, .unset, .unset] [(.int p0)])) _
    refine X0.ldcInt hx hown (mvT hZ (hw _ (List.mem_of_getElem? (i := 0) rfl))) (g := (mkF m 1 #[iv p0, .unset, .unset, .unset] [(.int p0)])) rfl (hb hby at_1) _ ?_
    show Steps p.tables e below (s₁.setTop (mkF m 3 #[iv p0, .unset, .unset, .unset] [(.int 2147483647), (.int p0)])) _
    refine XS.iand X0.here hx rfl (hb hby at_3) rfl ?_
    show Steps p.tables e below (s₁.setTop (mkF m 4 #[iv p0, .unset, .unset, .unset] [(.int (p0 &&& (2147483647 : Int32)))])) _
    refine XS.bipush X0.here hx rfl (hb hby at_4) ?_
    show Steps p.tables e below (s₁.setTop (mkF m 6 #[iv p0, .unset, .unset, .unset] [(.int 11), (.int (p0 &&& (2147483647 : Int32)))])) _
    refine iremM X0 hx rfl (hb hby at_6) rfl (by decide) ?_
    show Steps p.tables e below (s₁.setTop (mkF m 7 #[iv p0, .unset, .unset, .unset] [(.int ((p0 &&& (2147483647 : Int32)) % (11 : Int32)))])) _
    refine own_top (v' := (.int 4)) (congrArg Value.int hk) ?_
    show Steps p.tables e below (s₁.setTop (mkF m 7 #[iv p0, .unset, .unset, .unset] [(.int 4)])) _
    refine XS.istoreN X0.here hx rfl (hb hby at_7) rfl (l' := #[iv p0, iv 4, .unset, .unset]) rfl ?_
    show Steps p.tables e below (s₁.setTop (mkF m 8 #[iv p0, iv 4, .unset, .unset] [])) _
    refine XS.iloadN X0.here hx rfl (hb hby at_8) rfl ?_
    show Steps p.tables e below (s₁.setTop (mkF m 9 #[iv p0, iv 4, .unset, .unset] [(.int 4)])) _
    refine st1 _ ?_
    show Steps p.tables e below (T1.setTop (mkF m 12 #[iv p0, iv 4, .unset, .unset] [(.ref w_IBT_LOAD)])) _
    refine XS.astoreN X1.here hx rfl (hb hby at_12) rfl rfl (l' := #[iv p0, iv 4, rv w_IBT_LOAD, .unset]) rfl ?_
    show Steps p.tables e below (T1.setTop (mkF m 13 #[iv p0, iv 4, rv w_IBT_LOAD, .unset] [])) _
    refine XS.iloadN X1.here hx rfl (hb hby at_13) rfl ?_
    show Steps p.tables e below (T1.setTop (mkF m 14 #[iv p0, iv 4, rv w_IBT_LOAD, .unset] [(.int 4)])) _
    refine XS.bipush X1.here hx rfl (hb hby at_14) ?_
    show Steps p.tables e below (T1.setTop (mkF m 16 #[iv p0, iv 4, rv w_IBT_LOAD, .unset] [(.int 9), (.int 4)])) _
    refine XS.icmpNo X1.here hx rfl (hb hby at_16) rfl (feq (by decide)).1 ?_
    show Steps p.tables e below (T1.setTop (mkF m 19 #[iv p0, iv 4, rv w_IBT_LOAD, .unset] [])) _
    refine XS.iloadN X1.here hx rfl (hb hby at_19) rfl ?_
    show Steps p.tables e below (T1.setTop (mkF m 20 #[iv p0, iv 4, rv w_IBT_LOAD, .unset] [(.int 4)])) _
    refine XS.bipush X1.here hx rfl (hb hby at_20) ?_
    show Steps p.tables e below (T1.setTop (mkF m 22 #[iv p0, iv 4, rv w_IBT_LOAD, .unset] [(.int 10), (.int 4)])) _
    refine XS.icmpYes X1.here hx rfl (pc0 := 22) (pc' := 29) rfl (hb hby at_22) rfl (feq (by decide)).2 (by decide) (by decide) ?_
    show Steps p.tables e below (T1.setTop (mkF m 29 #[iv p0, iv 4, rv w_IBT_LOAD, .unset] [])) _
    refine XS.iconst X1.here hx rfl (hb hby at_29) ?_
    show Steps p.tables e below (T1.setTop (mkF m 30 #[iv p0, iv 4, rv w_IBT_LOAD, .unset] [(.int 0)])) _
    refine XS.istoreN X1.here hx rfl (hb hby at_30) rfl (l' := #[iv p0, iv 4, rv w_IBT_LOAD, iv 0]) rfl ?_
    show Steps p.tables e below (T1.setTop (mkF m 31 #[iv p0, iv 4, rv w_IBT_LOAD, iv 0] [])) _
    refine XS.aloadN X1.here hx rfl (hb hby at_31) rfl rfl ?_
    show Steps p.tables e below (T1.setTop (mkF m 32 #[iv p0, iv 4, rv w_IBT_LOAD, iv 0] [(.ref w_IBT_LOAD)])) _
    refine st2.trans ?_
    show Steps p.tables e below (T2.setTop (mkF m 35 #[iv p0, iv 4, rv w_IBT_LOAD, iv 0] [(.int 0)])) _
    refine XS.iloadN X2.here hx rfl (hb hby at_35) rfl ?_
    show Steps p.tables e below (T2.setTop (mkF m 36 #[iv p0, iv 4, rv w_IBT_LOAD, iv 0] [(.int 0), (.int 0)])) _
    refine XS.icmpNo X2.here hx rfl (hb hby at_36) rfl (teq (by decide)).2 ?_
    show Steps p.tables e below (T2.setTop (mkF m 39 #[iv p0, iv 4, rv w_IBT_LOAD, iv 0] [])) _
    refine XS.iconst X2.here hx rfl (hb hby at_39) ?_
    show Steps p.tables e below (T2.setTop (mkF m 40 #[iv p0, iv 4, rv w_IBT_LOAD, iv 0] [(.int 1)])) _
    refine XS.goto X2.here hx rfl (pc0 := 40) (pc' := 44) rfl (hb hby at_40) (by decide) (by decide) ?_
    show Steps p.tables e below (T2.setTop (mkF m 44 #[iv p0, iv 4, rv w_IBT_LOAD, iv 0] [(.int 1)])) _
    exact retN X2 hx (t := .boolean) Bd.returns (by simp) (hb hby at_44) hr
  · show own_law4_Q Z w_DEMAND_BID w_DECREMENT_BID w_METERED_LOAD w_EXTERNAL_SALE w_IBT_LOAD w_SUPPLY_OFFER w_INCREMENT_OFFER w_METERED_GENERATION w_EXTERNAL_PURCHASE w_IBT_MARKET w_IBT_MARKET_EXCL p0 h0 n0 _ T2.heap _
    rw [e2]
    exact ⟨rfl, N2, trivial⟩
theorem own_law5_ef (m : MethodId) (p0 : Int32) : entryFrame m #[(.int p0)] maxLocals = mkF m 0 #[iv p0, .unset, .unset, .unset] [] := by first | (simp [entryFrame, mkF, argsToLocals, Value.category, maxLocals]; done) | rfl
def own_law5_Q (Z : State) (w_DEMAND_BID : Addr) (w_DECREMENT_BID : Addr) (w_METERED_LOAD : Addr) (w_EXTERNAL_SALE : Addr) (w_IBT_LOAD : Addr) (w_SUPPLY_OFFER : Addr) (w_INCREMENT_OFFER : Addr) (w_METERED_GENERATION : Addr) (w_EXTERNAL_PURCHASE : Addr) (w_IBT_MARKET : Addr) (w_IBT_MARKET_EXCL : Addr) (p0 : Int32) (h0 : Heap) (n0 : Nat) (v : Option Value) (h : Heap) (L : List Loc) : Prop := v = some (.int 1) ∧ Fr n0 L ∧ True
set_option maxRecDepth 65536 in
set_option maxHeartbeats 40000000 in
theorem own_law5 (l : Launch) (Z : State) (a0 : Array Value) (hw : ∀ d ∈ tables_1, d.before a0 Z = true) (ws : List Jvm.Cond) (w_DEMAND_BID : Addr) (w_DECREMENT_BID : Addr) (w_METERED_LOAD : Addr) (w_EXTERNAL_SALE : Addr) (w_IBT_LOAD : Addr) (w_SUPPLY_OFFER : Addr) (w_INCREMENT_OFFER : Addr) (w_METERED_GENERATION : Addr) (w_EXTERNAL_PURCHASE : Addr) (w_IBT_MARKET : Addr) (w_IBT_MARKET_EXCL : Addr) (p0 : Int32) (h0 : Heap) (n0 : Nat) (O0 : Old Z n0 h0) (U_DEMAND_BID : own_En Z Z.heap "com/example/holdfast/holdfast/PositionKind" "DEMAND_BID" "Lcom/example/holdfast/holdfast/PositionKind;" w_DEMAND_BID (0 : Int32)) (U_DECREMENT_BID : own_En Z Z.heap "com/example/holdfast/holdfast/PositionKind" "DECREMENT_BID" "Lcom/example/holdfast/holdfast/PositionKind;" w_DECREMENT_BID (1 : Int32)) (U_METERED_LOAD : own_En Z Z.heap "com/example/holdfast/holdfast/PositionKind" "METERED_LOAD" "Lcom/example/holdfast/holdfast/PositionKind;" w_METERED_LOAD (2 : Int32)) (U_EXTERNAL_SALE : own_En Z Z.heap "com/example/holdfast/holdfast/PositionKind" "EXTERNAL_SALE" "Lcom/example/holdfast/holdfast/PositionKind;" w_EXTERNAL_SALE (3 : Int32)) (U_IBT_LOAD : own_En Z Z.heap "com/example/holdfast/holdfast/PositionKind" "IBT_LOAD" "Lcom/example/holdfast/holdfast/PositionKind;" w_IBT_LOAD (4 : Int32)) (U_SUPPLY_OFFER : own_En Z Z.heap "com/example/holdfast/holdfast/PositionKind" "SUPPLY_OFFER" "Lcom/example/holdfast/holdfast/PositionKind;" w_SUPPLY_OFFER (5 : Int32)) (U_INCREMENT_OFFER : own_En Z Z.heap "com/example/holdfast/holdfast/PositionKind" "INCREMENT_OFFER" "Lcom/example/holdfast/holdfast/PositionKind;" w_INCREMENT_OFFER (6 : Int32)) (U_METERED_GENERATION : own_En Z Z.heap "com/example/holdfast/holdfast/PositionKind" "METERED_GENERATION" "Lcom/example/holdfast/holdfast/PositionKind;" w_METERED_GENERATION (7 : Int32)) (U_EXTERNAL_PURCHASE : own_En Z Z.heap "com/example/holdfast/holdfast/PositionKind" "EXTERNAL_PURCHASE" "Lcom/example/holdfast/holdfast/PositionKind;" w_EXTERNAL_PURCHASE (8 : Int32)) (U_IBT_MARKET : own_En Z Z.heap "com/example/holdfast/holdfast/PositionKind" "IBT_MARKET" "Lcom/example/holdfast/holdfast/PositionKind;" w_IBT_MARKET (9 : Int32)) (U_IBT_MARKET_EXCL : own_En Z Z.heap "com/example/holdfast/holdfast/PositionKind" "IBT_MARKET_EXCL" "Lcom/example/holdfast/holdfast/PositionKind;" w_IBT_MARKET_EXCL (10 : Int32)) (hk : (p0 &&& (2147483647 : Int32)) % (11 : Int32) = (5 : Int32)) :
    MetFree l x (head1 (Jvm.Cond.code x code maxLocals ret :: ws) room_1) (fun a U => a = #[(.int p0)] ∧ Z.Warmed39 U.vm ∧ U.heap = h0) (fun _ _ _ _ _ => True) (fun _ U o U' => ∃ v L, o = .returned v ∧ own_law5_Q Z w_DEMAND_BID w_DECREMENT_BID w_METERED_LOAD w_EXTERNAL_SALE w_IBT_LOAD w_SUPPLY_OFFER w_INCREMENT_OFFER w_METERED_GENERATION w_EXTERNAL_PURCHASE w_IBT_MARKET w_IBT_MARKET_EXCL p0 h0 n0 v U'.heap L ∧ FrameEnd U o U' L 0 0) := by
  refine MetFree.of_bodySF (plainFor_of_name own_pn1) hisR ?_
  intro p e s m args below meth c s₁ Bd hml0 hP hK
  obtain ⟨rfl, hZ, hh⟩ := hP
  have hx := Bd.exec
  have hby := Bd.bytes
  have hml : c.maxLocals = 4 := hml0
  have hown : s.vm.findClass "com/example/holdfast/holdfast/PositionKindCarriesIntoRealTimePinLaw" = some m.cls := findClass_of_methodNamed Bd.named
  have hnm := (name_of_methodNamed Bd.named Bd.method).1
  have X0 : Stand p l e room_1 s m #[(.int p0)] below meth c s₁ [] 0 0 := Stand.of_body Bd
  have e0 : s₁.heap = h0 := by rw [← hh, Bd.state]; rfl
  have N0 := Fr.nil n0
  have pre0 : ∀ t, Steps p.tables e below (s₁.setTop (mkF m 0 #[iv p0, .unset, .unset, .unset] [])) t → Steps p.tables e below (s₁.setTop (entryFrame m #[(.int p0)] maxLocals)) t := fun t k => castTop (own_law5_ef m p0) k
  obtain ⟨_, _, ⟨T1, L1, k1, n1⟩, -, X1, ⟨Lc1, hQ1, l1, y1, z1⟩, st1⟩ := Jvm.LawKit.callS X0 hx (y := (⟨"com/example/holdfast/holdfast/PositionKindCarriesIntoRealTimePinLaw", "kindAt", "(I)Lcom/example/holdfast/holdfast/PositionKind;"⟩ : MethodName)) hown (mvT hZ (hw _ (List.mem_of_getElem? (i := 1) rfl))) (mvT hZ (hw _ (List.mem_of_getElem? (i := 2) rfl))) (mvT hZ (hw _ (List.mem_of_getElem? (i := 3) rfl))) (mvT hZ (hw _ (List.mem_of_getElem? (i := 4) rfl))) (by decide) (backOf (W := 0) (own_p_5 l Z a0 hw [] w_DEMAND_BID w_DECREMENT_BID w_METERED_LOAD w_EXTERNAL_SALE w_IBT_LOAD w_SUPPLY_OFFER w_INCREMENT_OFFER w_METERED_GENERATION w_EXTERNAL_PURCHASE w_IBT_MARKET w_IBT_MARKET_EXCL  h0 n0 O0 U_DEMAND_BID U_DECREMENT_BID U_METERED_LOAD U_EXTERNAL_SALE U_IBT_LOAD U_SUPPLY_OFFER U_INCREMENT_OFFER U_METERED_GENERATION U_EXTERNAL_PURCHASE U_IBT_MARKET U_IBT_MARKET_EXCL ) hZ (hw _ (List.mem_of_getElem? (i := 4) rfl)) (hw _ (List.mem_of_getElem? (i := 3) rfl)) (by decide) (by decide)) (g := (mkF m 9 #[iv p0, iv 5, .unset, .unset] [(.int 5)])) rfl (by rw [hml]; rfl) (argsL := [(.int 5)]) (rest := []) (lenOf own_pd0 rfl) rfl (by show 2 * 0 + _ ≤ _; exact Nat.le_of_eq rfl) (hb hby at_9) (fun _ _ => ⟨rfl, e0, (by decide : 0 + 0 ≤ _), (by decide : 0 + 0 ≤ _)⟩)
  dsimp only [Pt.U, Pt.locs, Pt.cells, Pt.slots] at X1 l1 y1 z1 st1 hQ1
  subst l1 y1 z1
  obtain ⟨rfl, N1q, e1⟩ := hQ1
  have N1 := Fr.app N0 N1q
  obtain ⟨cq2, kq2, q2a, q2b, q2c⟩ := isOf hZ e1 (U_SUPPLY_OFFER.2.1.ext O0.2)
  obtain ⟨_, _, ⟨T2, L2, k2, n2⟩, -, X2, ⟨Lc2, hQ2, l2, y2, z2⟩, st2⟩ := X1.virtualBack hx (y := (⟨"com/example/holdfast/holdfast/PositionKind", "carriesIntoRealTime", "()Z"⟩ : MethodName)) (z := (⟨"com/example/holdfast/holdfast/PositionKind", "carriesIntoRealTime", "()Z"⟩ : MethodName)) hown (mvT hZ (hw _ (List.mem_of_getElem? (i := 8) rfl))) (mvT hZ (hw _ (List.mem_of_getElem? (i := 9) rfl))) (notFace_of_selects (args := #[]) (mvT hZ (hw _ (List.mem_of_getElem? (i := 11) rfl)))) (mvT hZ (hw _ (List.mem_of_getElem? (i := 11) rfl))) (mvT hZ (hw _ (List.mem_of_getElem? (i := 10) rfl))) (by decide) (backOf (W := 0) (own_m_SUPPLY_OFFER l Z a0 hw [] w_DEMAND_BID w_DECREMENT_BID w_METERED_LOAD w_EXTERNAL_SALE w_IBT_LOAD w_SUPPLY_OFFER w_INCREMENT_OFFER w_METERED_GENERATION w_EXTERNAL_PURCHASE w_IBT_MARKET w_IBT_MARKET_EXCL  h0 n0 O0 U_DEMAND_BID U_DECREMENT_BID U_METERED_LOAD U_EXTERNAL_SALE U_IBT_LOAD U_SUPPLY_OFFER U_INCREMENT_OFFER U_METERED_GENERATION U_EXTERNAL_PURCHASE U_IBT_MARKET U_IBT_MARKET_EXCL ) hZ (hw _ (List.mem_of_getElem? (i := 12) rfl)) (hw _ (List.mem_of_getElem? (i := 6) rfl)) (by decide) (by decide)) q2a q2c (g := (mkF m 32 #[iv p0, iv 5, rv w_SUPPLY_OFFER, iv 0] [(.ref w_SUPPLY_OFFER)])) rfl (by rw [hml]; rfl) (Steps.refl _) (argsL := []) (rest := []) (lenOf own_pd1 rfl) rfl (by show 2 * 0 + _ ≤ _; exact Nat.le_of_eq rfl) (hb hby at_32) (fun _ _ => ⟨rfl, e1, (by decide : 0 + 0 ≤ _), (by decide : 0 + 0 ≤ _)⟩)
  dsimp only [Pt.U, Pt.locs, Pt.cells, Pt.slots] at X2 l2 y2 z2 st2 hQ2
  subst l2 y2 z2
  obtain ⟨rfl, N2q, e2⟩ := hQ2
  have N2 := Fr.app N1 N2q
  obtain ⟨fs, hr, hrun, hended, hW, hsame⟩ := X2.leave (v := some (.int 1)) (fun h => by rw [Bd.returns] at h; cases h)
  refine ⟨_, _, pre0 _ ?_, hrun, hended, _, _, rfl, ?_, ⟨_, rfl⟩, hW, hsame.mono (by decide) (by decide)⟩
  · show Steps p.tables e below (s₁.setTop (mkF m 0 #[iv p0, .unset, .unset, .unset] [])) _
    refine XS.iloadN X0.here hx rfl (hb hby at_0) rfl ?_
    show Steps p.tables e below (s₁.setTop (mkF m 1 #[iv p0, .unset, .unset, .unset] [(.int p0)])) _
    refine X0.ldcInt hx hown (mvT hZ (hw _ (List.mem_of_getElem? (i := 0) rfl))) (g := (mkF m 1 #[iv p0, .unset, .unset, .unset] [(.int p0)])) rfl (hb hby at_1) _ ?_
    show Steps p.tables e below (s₁.setTop (mkF m 3 #[iv p0, .unset, .unset, .unset] [(.int 2147483647), (.int p0)])) _
    refine XS.iand X0.here hx rfl (hb hby at_3) rfl ?_
    show Steps p.tables e below (s₁.setTop (mkF m 4 #[iv p0, .unset, .unset, .unset] [(.int (p0 &&& (2147483647 : Int32)))])) _
    refine XS.bipush X0.here hx rfl (hb hby at_4) ?_
    show Steps p.tables e below (s₁.setTop (mkF m 6 #[iv p0, .unset, .unset, .unset] [(.int 11), (.int (p0 &&& (2147483647 : Int32)))])) _
    refine iremM X0 hx rfl (hb hby at_6) rfl (by decide) ?_
    show Steps p.tables e below (s₁.setTop (mkF m 7 #[iv p0, .unset, .unset, .unset] [(.int ((p0 &&& (2147483647 : Int32)) % (11 : Int32)))])) _
    refine own_top (v' := (.int 5)) (congrArg Value.int hk) ?_
    show Steps p.tables e below (s₁.setTop (mkF m 7 #[iv p0, .unset, .unset, .unset] [(.int 5)])) _
    refine XS.istoreN X0.here hx rfl (hb hby at_7) rfl (l' := #[iv p0, iv 5, .unset, .unset]) rfl ?_
    show Steps p.tables e below (s₁.setTop (mkF m 8 #[iv p0, iv 5, .unset, .unset] [])) _
    refine XS.iloadN X0.here hx rfl (hb hby at_8) rfl ?_
    show Steps p.tables e below (s₁.setTop (mkF m 9 #[iv p0, iv 5, .unset, .unset] [(.int 5)])) _
    refine st1 _ ?_
    show Steps p.tables e below (T1.setTop (mkF m 12 #[iv p0, iv 5, .unset, .unset] [(.ref w_SUPPLY_OFFER)])) _
    refine XS.astoreN X1.here hx rfl (hb hby at_12) rfl rfl (l' := #[iv p0, iv 5, rv w_SUPPLY_OFFER, .unset]) rfl ?_
    show Steps p.tables e below (T1.setTop (mkF m 13 #[iv p0, iv 5, rv w_SUPPLY_OFFER, .unset] [])) _
    refine XS.iloadN X1.here hx rfl (hb hby at_13) rfl ?_
    show Steps p.tables e below (T1.setTop (mkF m 14 #[iv p0, iv 5, rv w_SUPPLY_OFFER, .unset] [(.int 5)])) _
    refine XS.bipush X1.here hx rfl (hb hby at_14) ?_
    show Steps p.tables e below (T1.setTop (mkF m 16 #[iv p0, iv 5, rv w_SUPPLY_OFFER, .unset] [(.int 9), (.int 5)])) _
    refine XS.icmpNo X1.here hx rfl (hb hby at_16) rfl (feq (by decide)).1 ?_
    show Steps p.tables e below (T1.setTop (mkF m 19 #[iv p0, iv 5, rv w_SUPPLY_OFFER, .unset] [])) _
    refine XS.iloadN X1.here hx rfl (hb hby at_19) rfl ?_
    show Steps p.tables e below (T1.setTop (mkF m 20 #[iv p0, iv 5, rv w_SUPPLY_OFFER, .unset] [(.int 5)])) _
    refine XS.bipush X1.here hx rfl (hb hby at_20) ?_
    show Steps p.tables e below (T1.setTop (mkF m 22 #[iv p0, iv 5, rv w_SUPPLY_OFFER, .unset] [(.int 10), (.int 5)])) _
    refine XS.icmpYes X1.here hx rfl (pc0 := 22) (pc' := 29) rfl (hb hby at_22) rfl (feq (by decide)).2 (by decide) (by decide) ?_
    show Steps p.tables e below (T1.setTop (mkF m 29 #[iv p0, iv 5, rv w_SUPPLY_OFFER, .unset] [])) _
    refine XS.iconst X1.here hx rfl (hb hby at_29) ?_
    show Steps p.tables e below (T1.setTop (mkF m 30 #[iv p0, iv 5, rv w_SUPPLY_OFFER, .unset] [(.int 0)])) _
    refine XS.istoreN X1.here hx rfl (hb hby at_30) rfl (l' := #[iv p0, iv 5, rv w_SUPPLY_OFFER, iv 0]) rfl ?_
    show Steps p.tables e below (T1.setTop (mkF m 31 #[iv p0, iv 5, rv w_SUPPLY_OFFER, iv 0] [])) _
    refine XS.aloadN X1.here hx rfl (hb hby at_31) rfl rfl ?_
    show Steps p.tables e below (T1.setTop (mkF m 32 #[iv p0, iv 5, rv w_SUPPLY_OFFER, iv 0] [(.ref w_SUPPLY_OFFER)])) _
    refine st2.trans ?_
    show Steps p.tables e below (T2.setTop (mkF m 35 #[iv p0, iv 5, rv w_SUPPLY_OFFER, iv 0] [(.int 0)])) _
    refine XS.iloadN X2.here hx rfl (hb hby at_35) rfl ?_
    show Steps p.tables e below (T2.setTop (mkF m 36 #[iv p0, iv 5, rv w_SUPPLY_OFFER, iv 0] [(.int 0), (.int 0)])) _
    refine XS.icmpNo X2.here hx rfl (hb hby at_36) rfl (teq (by decide)).2 ?_
    show Steps p.tables e below (T2.setTop (mkF m 39 #[iv p0, iv 5, rv w_SUPPLY_OFFER, iv 0] [])) _
    refine XS.iconst X2.here hx rfl (hb hby at_39) ?_
    show Steps p.tables e below (T2.setTop (mkF m 40 #[iv p0, iv 5, rv w_SUPPLY_OFFER, iv 0] [(.int 1)])) _
    refine XS.goto X2.here hx rfl (pc0 := 40) (pc' := 44) rfl (hb hby at_40) (by decide) (by decide) ?_
    show Steps p.tables e below (T2.setTop (mkF m 44 #[iv p0, iv 5, rv w_SUPPLY_OFFER, iv 0] [(.int 1)])) _
    exact retN X2 hx (t := .boolean) Bd.returns (by simp) (hb hby at_44) hr
  · show own_law5_Q Z w_DEMAND_BID w_DECREMENT_BID w_METERED_LOAD w_EXTERNAL_SALE w_IBT_LOAD w_SUPPLY_OFFER w_INCREMENT_OFFER w_METERED_GENERATION w_EXTERNAL_PURCHASE w_IBT_MARKET w_IBT_MARKET_EXCL p0 h0 n0 _ T2.heap _
    rw [e2]
    exact ⟨rfl, N2, trivial⟩
theorem own_law6_ef (m : MethodId) (p0 : Int32) : entryFrame m #[(.int p0)] maxLocals = mkF m 0 #[iv p0, .unset, .unset, .unset] [] := by first | (simp [entryFrame, mkF, argsToLocals, Value.category, maxLocals]; done) | rfl
def own_law6_Q (Z : State) (w_DEMAND_BID : Addr) (w_DECREMENT_BID : Addr) (w_METERED_LOAD : Addr) (w_EXTERNAL_SALE : Addr) (w_IBT_LOAD : Addr) (w_SUPPLY_OFFER : Addr) (w_INCREMENT_OFFER : Addr) (w_METERED_GENERATION : Addr) (w_EXTERNAL_PURCHASE : Addr) (w_IBT_MARKET : Addr) (w_IBT_MARKET_EXCL : Addr) (p0 : Int32) (h0 : Heap) (n0 : Nat) (v : Option Value) (h : Heap) (L : List Loc) : Prop := v = some (.int 1) ∧ Fr n0 L ∧ True
set_option maxRecDepth 65536 in
set_option maxHeartbeats 40000000 in
theorem own_law6 (l : Launch) (Z : State) (a0 : Array Value) (hw : ∀ d ∈ tables_1, d.before a0 Z = true) (ws : List Jvm.Cond) (w_DEMAND_BID : Addr) (w_DECREMENT_BID : Addr) (w_METERED_LOAD : Addr) (w_EXTERNAL_SALE : Addr) (w_IBT_LOAD : Addr) (w_SUPPLY_OFFER : Addr) (w_INCREMENT_OFFER : Addr) (w_METERED_GENERATION : Addr) (w_EXTERNAL_PURCHASE : Addr) (w_IBT_MARKET : Addr) (w_IBT_MARKET_EXCL : Addr) (p0 : Int32) (h0 : Heap) (n0 : Nat) (O0 : Old Z n0 h0) (U_DEMAND_BID : own_En Z Z.heap "com/example/holdfast/holdfast/PositionKind" "DEMAND_BID" "Lcom/example/holdfast/holdfast/PositionKind;" w_DEMAND_BID (0 : Int32)) (U_DECREMENT_BID : own_En Z Z.heap "com/example/holdfast/holdfast/PositionKind" "DECREMENT_BID" "Lcom/example/holdfast/holdfast/PositionKind;" w_DECREMENT_BID (1 : Int32)) (U_METERED_LOAD : own_En Z Z.heap "com/example/holdfast/holdfast/PositionKind" "METERED_LOAD" "Lcom/example/holdfast/holdfast/PositionKind;" w_METERED_LOAD (2 : Int32)) (U_EXTERNAL_SALE : own_En Z Z.heap "com/example/holdfast/holdfast/PositionKind" "EXTERNAL_SALE" "Lcom/example/holdfast/holdfast/PositionKind;" w_EXTERNAL_SALE (3 : Int32)) (U_IBT_LOAD : own_En Z Z.heap "com/example/holdfast/holdfast/PositionKind" "IBT_LOAD" "Lcom/example/holdfast/holdfast/PositionKind;" w_IBT_LOAD (4 : Int32)) (U_SUPPLY_OFFER : own_En Z Z.heap "com/example/holdfast/holdfast/PositionKind" "SUPPLY_OFFER" "Lcom/example/holdfast/holdfast/PositionKind;" w_SUPPLY_OFFER (5 : Int32)) (U_INCREMENT_OFFER : own_En Z Z.heap "com/example/holdfast/holdfast/PositionKind" "INCREMENT_OFFER" "Lcom/example/holdfast/holdfast/PositionKind;" w_INCREMENT_OFFER (6 : Int32)) (U_METERED_GENERATION : own_En Z Z.heap "com/example/holdfast/holdfast/PositionKind" "METERED_GENERATION" "Lcom/example/holdfast/holdfast/PositionKind;" w_METERED_GENERATION (7 : Int32)) (U_EXTERNAL_PURCHASE : own_En Z Z.heap "com/example/holdfast/holdfast/PositionKind" "EXTERNAL_PURCHASE" "Lcom/example/holdfast/holdfast/PositionKind;" w_EXTERNAL_PURCHASE (8 : Int32)) (U_IBT_MARKET : own_En Z Z.heap "com/example/holdfast/holdfast/PositionKind" "IBT_MARKET" "Lcom/example/holdfast/holdfast/PositionKind;" w_IBT_MARKET (9 : Int32)) (U_IBT_MARKET_EXCL : own_En Z Z.heap "com/example/holdfast/holdfast/PositionKind" "IBT_MARKET_EXCL" "Lcom/example/holdfast/holdfast/PositionKind;" w_IBT_MARKET_EXCL (10 : Int32)) (hk : (p0 &&& (2147483647 : Int32)) % (11 : Int32) = (6 : Int32)) :
    MetFree l x (head1 (Jvm.Cond.code x code maxLocals ret :: ws) room_1) (fun a U => a = #[(.int p0)] ∧ Z.Warmed39 U.vm ∧ U.heap = h0) (fun _ _ _ _ _ => True) (fun _ U o U' => ∃ v L, o = .returned v ∧ own_law6_Q Z w_DEMAND_BID w_DECREMENT_BID w_METERED_LOAD w_EXTERNAL_SALE w_IBT_LOAD w_SUPPLY_OFFER w_INCREMENT_OFFER w_METERED_GENERATION w_EXTERNAL_PURCHASE w_IBT_MARKET w_IBT_MARKET_EXCL p0 h0 n0 v U'.heap L ∧ FrameEnd U o U' L 0 0) := by
  refine MetFree.of_bodySF (plainFor_of_name own_pn1) hisR ?_
  intro p e s m args below meth c s₁ Bd hml0 hP hK
  obtain ⟨rfl, hZ, hh⟩ := hP
  have hx := Bd.exec
  have hby := Bd.bytes
  have hml : c.maxLocals = 4 := hml0
  have hown : s.vm.findClass "com/example/holdfast/holdfast/PositionKindCarriesIntoRealTimePinLaw" = some m.cls := findClass_of_methodNamed Bd.named
  have hnm := (name_of_methodNamed Bd.named Bd.method).1
  have X0 : Stand p l e room_1 s m #[(.int p0)] below meth c s₁ [] 0 0 := Stand.of_body Bd
  have e0 : s₁.heap = h0 := by rw [← hh, Bd.state]; rfl
  have N0 := Fr.nil n0
  have pre0 : ∀ t, Steps p.tables e below (s₁.setTop (mkF m 0 #[iv p0, .unset, .unset, .unset] [])) t → Steps p.tables e below (s₁.setTop (entryFrame m #[(.int p0)] maxLocals)) t := fun t k => castTop (own_law6_ef m p0) k
  obtain ⟨_, _, ⟨T1, L1, k1, n1⟩, -, X1, ⟨Lc1, hQ1, l1, y1, z1⟩, st1⟩ := Jvm.LawKit.callS X0 hx (y := (⟨"com/example/holdfast/holdfast/PositionKindCarriesIntoRealTimePinLaw", "kindAt", "(I)Lcom/example/holdfast/holdfast/PositionKind;"⟩ : MethodName)) hown (mvT hZ (hw _ (List.mem_of_getElem? (i := 1) rfl))) (mvT hZ (hw _ (List.mem_of_getElem? (i := 2) rfl))) (mvT hZ (hw _ (List.mem_of_getElem? (i := 3) rfl))) (mvT hZ (hw _ (List.mem_of_getElem? (i := 4) rfl))) (by decide) (backOf (W := 0) (own_p_6 l Z a0 hw [] w_DEMAND_BID w_DECREMENT_BID w_METERED_LOAD w_EXTERNAL_SALE w_IBT_LOAD w_SUPPLY_OFFER w_INCREMENT_OFFER w_METERED_GENERATION w_EXTERNAL_PURCHASE w_IBT_MARKET w_IBT_MARKET_EXCL  h0 n0 O0 U_DEMAND_BID U_DECREMENT_BID U_METERED_LOAD U_EXTERNAL_SALE U_IBT_LOAD U_SUPPLY_OFFER U_INCREMENT_OFFER U_METERED_GENERATION U_EXTERNAL_PURCHASE U_IBT_MARKET U_IBT_MARKET_EXCL ) hZ (hw _ (List.mem_of_getElem? (i := 4) rfl)) (hw _ (List.mem_of_getElem? (i := 3) rfl)) (by decide) (by decide)) (g := (mkF m 9 #[iv p0, iv 6, .unset, .unset] [(.int 6)])) rfl (by rw [hml]; rfl) (argsL := [(.int 6)]) (rest := []) (lenOf own_pd0 rfl) rfl (by show 2 * 0 + _ ≤ _; exact Nat.le_of_eq rfl) (hb hby at_9) (fun _ _ => ⟨rfl, e0, (by decide : 0 + 0 ≤ _), (by decide : 0 + 0 ≤ _)⟩)
  dsimp only [Pt.U, Pt.locs, Pt.cells, Pt.slots] at X1 l1 y1 z1 st1 hQ1
  subst l1 y1 z1
  obtain ⟨rfl, N1q, e1⟩ := hQ1
  have N1 := Fr.app N0 N1q
  obtain ⟨cq2, kq2, q2a, q2b, q2c⟩ := isOf hZ e1 (U_INCREMENT_OFFER.2.1.ext O0.2)
  obtain ⟨_, _, ⟨T2, L2, k2, n2⟩, -, X2, ⟨Lc2, hQ2, l2, y2, z2⟩, st2⟩ := X1.virtualBack hx (y := (⟨"com/example/holdfast/holdfast/PositionKind", "carriesIntoRealTime", "()Z"⟩ : MethodName)) (z := (⟨"com/example/holdfast/holdfast/PositionKind", "carriesIntoRealTime", "()Z"⟩ : MethodName)) hown (mvT hZ (hw _ (List.mem_of_getElem? (i := 8) rfl))) (mvT hZ (hw _ (List.mem_of_getElem? (i := 9) rfl))) (notFace_of_selects (args := #[]) (mvT hZ (hw _ (List.mem_of_getElem? (i := 11) rfl)))) (mvT hZ (hw _ (List.mem_of_getElem? (i := 11) rfl))) (mvT hZ (hw _ (List.mem_of_getElem? (i := 10) rfl))) (by decide) (backOf (W := 0) (own_m_INCREMENT_OFFER l Z a0 hw [] w_DEMAND_BID w_DECREMENT_BID w_METERED_LOAD w_EXTERNAL_SALE w_IBT_LOAD w_SUPPLY_OFFER w_INCREMENT_OFFER w_METERED_GENERATION w_EXTERNAL_PURCHASE w_IBT_MARKET w_IBT_MARKET_EXCL  h0 n0 O0 U_DEMAND_BID U_DECREMENT_BID U_METERED_LOAD U_EXTERNAL_SALE U_IBT_LOAD U_SUPPLY_OFFER U_INCREMENT_OFFER U_METERED_GENERATION U_EXTERNAL_PURCHASE U_IBT_MARKET U_IBT_MARKET_EXCL ) hZ (hw _ (List.mem_of_getElem? (i := 12) rfl)) (hw _ (List.mem_of_getElem? (i := 6) rfl)) (by decide) (by decide)) q2a q2c (g := (mkF m 32 #[iv p0, iv 6, rv w_INCREMENT_OFFER, iv 0] [(.ref w_INCREMENT_OFFER)])) rfl (by rw [hml]; rfl) (Steps.refl _) (argsL := []) (rest := []) (lenOf own_pd1 rfl) rfl (by show 2 * 0 + _ ≤ _; exact Nat.le_of_eq rfl) (hb hby at_32) (fun _ _ => ⟨rfl, e1, (by decide : 0 + 0 ≤ _), (by decide : 0 + 0 ≤ _)⟩)
  dsimp only [Pt.U, Pt.locs, Pt.cells, Pt.slots] at X2 l2 y2 z2 st2 hQ2
  subst l2 y2 z2
  obtain ⟨rfl, N2q, e2⟩ := hQ2
  have N2 := Fr.app N1 N2q
  obtain ⟨fs, hr, hrun, hended, hW, hsame⟩ := X2.leave (v := some (.int 1)) (fun h => by rw [Bd.returns] at h; cases h)
  refine ⟨_, _, pre0 _ ?_, hrun, hended, _, _, rfl, ?_, ⟨_, rfl⟩, hW, hsame.mono (by decide) (by decide)⟩
  · show Steps p.tables e below (s₁.setTop (mkF m 0 #[iv p0, .unset, .unset, .unset] [])) _
    refine XS.iloadN X0.here hx rfl (hb hby at_0) rfl ?_
    show Steps p.tables e below (s₁.setTop (mkF m 1 #[iv p0, .unset, .unset, .unset] [(.int p0)])) _
    refine X0.ldcInt hx hown (mvT hZ (hw _ (List.mem_of_getElem? (i := 0) rfl))) (g := (mkF m 1 #[iv p0, .unset, .unset, .unset] [(.int p0)])) rfl (hb hby at_1) _ ?_
    show Steps p.tables e below (s₁.setTop (mkF m 3 #[iv p0, .unset, .unset, .unset] [(.int 2147483647), (.int p0)])) _
    refine XS.iand X0.here hx rfl (hb hby at_3) rfl ?_
    show Steps p.tables e below (s₁.setTop (mkF m 4 #[iv p0, .unset, .unset, .unset] [(.int (p0 &&& (2147483647 : Int32)))])) _
    refine XS.bipush X0.here hx rfl (hb hby at_4) ?_
    show Steps p.tables e below (s₁.setTop (mkF m 6 #[iv p0, .unset, .unset, .unset] [(.int 11), (.int (p0 &&& (2147483647 : Int32)))])) _
    refine iremM X0 hx rfl (hb hby at_6) rfl (by decide) ?_
    show Steps p.tables e below (s₁.setTop (mkF m 7 #[iv p0, .unset, .unset, .unset] [(.int ((p0 &&& (2147483647 : Int32)) % (11 : Int32)))])) _
    refine own_top (v' := (.int 6)) (congrArg Value.int hk) ?_
    show Steps p.tables e below (s₁.setTop (mkF m 7 #[iv p0, .unset, .unset, .unset] [(.int 6)])) _
    refine XS.istoreN X0.here hx rfl (hb hby at_7) rfl (l' := #[iv p0, iv 6, .unset, .unset]) rfl ?_
    show Steps p.tables e below (s₁.setTop (mkF m 8 #[iv p0, iv 6, .unset, .unset] [])) _
    refine XS.iloadN X0.here hx rfl (hb hby at_8) rfl ?_
    show Steps p.tables e below (s₁.setTop (mkF m 9 #[iv p0, iv 6, .unset, .unset] [(.int 6)])) _
    refine st1 _ ?_
    show Steps p.tables e below (T1.setTop (mkF m 12 #[iv p0, iv 6, .unset, .unset] [(.ref w_INCREMENT_OFFER)])) _
    refine XS.astoreN X1.here hx rfl (hb hby at_12) rfl rfl (l' := #[iv p0, iv 6, rv w_INCREMENT_OFFER, .unset]) rfl ?_
    show Steps p.tables e below (T1.setTop (mkF m 13 #[iv p0, iv 6, rv w_INCREMENT_OFFER, .unset] [])) _
    refine XS.iloadN X1.here hx rfl (hb hby at_13) rfl ?_
    show Steps p.tables e below (T1.setTop (mkF m 14 #[iv p0, iv 6, rv w_INCREMENT_OFFER, .unset] [(.int 6)])) _
    refine XS.bipush X1.here hx rfl (hb hby at_14) ?_
    show Steps p.tables e below (T1.setTop (mkF m 16 #[iv p0, iv 6, rv w_INCREMENT_OFFER, .unset] [(.int 9), (.int 6)])) _
    refine XS.icmpNo X1.here hx rfl (hb hby at_16) rfl (feq (by decide)).1 ?_
    show Steps p.tables e below (T1.setTop (mkF m 19 #[iv p0, iv 6, rv w_INCREMENT_OFFER, .unset] [])) _
    refine XS.iloadN X1.here hx rfl (hb hby at_19) rfl ?_
    show Steps p.tables e below (T1.setTop (mkF m 20 #[iv p0, iv 6, rv w_INCREMENT_OFFER, .unset] [(.int 6)])) _
    refine XS.bipush X1.here hx rfl (hb hby at_20) ?_
    show Steps p.tables e below (T1.setTop (mkF m 22 #[iv p0, iv 6, rv w_INCREMENT_OFFER, .unset] [(.int 10), (.int 6)])) _
    refine XS.icmpYes X1.here hx rfl (pc0 := 22) (pc' := 29) rfl (hb hby at_22) rfl (feq (by decide)).2 (by decide) (by decide) ?_
    show Steps p.tables e below (T1.setTop (mkF m 29 #[iv p0, iv 6, rv w_INCREMENT_OFFER, .unset] [])) _
    refine XS.iconst X1.here hx rfl (hb hby at_29) ?_
    show Steps p.tables e below (T1.setTop (mkF m 30 #[iv p0, iv 6, rv w_INCREMENT_OFFER, .unset] [(.int 0)])) _
    refine XS.istoreN X1.here hx rfl (hb hby at_30) rfl (l' := #[iv p0, iv 6, rv w_INCREMENT_OFFER, iv 0]) rfl ?_
    show Steps p.tables e below (T1.setTop (mkF m 31 #[iv p0, iv 6, rv w_INCREMENT_OFFER, iv 0] [])) _
    refine XS.aloadN X1.here hx rfl (hb hby at_31) rfl rfl ?_
    show Steps p.tables e below (T1.setTop (mkF m 32 #[iv p0, iv 6, rv w_INCREMENT_OFFER, iv 0] [(.ref w_INCREMENT_OFFER)])) _
    refine st2.trans ?_
    show Steps p.tables e below (T2.setTop (mkF m 35 #[iv p0, iv 6, rv w_INCREMENT_OFFER, iv 0] [(.int 0)])) _
    refine XS.iloadN X2.here hx rfl (hb hby at_35) rfl ?_
    show Steps p.tables e below (T2.setTop (mkF m 36 #[iv p0, iv 6, rv w_INCREMENT_OFFER, iv 0] [(.int 0), (.int 0)])) _
    refine XS.icmpNo X2.here hx rfl (hb hby at_36) rfl (teq (by decide)).2 ?_
    show Steps p.tables e below (T2.setTop (mkF m 39 #[iv p0, iv 6, rv w_INCREMENT_OFFER, iv 0] [])) _
    refine XS.iconst X2.here hx rfl (hb hby at_39) ?_
    show Steps p.tables e below (T2.setTop (mkF m 40 #[iv p0, iv 6, rv w_INCREMENT_OFFER, iv 0] [(.int 1)])) _
    refine XS.goto X2.here hx rfl (pc0 := 40) (pc' := 44) rfl (hb hby at_40) (by decide) (by decide) ?_
    show Steps p.tables e below (T2.setTop (mkF m 44 #[iv p0, iv 6, rv w_INCREMENT_OFFER, iv 0] [(.int 1)])) _
    exact retN X2 hx (t := .boolean) Bd.returns (by simp) (hb hby at_44) hr
  · show own_law6_Q Z w_DEMAND_BID w_DECREMENT_BID w_METERED_LOAD w_EXTERNAL_SALE w_IBT_LOAD w_SUPPLY_OFFER w_INCREMENT_OFFER w_METERED_GENERATION w_EXTERNAL_PURCHASE w_IBT_MARKET w_IBT_MARKET_EXCL p0 h0 n0 _ T2.heap _
    rw [e2]
    exact ⟨rfl, N2, trivial⟩
theorem own_law7_ef (m : MethodId) (p0 : Int32) : entryFrame m #[(.int p0)] maxLocals = mkF m 0 #[iv p0, .unset, .unset, .unset] [] := by first | (simp [entryFrame, mkF, argsToLocals, Value.category, maxLocals]; done) | rfl
def own_law7_Q (Z : State) (w_DEMAND_BID : Addr) (w_DECREMENT_BID : Addr) (w_METERED_LOAD : Addr) (w_EXTERNAL_SALE : Addr) (w_IBT_LOAD : Addr) (w_SUPPLY_OFFER : Addr) (w_INCREMENT_OFFER : Addr) (w_METERED_GENERATION : Addr) (w_EXTERNAL_PURCHASE : Addr) (w_IBT_MARKET : Addr) (w_IBT_MARKET_EXCL : Addr) (p0 : Int32) (h0 : Heap) (n0 : Nat) (v : Option Value) (h : Heap) (L : List Loc) : Prop := v = some (.int 1) ∧ Fr n0 L ∧ True
set_option maxRecDepth 65536 in
set_option maxHeartbeats 40000000 in
theorem own_law7 (l : Launch) (Z : State) (a0 : Array Value) (hw : ∀ d ∈ tables_1, d.before a0 Z = true) (ws : List Jvm.Cond) (w_DEMAND_BID : Addr) (w_DECREMENT_BID : Addr) (w_METERED_LOAD : Addr) (w_EXTERNAL_SALE : Addr) (w_IBT_LOAD : Addr) (w_SUPPLY_OFFER : Addr) (w_INCREMENT_OFFER : Addr) (w_METERED_GENERATION : Addr) (w_EXTERNAL_PURCHASE : Addr) (w_IBT_MARKET : Addr) (w_IBT_MARKET_EXCL : Addr) (p0 : Int32) (h0 : Heap) (n0 : Nat) (O0 : Old Z n0 h0) (U_DEMAND_BID : own_En Z Z.heap "com/example/holdfast/holdfast/PositionKind" "DEMAND_BID" "Lcom/example/holdfast/holdfast/PositionKind;" w_DEMAND_BID (0 : Int32)) (U_DECREMENT_BID : own_En Z Z.heap "com/example/holdfast/holdfast/PositionKind" "DECREMENT_BID" "Lcom/example/holdfast/holdfast/PositionKind;" w_DECREMENT_BID (1 : Int32)) (U_METERED_LOAD : own_En Z Z.heap "com/example/holdfast/holdfast/PositionKind" "METERED_LOAD" "Lcom/example/holdfast/holdfast/PositionKind;" w_METERED_LOAD (2 : Int32)) (U_EXTERNAL_SALE : own_En Z Z.heap "com/example/holdfast/holdfast/PositionKind" "EXTERNAL_SALE" "Lcom/example/holdfast/holdfast/PositionKind;" w_EXTERNAL_SALE (3 : Int32)) (U_IBT_LOAD : own_En Z Z.heap "com/example/holdfast/holdfast/PositionKind" "IBT_LOAD" "Lcom/example/holdfast/holdfast/PositionKind;" w_IBT_LOAD (4 : Int32)) (U_SUPPLY_OFFER : own_En Z Z.heap "com/example/holdfast/holdfast/PositionKind" "SUPPLY_OFFER" "Lcom/example/holdfast/holdfast/PositionKind;" w_SUPPLY_OFFER (5 : Int32)) (U_INCREMENT_OFFER : own_En Z Z.heap "com/example/holdfast/holdfast/PositionKind" "INCREMENT_OFFER" "Lcom/example/holdfast/holdfast/PositionKind;" w_INCREMENT_OFFER (6 : Int32)) (U_METERED_GENERATION : own_En Z Z.heap "com/example/holdfast/holdfast/PositionKind" "METERED_GENERATION" "Lcom/example/holdfast/holdfast/PositionKind;" w_METERED_GENERATION (7 : Int32)) (U_EXTERNAL_PURCHASE : own_En Z Z.heap "com/example/holdfast/holdfast/PositionKind" "EXTERNAL_PURCHASE" "Lcom/example/holdfast/holdfast/PositionKind;" w_EXTERNAL_PURCHASE (8 : Int32)) (U_IBT_MARKET : own_En Z Z.heap "com/example/holdfast/holdfast/PositionKind" "IBT_MARKET" "Lcom/example/holdfast/holdfast/PositionKind;" w_IBT_MARKET (9 : Int32)) (U_IBT_MARKET_EXCL : own_En Z Z.heap "com/example/holdfast/holdfast/PositionKind" "IBT_MARKET_EXCL" "Lcom/example/holdfast/holdfast/PositionKind;" w_IBT_MARKET_EXCL (10 : Int32)) (hk : (p0 &&& (2147483647 : Int32)) % (11 : Int32) = (7 : Int32)) :
    MetFree l x (head1 (Jvm.Cond.code x code maxLocals ret :: ws) room_1) (fun a U => a = #[(.int p0)] ∧ Z.Warmed39 U.vm ∧ U.heap = h0) (fun _ _ _ _ _ => True) (fun _ U o U' => ∃ v L, o = .returned v ∧ own_law7_Q Z w_DEMAND_BID w_DECREMENT_BID w_METERED_LOAD w_EXTERNAL_SALE w_IBT_LOAD w_SUPPLY_OFFER w_INCREMENT_OFFER w_METERED_GENERATION w_EXTERNAL_PURCHASE w_IBT_MARKET w_IBT_MARKET_EXCL p0 h0 n0 v U'.heap L ∧ FrameEnd U o U' L 0 0) := by
  refine MetFree.of_bodySF (plainFor_of_name own_pn1) hisR ?_
  intro p e s m args below meth c s₁ Bd hml0 hP hK
  obtain ⟨rfl, hZ, hh⟩ := hP
  have hx := Bd.exec
  have hby := Bd.bytes
  have hml : c.maxLocals = 4 := hml0
  have hown : s.vm.findClass "com/example/holdfast/holdfast/PositionKindCarriesIntoRealTimePinLaw" = some m.cls := findClass_of_methodNamed Bd.named
  have hnm := (name_of_methodNamed Bd.named Bd.method).1
  have X0 : Stand p l e room_1 s m #[(.int p0)] below meth c s₁ [] 0 0 := Stand.of_body Bd
  have e0 : s₁.heap = h0 := by rw [← hh, Bd.state]; rfl
  have N0 := Fr.nil n0
  have pre0 : ∀ t, Steps p.tables e below (s₁.setTop (mkF m 0 #[iv p0, .unset, .unset, .unset] [])) t → Steps p.tables e below (s₁.setTop (entryFrame m #[(.int p0)] maxLocals)) t := fun t k => castTop (own_law7_ef m p0) k
  obtain ⟨_, _, ⟨T1, L1, k1, n1⟩, -, X1, ⟨Lc1, hQ1, l1, y1, z1⟩, st1⟩ := Jvm.LawKit.callS X0 hx (y := (⟨"com/example/holdfast/holdfast/PositionKindCarriesIntoRealTimePinLaw", "kindAt", "(I)Lcom/example/holdfast/holdfast/PositionKind;"⟩ : MethodName)) hown (mvT hZ (hw _ (List.mem_of_getElem? (i := 1) rfl))) (mvT hZ (hw _ (List.mem_of_getElem? (i := 2) rfl))) (mvT hZ (hw _ (List.mem_of_getElem? (i := 3) rfl))) (mvT hZ (hw _ (List.mem_of_getElem? (i := 4) rfl))) (by decide) (backOf (W := 0) (own_p_7 l Z a0 hw [] w_DEMAND_BID w_DECREMENT_BID w_METERED_LOAD w_EXTERNAL_SALE w_IBT_LOAD w_SUPPLY_OFFER w_INCREMENT_OFFER w_METERED_GENERATION w_EXTERNAL_PURCHASE w_IBT_MARKET w_IBT_MARKET_EXCL  h0 n0 O0 U_DEMAND_BID U_DECREMENT_BID U_METERED_LOAD U_EXTERNAL_SALE U_IBT_LOAD U_SUPPLY_OFFER U_INCREMENT_OFFER U_METERED_GENERATION U_EXTERNAL_PURCHASE U_IBT_MARKET U_IBT_MARKET_EXCL ) hZ (hw _ (List.mem_of_getElem? (i := 4) rfl)) (hw _ (List.mem_of_getElem? (i := 3) rfl)) (by decide) (by decide)) (g := (mkF m 9 #[iv p0, iv 7, .unset, .unset] [(.int 7)])) rfl (by rw [hml]; rfl) (argsL := [(.int 7)]) (rest := []) (lenOf own_pd0 rfl) rfl (by show 2 * 0 + _ ≤ _; exact Nat.le_of_eq rfl) (hb hby at_9) (fun _ _ => ⟨rfl, e0, (by decide : 0 + 0 ≤ _), (by decide : 0 + 0 ≤ _)⟩)
  dsimp only [Pt.U, Pt.locs, Pt.cells, Pt.slots] at X1 l1 y1 z1 st1 hQ1
  subst l1 y1 z1
  obtain ⟨rfl, N1q, e1⟩ := hQ1
  have N1 := Fr.app N0 N1q
  obtain ⟨cq2, kq2, q2a, q2b, q2c⟩ := isOf hZ e1 (U_METERED_GENERATION.2.1.ext O0.2)
  obtain ⟨_, _, ⟨T2, L2, k2, n2⟩, -, X2, ⟨Lc2, hQ2, l2, y2, z2⟩, st2⟩ := X1.virtualBack hx (y := (⟨"com/example/holdfast/holdfast/PositionKind", "carriesIntoRealTime", "()Z"⟩ : MethodName)) (z := (⟨"com/example/holdfast/holdfast/PositionKind", "carriesIntoRealTime", "()Z"⟩ : MethodName)) hown (mvT hZ (hw _ (List.mem_of_getElem? (i := 8) rfl))) (mvT hZ (hw _ (List.mem_of_getElem? (i := 9) rfl))) (notFace_of_selects (args := #[]) (mvT hZ (hw _ (List.mem_of_getElem? (i := 11) rfl)))) (mvT hZ (hw _ (List.mem_of_getElem? (i := 11) rfl))) (mvT hZ (hw _ (List.mem_of_getElem? (i := 10) rfl))) (by decide) (backOf (W := 0) (own_m_METERED_GENERATION l Z a0 hw [] w_DEMAND_BID w_DECREMENT_BID w_METERED_LOAD w_EXTERNAL_SALE w_IBT_LOAD w_SUPPLY_OFFER w_INCREMENT_OFFER w_METERED_GENERATION w_EXTERNAL_PURCHASE w_IBT_MARKET w_IBT_MARKET_EXCL  h0 n0 O0 U_DEMAND_BID U_DECREMENT_BID U_METERED_LOAD U_EXTERNAL_SALE U_IBT_LOAD U_SUPPLY_OFFER U_INCREMENT_OFFER U_METERED_GENERATION U_EXTERNAL_PURCHASE U_IBT_MARKET U_IBT_MARKET_EXCL ) hZ (hw _ (List.mem_of_getElem? (i := 12) rfl)) (hw _ (List.mem_of_getElem? (i := 6) rfl)) (by decide) (by decide)) q2a q2c (g := (mkF m 32 #[iv p0, iv 7, rv w_METERED_GENERATION, iv 0] [(.ref w_METERED_GENERATION)])) rfl (by rw [hml]; rfl) (Steps.refl _) (argsL := []) (rest := []) (lenOf own_pd1 rfl) rfl (by show 2 * 0 + _ ≤ _; exact Nat.le_of_eq rfl) (hb hby at_32) (fun _ _ => ⟨rfl, e1, (by decide : 0 + 0 ≤ _), (by decide : 0 + 0 ≤ _)⟩)
  dsimp only [Pt.U, Pt.locs, Pt.cells, Pt.slots] at X2 l2 y2 z2 st2 hQ2
  subst l2 y2 z2
  obtain ⟨rfl, N2q, e2⟩ := hQ2
  have N2 := Fr.app N1 N2q
  obtain ⟨fs, hr, hrun, hended, hW, hsame⟩ := X2.leave (v := some (.int 1)) (fun h => by rw [Bd.returns] at h; cases h)
  refine ⟨_, _, pre0 _ ?_, hrun, hended, _, _, rfl, ?_, ⟨_, rfl⟩, hW, hsame.mono (by decide) (by decide)⟩
  · show Steps p.tables e below (s₁.setTop (mkF m 0 #[iv p0, .unset, .unset, .unset] [])) _
    refine XS.iloadN X0.here hx rfl (hb hby at_0) rfl ?_
    show Steps p.tables e below (s₁.setTop (mkF m 1 #[iv p0, .unset, .unset, .unset] [(.int p0)])) _
    refine X0.ldcInt hx hown (mvT hZ (hw _ (List.mem_of_getElem? (i := 0) rfl))) (g := (mkF m 1 #[iv p0, .unset, .unset, .unset] [(.int p0)])) rfl (hb hby at_1) _ ?_
    show Steps p.tables e below (s₁.setTop (mkF m 3 #[iv p0, .unset, .unset, .unset] [(.int 2147483647), (.int p0)])) _
    refine XS.iand X0.here hx rfl (hb hby at_3) rfl ?_
    show Steps p.tables e below (s₁.setTop (mkF m 4 #[iv p0, .unset, .unset, .unset] [(.int (p0 &&& (2147483647 : Int32)))])) _
    refine XS.bipush X0.here hx rfl (hb hby at_4) ?_
    show Steps p.tables e below (s₁.setTop (mkF m 6 #[iv p0, .unset, .unset, .unset] [(.int 11), (.int (p0 &&& (2147483647 : Int32)))])) _
    refine iremM X0 hx rfl (hb hby at_6) rfl (by decide) ?_
    show Steps p.tables e below (s₁.setTop (mkF m 7 #[iv p0, .unset, .unset, .unset] [(.int ((p0 &&& (2147483647 : Int32)) % (11 : Int32)))])) _
    refine own_top (v' := (.int 7)) (congrArg Value.int hk) ?_
    show Steps p.tables e below (s₁.setTop (mkF m 7 #[iv p0, .unset, .unset, .unset] [(.int 7)])) _
    refine XS.istoreN X0.here hx rfl (hb hby at_7) rfl (l' := #[iv p0, iv 7, .unset, .unset]) rfl ?_
    show Steps p.tables e below (s₁.setTop (mkF m 8 #[iv p0, iv 7, .unset, .unset] [])) _
    refine XS.iloadN X0.here hx rfl (hb hby at_8) rfl ?_
    show Steps p.tables e below (s₁.setTop (mkF m 9 #[iv p0, iv 7, .unset, .unset] [(.int 7)])) _
    refine st1 _ ?_
    show Steps p.tables e below (T1.setTop (mkF m 12 #[iv p0, iv 7, .unset, .unset] [(.ref w_METERED_GENERATION)])) _
    refine XS.astoreN X1.here hx rfl (hb hby at_12) rfl rfl (l' := #[iv p0, iv 7, rv w_METERED_GENERATION, .unset]) rfl ?_
    show Steps p.tables e below (T1.setTop (mkF m 13 #[iv p0, iv 7, rv w_METERED_GENERATION, .unset] [])) _
    refine XS.iloadN X1.here hx rfl (hb hby at_13) rfl ?_
    show Steps p.tables e below (T1.setTop (mkF m 14 #[iv p0, iv 7, rv w_METERED_GENERATION, .unset] [(.int 7)])) _
    refine XS.bipush X1.here hx rfl (hb hby at_14) ?_
    show Steps p.tables e below (T1.setTop (mkF m 16 #[iv p0, iv 7, rv w_METERED_GENERATION, .unset] [(.int 9), (.int 7)])) _
    refine XS.icmpNo X1.here hx rfl (hb hby at_16) rfl (feq (by decide)).1 ?_
    show Steps p.tables e below (T1.setTop (mkF m 19 #[iv p0, iv 7, rv w_METERED_GENERATION, .unset] [])) _
    refine XS.iloadN X1.here hx rfl (hb hby at_19) rfl ?_
    show Steps p.tables e below (T1.setTop (mkF m 20 #[iv p0, iv 7, rv w_METERED_GENERATION, .unset] [(.int 7)])) _
    refine XS.bipush X1.here hx rfl (hb hby at_20) ?_
    show Steps p.tables e below (T1.setTop (mkF m 22 #[iv p0, iv 7, rv w_METERED_GENERATION, .unset] [(.int 10), (.int 7)])) _
    refine XS.icmpYes X1.here hx rfl (pc0 := 22) (pc' := 29) rfl (hb hby at_22) rfl (feq (by decide)).2 (by decide) (by decide) ?_
    show Steps p.tables e below (T1.setTop (mkF m 29 #[iv p0, iv 7, rv w_METERED_GENERATION, .unset] [])) _
    refine XS.iconst X1.here hx rfl (hb hby at_29) ?_
    show Steps p.tables e below (T1.setTop (mkF m 30 #[iv p0, iv 7, rv w_METERED_GENERATION, .unset] [(.int 0)])) _
    refine XS.istoreN X1.here hx rfl (hb hby at_30) rfl (l' := #[iv p0, iv 7, rv w_METERED_GENERATION, iv 0]) rfl ?_
    show Steps p.tables e below (T1.setTop (mkF m 31 #[iv p0, iv 7, rv w_METERED_GENERATION, iv 0] [])) _
    refine XS.aloadN X1.here hx rfl (hb hby at_31) rfl rfl ?_
    show Steps p.tables e below (T1.setTop (mkF m 32 #[iv p0, iv 7, rv w_METERED_GENERATION, iv 0] [(.ref w_METERED_GENERATION)])) _
    refine st2.trans ?_
    show Steps p.tables e below (T2.setTop (mkF m 35 #[iv p0, iv 7, rv w_METERED_GENERATION, iv 0] [(.int 0)])) _
    refine XS.iloadN X2.here hx rfl (hb hby at_35) rfl ?_
    show Steps p.tables e below (T2.setTop (mkF m 36 #[iv p0, iv 7, rv w_METERED_GENERATION, iv 0] [(.int 0), (.int 0)])) _
    refine XS.icmpNo X2.here hx rfl (hb hby at_36) rfl (teq (by decide)).2 ?_
    show Steps p.tables e below (T2.setTop (mkF m 39 #[iv p0, iv 7, rv w_METERED_GENERATION, iv 0] [])) _
    refine XS.iconst X2.here hx rfl (hb hby at_39) ?_
    show Steps p.tables e below (T2.setTop (mkF m 40 #[iv p0, iv 7, rv w_METERED_GENERATION, iv 0] [(.int 1)])) _
    refine XS.goto X2.here hx rfl (pc0 := 40) (pc' := 44) rfl (hb hby at_40) (by decide) (by decide) ?_
    show Steps p.tables e below (T2.setTop (mkF m 44 #[iv p0, iv 7, rv w_METERED_GENERATION, iv 0] [(.int 1)])) _
    exact retN X2 hx (t := .boolean) Bd.returns (by simp) (hb hby at_44) hr
  · show own_law7_Q Z w_DEMAND_BID w_DECREMENT_BID w_METERED_LOAD w_EXTERNAL_SALE w_IBT_LOAD w_SUPPLY_OFFER w_INCREMENT_OFFER w_METERED_GENERATION w_EXTERNAL_PURCHASE w_IBT_MARKET w_IBT_MARKET_EXCL p0 h0 n0 _ T2.heap _
    rw [e2]
    exact ⟨rfl, N2, trivial⟩
theorem own_law8_ef (m : MethodId) (p0 : Int32) : entryFrame m #[(.int p0)] maxLocals = mkF m 0 #[iv p0, .unset, .unset, .unset] [] := by first | (simp [entryFrame, mkF, argsToLocals, Value.category, maxLocals]; done) | rfl
def own_law8_Q (Z : State) (w_DEMAND_BID : Addr) (w_DECREMENT_BID : Addr) (w_METERED_LOAD : Addr) (w_EXTERNAL_SALE : Addr) (w_IBT_LOAD : Addr) (w_SUPPLY_OFFER : Addr) (w_INCREMENT_OFFER : Addr) (w_METERED_GENERATION : Addr) (w_EXTERNAL_PURCHASE : Addr) (w_IBT_MARKET : Addr) (w_IBT_MARKET_EXCL : Addr) (p0 : Int32) (h0 : Heap) (n0 : Nat) (v : Option Value) (h : Heap) (L : List Loc) : Prop := v = some (.int 1) ∧ Fr n0 L ∧ True
set_option maxRecDepth 65536 in
set_option maxHeartbeats 40000000 in
theorem own_law8 (l : Launch) (Z : State) (a0 : Array Value) (hw : ∀ d ∈ tables_1, d.before a0 Z = true) (ws : List Jvm.Cond) (w_DEMAND_BID : Addr) (w_DECREMENT_BID : Addr) (w_METERED_LOAD : Addr) (w_EXTERNAL_SALE : Addr) (w_IBT_LOAD : Addr) (w_SUPPLY_OFFER : Addr) (w_INCREMENT_OFFER : Addr) (w_METERED_GENERATION : Addr) (w_EXTERNAL_PURCHASE : Addr) (w_IBT_MARKET : Addr) (w_IBT_MARKET_EXCL : Addr) (p0 : Int32) (h0 : Heap) (n0 : Nat) (O0 : Old Z n0 h0) (U_DEMAND_BID : own_En Z Z.heap "com/example/holdfast/holdfast/PositionKind" "DEMAND_BID" "Lcom/example/holdfast/holdfast/PositionKind;" w_DEMAND_BID (0 : Int32)) (U_DECREMENT_BID : own_En Z Z.heap "com/example/holdfast/holdfast/PositionKind" "DECREMENT_BID" "Lcom/example/holdfast/holdfast/PositionKind;" w_DECREMENT_BID (1 : Int32)) (U_METERED_LOAD : own_En Z Z.heap "com/example/holdfast/holdfast/PositionKind" "METERED_LOAD" "Lcom/example/holdfast/holdfast/PositionKind;" w_METERED_LOAD (2 : Int32)) (U_EXTERNAL_SALE : own_En Z Z.heap "com/example/holdfast/holdfast/PositionKind" "EXTERNAL_SALE" "Lcom/example/holdfast/holdfast/PositionKind;" w_EXTERNAL_SALE (3 : Int32)) (U_IBT_LOAD : own_En Z Z.heap "com/example/holdfast/holdfast/PositionKind" "IBT_LOAD" "Lcom/example/holdfast/holdfast/PositionKind;" w_IBT_LOAD (4 : Int32)) (U_SUPPLY_OFFER : own_En Z Z.heap "com/example/holdfast/holdfast/PositionKind" "SUPPLY_OFFER" "Lcom/example/holdfast/holdfast/PositionKind;" w_SUPPLY_OFFER (5 : Int32)) (U_INCREMENT_OFFER : own_En Z Z.heap "com/example/holdfast/holdfast/PositionKind" "INCREMENT_OFFER" "Lcom/example/holdfast/holdfast/PositionKind;" w_INCREMENT_OFFER (6 : Int32)) (U_METERED_GENERATION : own_En Z Z.heap "com/example/holdfast/holdfast/PositionKind" "METERED_GENERATION" "Lcom/example/holdfast/holdfast/PositionKind;" w_METERED_GENERATION (7 : Int32)) (U_EXTERNAL_PURCHASE : own_En Z Z.heap "com/example/holdfast/holdfast/PositionKind" "EXTERNAL_PURCHASE" "Lcom/example/holdfast/holdfast/PositionKind;" w_EXTERNAL_PURCHASE (8 : Int32)) (U_IBT_MARKET : own_En Z Z.heap "com/example/holdfast/holdfast/PositionKind" "IBT_MARKET" "Lcom/example/holdfast/holdfast/PositionKind;" w_IBT_MARKET (9 : Int32)) (U_IBT_MARKET_EXCL : own_En Z Z.heap "com/example/holdfast/holdfast/PositionKind" "IBT_MARKET_EXCL" "Lcom/example/holdfast/holdfast/PositionKind;" w_IBT_MARKET_EXCL (10 : Int32)) (hk : (p0 &&& (2147483647 : Int32)) % (11 : Int32) = (8 : Int32)) :
    MetFree l x (head1 (Jvm.Cond.code x code maxLocals ret :: ws) room_1) (fun a U => a = #[(.int p0)] ∧ Z.Warmed39 U.vm ∧ U.heap = h0) (fun _ _ _ _ _ => True) (fun _ U o U' => ∃ v L, o = .returned v ∧ own_law8_Q Z w_DEMAND_BID w_DECREMENT_BID w_METERED_LOAD w_EXTERNAL_SALE w_IBT_LOAD w_SUPPLY_OFFER w_INCREMENT_OFFER w_METERED_GENERATION w_EXTERNAL_PURCHASE w_IBT_MARKET w_IBT_MARKET_EXCL p0 h0 n0 v U'.heap L ∧ FrameEnd U o U' L 0 0) := by
  refine MetFree.of_bodySF (plainFor_of_name own_pn1) hisR ?_
  intro p e s m args below meth c s₁ Bd hml0 hP hK
  obtain ⟨rfl, hZ, hh⟩ := hP
  have hx := Bd.exec
  have hby := Bd.bytes
  have hml : c.maxLocals = 4 := hml0
  have hown : s.vm.findClass "com/example/holdfast/holdfast/PositionKindCarriesIntoRealTimePinLaw" = some m.cls := findClass_of_methodNamed Bd.named
  have hnm := (name_of_methodNamed Bd.named Bd.method).1
  have X0 : Stand p l e room_1 s m #[(.int p0)] below meth c s₁ [] 0 0 := Stand.of_body Bd
  have e0 : s₁.heap = h0 := by rw [← hh, Bd.state]; rfl
  have N0 := Fr.nil n0
  have pre0 : ∀ t, Steps p.tables e below (s₁.setTop (mkF m 0 #[iv p0, .unset, .unset, .unset] [])) t → Steps p.tables e below (s₁.setTop (entryFrame m #[(.int p0)] maxLocals)) t := fun t k => castTop (own_law8_ef m p0) k
  obtain ⟨_, _, ⟨T1, L1, k1, n1⟩, -, X1, ⟨Lc1, hQ1, l1, y1, z1⟩, st1⟩ := Jvm.LawKit.callS X0 hx (y := (⟨"com/example/holdfast/holdfast/PositionKindCarriesIntoRealTimePinLaw", "kindAt", "(I)Lcom/example/holdfast/holdfast/PositionKind;"⟩ : MethodName)) hown (mvT hZ (hw _ (List.mem_of_getElem? (i := 1) rfl))) (mvT hZ (hw _ (List.mem_of_getElem? (i := 2) rfl))) (mvT hZ (hw _ (List.mem_of_getElem? (i := 3) rfl))) (mvT hZ (hw _ (List.mem_of_getElem? (i := 4) rfl))) (by decide) (backOf (W := 0) (own_p_8 l Z a0 hw [] w_DEMAND_BID w_DECREMENT_BID w_METERED_LOAD w_EXTERNAL_SALE w_IBT_LOAD w_SUPPLY_OFFER w_INCREMENT_OFFER w_METERED_GENERATION w_EXTERNAL_PURCHASE w_IBT_MARKET w_IBT_MARKET_EXCL  h0 n0 O0 U_DEMAND_BID U_DECREMENT_BID U_METERED_LOAD U_EXTERNAL_SALE U_IBT_LOAD U_SUPPLY_OFFER U_INCREMENT_OFFER U_METERED_GENERATION U_EXTERNAL_PURCHASE U_IBT_MARKET U_IBT_MARKET_EXCL ) hZ (hw _ (List.mem_of_getElem? (i := 4) rfl)) (hw _ (List.mem_of_getElem? (i := 3) rfl)) (by decide) (by decide)) (g := (mkF m 9 #[iv p0, iv 8, .unset, .unset] [(.int 8)])) rfl (by rw [hml]; rfl) (argsL := [(.int 8)]) (rest := []) (lenOf own_pd0 rfl) rfl (by show 2 * 0 + _ ≤ _; exact Nat.le_of_eq rfl) (hb hby at_9) (fun _ _ => ⟨rfl, e0, (by decide : 0 + 0 ≤ _), (by decide : 0 + 0 ≤ _)⟩)
  dsimp only [Pt.U, Pt.locs, Pt.cells, Pt.slots] at X1 l1 y1 z1 st1 hQ1
  subst l1 y1 z1
  obtain ⟨rfl, N1q, e1⟩ := hQ1
  have N1 := Fr.app N0 N1q
  obtain ⟨cq2, kq2, q2a, q2b, q2c⟩ := isOf hZ e1 (U_EXTERNAL_PURCHASE.2.1.ext O0.2)
  obtain ⟨_, _, ⟨T2, L2, k2, n2⟩, -, X2, ⟨Lc2, hQ2, l2, y2, z2⟩, st2⟩ := X1.virtualBack hx (y := (⟨"com/example/holdfast/holdfast/PositionKind", "carriesIntoRealTime", "()Z"⟩ : MethodName)) (z := (⟨"com/example/holdfast/holdfast/PositionKind", "carriesIntoRealTime", "()Z"⟩ : MethodName)) hown (mvT hZ (hw _ (List.mem_of_getElem? (i := 8) rfl))) (mvT hZ (hw _ (List.mem_of_getElem? (i := 9) rfl))) (notFace_of_selects (args := #[]) (mvT hZ (hw _ (List.mem_of_getElem? (i := 11) rfl)))) (mvT hZ (hw _ (List.mem_of_getElem? (i := 11) rfl))) (mvT hZ (hw _ (List.mem_of_getElem? (i := 10) rfl))) (by decide) (backOf (W := 0) (own_m_EXTERNAL_PURCHASE l Z a0 hw [] w_DEMAND_BID w_DECREMENT_BID w_METERED_LOAD w_EXTERNAL_SALE w_IBT_LOAD w_SUPPLY_OFFER w_INCREMENT_OFFER w_METERED_GENERATION w_EXTERNAL_PURCHASE w_IBT_MARKET w_IBT_MARKET_EXCL  h0 n0 O0 U_DEMAND_BID U_DECREMENT_BID U_METERED_LOAD U_EXTERNAL_SALE U_IBT_LOAD U_SUPPLY_OFFER U_INCREMENT_OFFER U_METERED_GENERATION U_EXTERNAL_PURCHASE U_IBT_MARKET U_IBT_MARKET_EXCL ) hZ (hw _ (List.mem_of_getElem? (i := 12) rfl)) (hw _ (List.mem_of_getElem? (i := 6) rfl)) (by decide) (by decide)) q2a q2c (g := (mkF m 32 #[iv p0, iv 8, rv w_EXTERNAL_PURCHASE, iv 0] [(.ref w_EXTERNAL_PURCHASE)])) rfl (by rw [hml]; rfl) (Steps.refl _) (argsL := []) (rest := []) (lenOf own_pd1 rfl) rfl (by show 2 * 0 + _ ≤ _; exact Nat.le_of_eq rfl) (hb hby at_32) (fun _ _ => ⟨rfl, e1, (by decide : 0 + 0 ≤ _), (by decide : 0 + 0 ≤ _)⟩)
  dsimp only [Pt.U, Pt.locs, Pt.cells, Pt.slots] at X2 l2 y2 z2 st2 hQ2
  subst l2 y2 z2
  obtain ⟨rfl, N2q, e2⟩ := hQ2
  have N2 := Fr.app N1 N2q
  obtain ⟨fs, hr, hrun, hended, hW, hsame⟩ := X2.leave (v := some (.int 1)) (fun h => by rw [Bd.returns] at h; cases h)
  refine ⟨_, _, pre0 _ ?_, hrun, hended, _, _, rfl, ?_, ⟨_, rfl⟩, hW, hsame.mono (by decide) (by decide)⟩
  · show Steps p.tables e below (s₁.setTop (mkF m 0 #[iv p0, .unset, .unset, .unset] [])) _
    refine XS.iloadN X0.here hx rfl (hb hby at_0) rfl ?_
    show Steps p.tables e below (s₁.setTop (mkF m 1 #[iv p0, .unset, .unset, .unset] [(.int p0)])) _
    refine X0.ldcInt hx hown (mvT hZ (hw _ (List.mem_of_getElem? (i := 0) rfl))) (g := (mkF m 1 #[iv p0, .unset, .unset, .unset] [(.int p0)])) rfl (hb hby at_1) _ ?_
    show Steps p.tables e below (s₁.setTop (mkF m 3 #[iv p0, .unset, .unset, .unset] [(.int 2147483647), (.int p0)])) _
    refine XS.iand X0.here hx rfl (hb hby at_3) rfl ?_
    show Steps p.tables e below (s₁.setTop (mkF m 4 #[iv p0, .unset, .unset, .unset] [(.int (p0 &&& (2147483647 : Int32)))])) _
    refine XS.bipush X0.here hx rfl (hb hby at_4) ?_
    show Steps p.tables e below (s₁.setTop (mkF m 6 #[iv p0, .unset, .unset, .unset] [(.int 11), (.int (p0 &&& (2147483647 : Int32)))])) _
    refine iremM X0 hx rfl (hb hby at_6) rfl (by decide) ?_
    show Steps p.tables e below (s₁.setTop (mkF m 7 #[iv p0, .unset, .unset, .unset] [(.int ((p0 &&& (2147483647 : Int32)) % (11 : Int32)))])) _
    refine own_top (v' := (.int 8)) (congrArg Value.int hk) ?_
    show Steps p.tables e below (s₁.setTop (mkF m 7 #[iv p0, .unset, .unset, .unset] [(.int 8)])) _
    refine XS.istoreN X0.here hx rfl (hb hby at_7) rfl (l' := #[iv p0, iv 8, .unset, .unset]) rfl ?_
    show Steps p.tables e below (s₁.setTop (mkF m 8 #[iv p0, iv 8, .unset, .unset] [])) _
    refine XS.iloadN X0.here hx rfl (hb hby at_8) rfl ?_
    show Steps p.tables e below (s₁.setTop (mkF m 9 #[iv p0, iv 8, .unset, .unset] [(.int 8)])) _
    refine st1 _ ?_
    show Steps p.tables e below (T1.setTop (mkF m 12 #[iv p0, iv 8, .unset, .unset] [(.ref w_EXTERNAL_PURCHASE)])) _
    refine XS.astoreN X1.here hx rfl (hb hby at_12) rfl rfl (l' := #[iv p0, iv 8, rv w_EXTERNAL_PURCHASE, .unset]) rfl ?_
    show Steps p.tables e below (T1.setTop (mkF m 13 #[iv p0, iv 8, rv w_EXTERNAL_PURCHASE, .unset] [])) _
    refine XS.iloadN X1.here hx rfl (hb hby at_13) rfl ?_
    show Steps p.tables e below (T1.setTop (mkF m 14 #[iv p0, iv 8, rv w_EXTERNAL_PURCHASE, .unset] [(.int 8)])) _
    refine XS.bipush X1.here hx rfl (hb hby at_14) ?_
    show Steps p.tables e below (T1.setTop (mkF m 16 #[iv p0, iv 8, rv w_EXTERNAL_PURCHASE, .unset] [(.int 9), (.int 8)])) _
    refine XS.icmpNo X1.here hx rfl (hb hby at_16) rfl (feq (by decide)).1 ?_
    show Steps p.tables e below (T1.setTop (mkF m 19 #[iv p0, iv 8, rv w_EXTERNAL_PURCHASE, .unset] [])) _
    refine XS.iloadN X1.here hx rfl (hb hby at_19) rfl ?_
    show Steps p.tables e below (T1.setTop (mkF m 20 #[iv p0, iv 8, rv w_EXTERNAL_PURCHASE, .unset] [(.int 8)])) _
    refine XS.bipush X1.here hx rfl (hb hby at_20) ?_
    show Steps p.tables e below (T1.setTop (mkF m 22 #[iv p0, iv 8, rv w_EXTERNAL_PURCHASE, .unset] [(.int 10), (.int 8)])) _
    refine XS.icmpYes X1.here hx rfl (pc0 := 22) (pc' := 29) rfl (hb hby at_22) rfl (feq (by decide)).2 (by decide) (by decide) ?_
    show Steps p.tables e below (T1.setTop (mkF m 29 #[iv p0, iv 8, rv w_EXTERNAL_PURCHASE, .unset] [])) _
    refine XS.iconst X1.here hx rfl (hb hby at_29) ?_
    show Steps p.tables e below (T1.setTop (mkF m 30 #[iv p0, iv 8, rv w_EXTERNAL_PURCHASE, .unset] [(.int 0)])) _
    refine XS.istoreN X1.here hx rfl (hb hby at_30) rfl (l' := #[iv p0, iv 8, rv w_EXTERNAL_PURCHASE, iv 0]) rfl ?_
    show Steps p.tables e below (T1.setTop (mkF m 31 #[iv p0, iv 8, rv w_EXTERNAL_PURCHASE, iv 0] [])) _
    refine XS.aloadN X1.here hx rfl (hb hby at_31) rfl rfl ?_
    show Steps p.tables e below (T1.setTop (mkF m 32 #[iv p0, iv 8, rv w_EXTERNAL_PURCHASE, iv 0] [(.ref w_EXTERNAL_PURCHASE)])) _
    refine st2.trans ?_
    show Steps p.tables e below (T2.setTop (mkF m 35 #[iv p0, iv 8, rv w_EXTERNAL_PURCHASE, iv 0] [(.int 0)])) _
    refine XS.iloadN X2.here hx rfl (hb hby at_35) rfl ?_
    show Steps p.tables e below (T2.setTop (mkF m 36 #[iv p0, iv 8, rv w_EXTERNAL_PURCHASE, iv 0] [(.int 0), (.int 0)])) _
    refine XS.icmpNo X2.here hx rfl (hb hby at_36) rfl (teq (by decide)).2 ?_
    show Steps p.tables e below (T2.setTop (mkF m 39 #[iv p0, iv 8, rv w_EXTERNAL_PURCHASE, iv 0] [])) _
    refine XS.iconst X2.here hx rfl (hb hby at_39) ?_
    show Steps p.tables e below (T2.setTop (mkF m 40 #[iv p0, iv 8, rv w_EXTERNAL_PURCHASE, iv 0] [(.int 1)])) _
    refine XS.goto X2.here hx rfl (pc0 := 40) (pc' := 44) rfl (hb hby at_40) (by decide) (by decide) ?_
    show Steps p.tables e below (T2.setTop (mkF m 44 #[iv p0, iv 8, rv w_EXTERNAL_PURCHASE, iv 0] [(.int 1)])) _
    exact retN X2 hx (t := .boolean) Bd.returns (by simp) (hb hby at_44) hr
  · show own_law8_Q Z w_DEMAND_BID w_DECREMENT_BID w_METERED_LOAD w_EXTERNAL_SALE w_IBT_LOAD w_SUPPLY_OFFER w_INCREMENT_OFFER w_METERED_GENERATION w_EXTERNAL_PURCHASE w_IBT_MARKET w_IBT_MARKET_EXCL p0 h0 n0 _ T2.heap _
    rw [e2]
    exact ⟨rfl, N2, trivial⟩
theorem own_law9_ef (m : MethodId) (p0 : Int32) : entryFrame m #[(.int p0)] maxLocals = mkF m 0 #[iv p0, .unset, .unset, .unset] [] := by first | (simp [entryFrame, mkF, argsToLocals, Value.category, maxLocals]; done) | rfl
def own_law9_Q (Z : State) (w_DEMAND_BID : Addr) (w_DECREMENT_BID : Addr) (w_METERED_LOAD : Addr) (w_EXTERNAL_SALE : Addr) (w_IBT_LOAD : Addr) (w_SUPPLY_OFFER : Addr) (w_INCREMENT_OFFER : Addr) (w_METERED_GENERATION : Addr) (w_EXTERNAL_PURCHASE : Addr) (w_IBT_MARKET : Addr) (w_IBT_MARKET_EXCL : Addr) (p0 : Int32) (h0 : Heap) (n0 : Nat) (v : Option Value) (h : Heap) (L : List Loc) : Prop := v = some (.int 1) ∧ Fr n0 L ∧ True
set_option maxRecDepth 65536 in
set_option maxHeartbeats 40000000 in
theorem own_law9 (l : Launch) (Z : State) (a0 : Array Value) (hw : ∀ d ∈ tables_1, d.before a0 Z = true) (ws : List Jvm.Cond) (w_DEMAND_BID : Addr) (w_DECREMENT_BID : Addr) (w_METERED_LOAD : Addr) (w_EXTERNAL_SALE : Addr) (w_IBT_LOAD : Addr) (w_SUPPLY_OFFER : Addr) (w_INCREMENT_OFFER : Addr) (w_METERED_GENERATION : Addr) (w_EXTERNAL_PURCHASE : Addr) (w_IBT_MARKET : Addr) (w_IBT_MARKET_EXCL : Addr) (p0 : Int32) (h0 : Heap) (n0 : Nat) (O0 : Old Z n0 h0) (U_DEMAND_BID : own_En Z Z.heap "com/example/holdfast/holdfast/PositionKind" "DEMAND_BID" "Lcom/example/holdfast/holdfast/PositionKind;" w_DEMAND_BID (0 : Int32)) (U_DECREMENT_BID : own_En Z Z.heap "com/example/holdfast/holdfast/PositionKind" "DECREMENT_BID" "Lcom/example/holdfast/holdfast/PositionKind;" w_DECREMENT_BID (1 : Int32)) (U_METERED_LOAD : own_En Z Z.heap "com/example/holdfast/holdfast/PositionKind" "METERED_LOAD" "Lcom/example/holdfast/holdfast/PositionKind;" w_METERED_LOAD (2 : Int32)) (U_EXTERNAL_SALE : own_En Z Z.heap "com/example/holdfast/holdfast/PositionKind" "EXTERNAL_SALE" "Lcom/example/holdfast/holdfast/PositionKind;" w_EXTERNAL_SALE (3 : Int32)) (U_IBT_LOAD : own_En Z Z.heap "com/example/holdfast/holdfast/PositionKind" "IBT_LOAD" "Lcom/example/holdfast/holdfast/PositionKind;" w_IBT_LOAD (4 : Int32)) (U_SUPPLY_OFFER : own_En Z Z.heap "com/example/holdfast/holdfast/PositionKind" "SUPPLY_OFFER" "Lcom/example/holdfast/holdfast/PositionKind;" w_SUPPLY_OFFER (5 : Int32)) (U_INCREMENT_OFFER : own_En Z Z.heap "com/example/holdfast/holdfast/PositionKind" "INCREMENT_OFFER" "Lcom/example/holdfast/holdfast/PositionKind;" w_INCREMENT_OFFER (6 : Int32)) (U_METERED_GENERATION : own_En Z Z.heap "com/example/holdfast/holdfast/PositionKind" "METERED_GENERATION" "Lcom/example/holdfast/holdfast/PositionKind;" w_METERED_GENERATION (7 : Int32)) (U_EXTERNAL_PURCHASE : own_En Z Z.heap "com/example/holdfast/holdfast/PositionKind" "EXTERNAL_PURCHASE" "Lcom/example/holdfast/holdfast/PositionKind;" w_EXTERNAL_PURCHASE (8 : Int32)) (U_IBT_MARKET : own_En Z Z.heap "com/example/holdfast/holdfast/PositionKind" "IBT_MARKET" "Lcom/example/holdfast/holdfast/PositionKind;" w_IBT_MARKET (9 : Int32)) (U_IBT_MARKET_EXCL : own_En Z Z.heap "com/example/holdfast/holdfast/PositionKind" "IBT_MARKET_EXCL" "Lcom/example/holdfast/holdfast/PositionKind;" w_IBT_MARKET_EXCL (10 : Int32)) (hk : (p0 &&& (2147483647 : Int32)) % (11 : Int32) = (9 : Int32)) :
    MetFree l x (head1 (Jvm.Cond.code x code maxLocals ret :: ws) room_1) (fun a U => a = #[(.int p0)] ∧ Z.Warmed39 U.vm ∧ U.heap = h0) (fun _ _ _ _ _ => True) (fun _ U o U' => ∃ v L, o = .returned v ∧ own_law9_Q Z w_DEMAND_BID w_DECREMENT_BID w_METERED_LOAD w_EXTERNAL_SALE w_IBT_LOAD w_SUPPLY_OFFER w_INCREMENT_OFFER w_METERED_GENERATION w_EXTERNAL_PURCHASE w_IBT_MARKET w_IBT_MARKET_EXCL p0 h0 n0 v U'.heap L ∧ FrameEnd U o U' L 0 0) := by
  refine MetFree.of_bodySF (plainFor_of_name own_pn1) hisR ?_
  intro p e s m args below meth c s₁ Bd hml0 hP hK
  obtain ⟨rfl, hZ, hh⟩ := hP
  have hx := Bd.exec
  have hby := Bd.bytes
  have hml : c.maxLocals = 4 := hml0
  have hown : s.vm.findClass "com/example/holdfast/holdfast/PositionKindCarriesIntoRealTimePinLaw" = some m.cls := findClass_of_methodNamed Bd.named
  have hnm := (name_of_methodNamed Bd.named Bd.method).1
  have X0 : Stand p l e room_1 s m #[(.int p0)] below meth c s₁ [] 0 0 := Stand.of_body Bd
  have e0 : s₁.heap = h0 := by rw [← hh, Bd.state]; rfl
  have N0 := Fr.nil n0
  have pre0 : ∀ t, Steps p.tables e below (s₁.setTop (mkF m 0 #[iv p0, .unset, .unset, .unset] [])) t → Steps p.tables e below (s₁.setTop (entryFrame m #[(.int p0)] maxLocals)) t := fun t k => castTop (own_law9_ef m p0) k
  obtain ⟨_, _, ⟨T1, L1, k1, n1⟩, -, X1, ⟨Lc1, hQ1, l1, y1, z1⟩, st1⟩ := Jvm.LawKit.callS X0 hx (y := (⟨"com/example/holdfast/holdfast/PositionKindCarriesIntoRealTimePinLaw", "kindAt", "(I)Lcom/example/holdfast/holdfast/PositionKind;"⟩ : MethodName)) hown (mvT hZ (hw _ (List.mem_of_getElem? (i := 1) rfl))) (mvT hZ (hw _ (List.mem_of_getElem? (i := 2) rfl))) (mvT hZ (hw _ (List.mem_of_getElem? (i := 3) rfl))) (mvT hZ (hw _ (List.mem_of_getElem? (i := 4) rfl))) (by decide) (backOf (W := 0) (own_p_9 l Z a0 hw [] w_DEMAND_BID w_DECREMENT_BID w_METERED_LOAD w_EXTERNAL_SALE w_IBT_LOAD w_SUPPLY_OFFER w_INCREMENT_OFFER w_METERED_GENERATION w_EXTERNAL_PURCHASE w_IBT_MARKET w_IBT_MARKET_EXCL  h0 n0 O0 U_DEMAND_BID U_DECREMENT_BID U_METERED_LOAD U_EXTERNAL_SALE U_IBT_LOAD U_SUPPLY_OFFER U_INCREMENT_OFFER U_METERED_GENERATION U_EXTERNAL_PURCHASE U_IBT_MARKET U_IBT_MARKET_EXCL ) hZ (hw _ (List.mem_of_getElem? (i := 4) rfl)) (hw _ (List.mem_of_getElem? (i := 3) rfl)) (by decide) (by decide)) (g := (mkF m 9 #[iv p0, iv 9, .unset, .unset] [(.int 9)])) rfl (by rw [hml]; rfl) (argsL := [(.int 9)]) (rest := []) (lenOf own_pd0 rfl) rfl (by show 2 * 0 + _ ≤ _; exact Nat.le_of_eq rfl) (hb hby at_9) (fun _ _ => ⟨rfl, e0, (by decide : 0 + 0 ≤ _), (by decide : 0 + 0 ≤ _)⟩)
  dsimp only [Pt.U, Pt.locs, Pt.cells, Pt.slots] at X1 l1 y1 z1 st1 hQ1
  subst l1 y1 z1
  obtain ⟨rfl, N1q, e1⟩ := hQ1
  have N1 := Fr.app N0 N1q
  obtain ⟨cq2, kq2, q2a, q2b, q2c⟩ := isOf hZ e1 (U_IBT_MARKET.2.1.ext O0.2)
  obtain ⟨_, _, ⟨T2, L2, k2, n2⟩, -, X2, ⟨Lc2, hQ2, l2, y2, z2⟩, st2⟩ := X1.virtualBack hx (y := (⟨"com/example/holdfast/holdfast/PositionKind", "carriesIntoRealTime", "()Z"⟩ : MethodName)) (z := (⟨"com/example/holdfast/holdfast/PositionKind", "carriesIntoRealTime", "()Z"⟩ : MethodName)) hown (mvT hZ (hw _ (List.mem_of_getElem? (i := 8) rfl))) (mvT hZ (hw _ (List.mem_of_getElem? (i := 9) rfl))) (notFace_of_selects (args := #[]) (mvT hZ (hw _ (List.mem_of_getElem? (i := 11) rfl)))) (mvT hZ (hw _ (List.mem_of_getElem? (i := 11) rfl))) (mvT hZ (hw _ (List.mem_of_getElem? (i := 10) rfl))) (by decide) (backOf (W := 0) (own_m_IBT_MARKET l Z a0 hw [] w_DEMAND_BID w_DECREMENT_BID w_METERED_LOAD w_EXTERNAL_SALE w_IBT_LOAD w_SUPPLY_OFFER w_INCREMENT_OFFER w_METERED_GENERATION w_EXTERNAL_PURCHASE w_IBT_MARKET w_IBT_MARKET_EXCL  h0 n0 O0 U_DEMAND_BID U_DECREMENT_BID U_METERED_LOAD U_EXTERNAL_SALE U_IBT_LOAD U_SUPPLY_OFFER U_INCREMENT_OFFER U_METERED_GENERATION U_EXTERNAL_PURCHASE U_IBT_MARKET U_IBT_MARKET_EXCL ) hZ (hw _ (List.mem_of_getElem? (i := 12) rfl)) (hw _ (List.mem_of_getElem? (i := 6) rfl)) (by decide) (by decide)) q2a q2c (g := (mkF m 32 #[iv p0, iv 9, rv w_IBT_MARKET, iv 1] [(.ref w_IBT_MARKET)])) rfl (by rw [hml]; rfl) (Steps.refl _) (argsL := []) (rest := []) (lenOf own_pd1 rfl) rfl (by show 2 * 0 + _ ≤ _; exact Nat.le_of_eq rfl) (hb hby at_32) (fun _ _ => ⟨rfl, e1, (by decide : 0 + 0 ≤ _), (by decide : 0 + 0 ≤ _)⟩)
  dsimp only [Pt.U, Pt.locs, Pt.cells, Pt.slots] at X2 l2 y2 z2 st2 hQ2
  subst l2 y2 z2
  obtain ⟨rfl, N2q, e2⟩ := hQ2
  have N2 := Fr.app N1 N2q
  obtain ⟨fs, hr, hrun, hended, hW, hsame⟩ := X2.leave (v := some (.int 1)) (fun h => by rw [Bd.returns] at h; cases h)
  refine ⟨_, _, pre0 _ ?_, hrun, hended, _, _, rfl, ?_, ⟨_, rfl⟩, hW, hsame.mono (by decide) (by decide)⟩
  · show Steps p.tables e below (s₁.setTop (mkF m 0 #[iv p0, .unset, .unset, .unset] [])) _
    refine XS.iloadN X0.here hx rfl (hb hby at_0) rfl ?_
    show Steps p.tables e below (s₁.setTop (mkF m 1 #[iv p0, .unset, .unset, .unset] [(.int p0)])) _
    refine X0.ldcInt hx hown (mvT hZ (hw _ (List.mem_of_getElem? (i := 0) rfl))) (g := (mkF m 1 #[iv p0, .unset, .unset, .unset] [(.int p0)])) rfl (hb hby at_1) _ ?_
    show Steps p.tables e below (s₁.setTop (mkF m 3 #[iv p0, .unset, .unset, .unset] [(.int 2147483647), (.int p0)])) _
    refine XS.iand X0.here hx rfl (hb hby at_3) rfl ?_
    show Steps p.tables e below (s₁.setTop (mkF m 4 #[iv p0, .unset, .unset, .unset] [(.int (p0 &&& (2147483647 : Int32)))])) _
    refine XS.bipush X0.here hx rfl (hb hby at_4) ?_
    show Steps p.tables e below (s₁.setTop (mkF m 6 #[iv p0, .unset, .unset, .unset] [(.int 11), (.int (p0 &&& (2147483647 : Int32)))])) _
    refine iremM X0 hx rfl (hb hby at_6) rfl (by decide) ?_
    show Steps p.tables e below (s₁.setTop (mkF m 7 #[iv p0, .unset, .unset, .unset] [(.int ((p0 &&& (2147483647 : Int32)) % (11 : Int32)))])) _
    refine own_top (v' := (.int 9)) (congrArg Value.int hk) ?_
    show Steps p.tables e below (s₁.setTop (mkF m 7 #[iv p0, .unset, .unset, .unset] [(.int 9)])) _
    refine XS.istoreN X0.here hx rfl (hb hby at_7) rfl (l' := #[iv p0, iv 9, .unset, .unset]) rfl ?_
    show Steps p.tables e below (s₁.setTop (mkF m 8 #[iv p0, iv 9, .unset, .unset] [])) _
    refine XS.iloadN X0.here hx rfl (hb hby at_8) rfl ?_
    show Steps p.tables e below (s₁.setTop (mkF m 9 #[iv p0, iv 9, .unset, .unset] [(.int 9)])) _
    refine st1 _ ?_
    show Steps p.tables e below (T1.setTop (mkF m 12 #[iv p0, iv 9, .unset, .unset] [(.ref w_IBT_MARKET)])) _
    refine XS.astoreN X1.here hx rfl (hb hby at_12) rfl rfl (l' := #[iv p0, iv 9, rv w_IBT_MARKET, .unset]) rfl ?_
    show Steps p.tables e below (T1.setTop (mkF m 13 #[iv p0, iv 9, rv w_IBT_MARKET, .unset] [])) _
    refine XS.iloadN X1.here hx rfl (hb hby at_13) rfl ?_
    show Steps p.tables e below (T1.setTop (mkF m 14 #[iv p0, iv 9, rv w_IBT_MARKET, .unset] [(.int 9)])) _
    refine XS.bipush X1.here hx rfl (hb hby at_14) ?_
    show Steps p.tables e below (T1.setTop (mkF m 16 #[iv p0, iv 9, rv w_IBT_MARKET, .unset] [(.int 9), (.int 9)])) _
    refine XS.icmpYes X1.here hx rfl (pc0 := 16) (pc' := 25) rfl (hb hby at_16) rfl (teq (by decide)).1 (by decide) (by decide) ?_
    show Steps p.tables e below (T1.setTop (mkF m 25 #[iv p0, iv 9, rv w_IBT_MARKET, .unset] [])) _
    refine XS.iconst X1.here hx rfl (hb hby at_25) ?_
    show Steps p.tables e below (T1.setTop (mkF m 26 #[iv p0, iv 9, rv w_IBT_MARKET, .unset] [(.int 1)])) _
    refine XS.goto X1.here hx rfl (pc0 := 26) (pc' := 30) rfl (hb hby at_26) (by decide) (by decide) ?_
    show Steps p.tables e below (T1.setTop (mkF m 30 #[iv p0, iv 9, rv w_IBT_MARKET, .unset] [(.int 1)])) _
    refine XS.istoreN X1.here hx rfl (hb hby at_30) rfl (l' := #[iv p0, iv 9, rv w_IBT_MARKET, iv 1]) rfl ?_
    show Steps p.tables e below (T1.setTop (mkF m 31 #[iv p0, iv 9, rv w_IBT_MARKET, iv 1] [])) _
    refine XS.aloadN X1.here hx rfl (hb hby at_31) rfl rfl ?_
    show Steps p.tables e below (T1.setTop (mkF m 32 #[iv p0, iv 9, rv w_IBT_MARKET, iv 1] [(.ref w_IBT_MARKET)])) _
    refine st2.trans ?_
    show Steps p.tables e below (T2.setTop (mkF m 35 #[iv p0, iv 9, rv w_IBT_MARKET, iv 1] [(.int 1)])) _
    refine XS.iloadN X2.here hx rfl (hb hby at_35) rfl ?_
    show Steps p.tables e below (T2.setTop (mkF m 36 #[iv p0, iv 9, rv w_IBT_MARKET, iv 1] [(.int 1), (.int 1)])) _
    refine XS.icmpNo X2.here hx rfl (hb hby at_36) rfl (teq (by decide)).2 ?_
    show Steps p.tables e below (T2.setTop (mkF m 39 #[iv p0, iv 9, rv w_IBT_MARKET, iv 1] [])) _
    refine XS.iconst X2.here hx rfl (hb hby at_39) ?_
    show Steps p.tables e below (T2.setTop (mkF m 40 #[iv p0, iv 9, rv w_IBT_MARKET, iv 1] [(.int 1)])) _
    refine XS.goto X2.here hx rfl (pc0 := 40) (pc' := 44) rfl (hb hby at_40) (by decide) (by decide) ?_
    show Steps p.tables e below (T2.setTop (mkF m 44 #[iv p0, iv 9, rv w_IBT_MARKET, iv 1] [(.int 1)])) _
    exact retN X2 hx (t := .boolean) Bd.returns (by simp) (hb hby at_44) hr
  · show own_law9_Q Z w_DEMAND_BID w_DECREMENT_BID w_METERED_LOAD w_EXTERNAL_SALE w_IBT_LOAD w_SUPPLY_OFFER w_INCREMENT_OFFER w_METERED_GENERATION w_EXTERNAL_PURCHASE w_IBT_MARKET w_IBT_MARKET_EXCL p0 h0 n0 _ T2.heap _
    rw [e2]
    exact ⟨rfl, N2, trivial⟩
theorem own_law10_ef (m : MethodId) (p0 : Int32) : entryFrame m #[(.int p0)] maxLocals = mkF m 0 #[iv p0, .unset, .unset, .unset] [] := by first | (simp [entryFrame, mkF, argsToLocals, Value.category, maxLocals]; done) | rfl
def own_law10_Q (Z : State) (w_DEMAND_BID : Addr) (w_DECREMENT_BID : Addr) (w_METERED_LOAD : Addr) (w_EXTERNAL_SALE : Addr) (w_IBT_LOAD : Addr) (w_SUPPLY_OFFER : Addr) (w_INCREMENT_OFFER : Addr) (w_METERED_GENERATION : Addr) (w_EXTERNAL_PURCHASE : Addr) (w_IBT_MARKET : Addr) (w_IBT_MARKET_EXCL : Addr) (p0 : Int32) (h0 : Heap) (n0 : Nat) (v : Option Value) (h : Heap) (L : List Loc) : Prop := v = some (.int 1) ∧ Fr n0 L ∧ True
set_option maxRecDepth 65536 in
set_option maxHeartbeats 40000000 in
theorem own_law10 (l : Launch) (Z : State) (a0 : Array Value) (hw : ∀ d ∈ tables_1, d.before a0 Z = true) (ws : List Jvm.Cond) (w_DEMAND_BID : Addr) (w_DECREMENT_BID : Addr) (w_METERED_LOAD : Addr) (w_EXTERNAL_SALE : Addr) (w_IBT_LOAD : Addr) (w_SUPPLY_OFFER : Addr) (w_INCREMENT_OFFER : Addr) (w_METERED_GENERATION : Addr) (w_EXTERNAL_PURCHASE : Addr) (w_IBT_MARKET : Addr) (w_IBT_MARKET_EXCL : Addr) (p0 : Int32) (h0 : Heap) (n0 : Nat) (O0 : Old Z n0 h0) (U_DEMAND_BID : own_En Z Z.heap "com/example/holdfast/holdfast/PositionKind" "DEMAND_BID" "Lcom/example/holdfast/holdfast/PositionKind;" w_DEMAND_BID (0 : Int32)) (U_DECREMENT_BID : own_En Z Z.heap "com/example/holdfast/holdfast/PositionKind" "DECREMENT_BID" "Lcom/example/holdfast/holdfast/PositionKind;" w_DECREMENT_BID (1 : Int32)) (U_METERED_LOAD : own_En Z Z.heap "com/example/holdfast/holdfast/PositionKind" "METERED_LOAD" "Lcom/example/holdfast/holdfast/PositionKind;" w_METERED_LOAD (2 : Int32)) (U_EXTERNAL_SALE : own_En Z Z.heap "com/example/holdfast/holdfast/PositionKind" "EXTERNAL_SALE" "Lcom/example/holdfast/holdfast/PositionKind;" w_EXTERNAL_SALE (3 : Int32)) (U_IBT_LOAD : own_En Z Z.heap "com/example/holdfast/holdfast/PositionKind" "IBT_LOAD" "Lcom/example/holdfast/holdfast/PositionKind;" w_IBT_LOAD (4 : Int32)) (U_SUPPLY_OFFER : own_En Z Z.heap "com/example/holdfast/holdfast/PositionKind" "SUPPLY_OFFER" "Lcom/example/holdfast/holdfast/PositionKind;" w_SUPPLY_OFFER (5 : Int32)) (U_INCREMENT_OFFER : own_En Z Z.heap "com/example/holdfast/holdfast/PositionKind" "INCREMENT_OFFER" "Lcom/example/holdfast/holdfast/PositionKind;" w_INCREMENT_OFFER (6 : Int32)) (U_METERED_GENERATION : own_En Z Z.heap "com/example/holdfast/holdfast/PositionKind" "METERED_GENERATION" "Lcom/example/holdfast/holdfast/PositionKind;" w_METERED_GENERATION (7 : Int32)) (U_EXTERNAL_PURCHASE : own_En Z Z.heap "com/example/holdfast/holdfast/PositionKind" "EXTERNAL_PURCHASE" "Lcom/example/holdfast/holdfast/PositionKind;" w_EXTERNAL_PURCHASE (8 : Int32)) (U_IBT_MARKET : own_En Z Z.heap "com/example/holdfast/holdfast/PositionKind" "IBT_MARKET" "Lcom/example/holdfast/holdfast/PositionKind;" w_IBT_MARKET (9 : Int32)) (U_IBT_MARKET_EXCL : own_En Z Z.heap "com/example/holdfast/holdfast/PositionKind" "IBT_MARKET_EXCL" "Lcom/example/holdfast/holdfast/PositionKind;" w_IBT_MARKET_EXCL (10 : Int32)) (hk : (p0 &&& (2147483647 : Int32)) % (11 : Int32) = (10 : Int32)) :
    MetFree l x (head1 (Jvm.Cond.code x code maxLocals ret :: ws) room_1) (fun a U => a = #[(.int p0)] ∧ Z.Warmed39 U.vm ∧ U.heap = h0) (fun _ _ _ _ _ => True) (fun _ U o U' => ∃ v L, o = .returned v ∧ own_law10_Q Z w_DEMAND_BID w_DECREMENT_BID w_METERED_LOAD w_EXTERNAL_SALE w_IBT_LOAD w_SUPPLY_OFFER w_INCREMENT_OFFER w_METERED_GENERATION w_EXTERNAL_PURCHASE w_IBT_MARKET w_IBT_MARKET_EXCL p0 h0 n0 v U'.heap L ∧ FrameEnd U o U' L 0 0) := by
  refine MetFree.of_bodySF (plainFor_of_name own_pn1) hisR ?_
  intro p e s m args below meth c s₁ Bd hml0 hP hK
  obtain ⟨rfl, hZ, hh⟩ := hP
  have hx := Bd.exec
  have hby := Bd.bytes
  have hml : c.maxLocals = 4 := hml0
  have hown : s.vm.findClass "com/example/holdfast/holdfast/PositionKindCarriesIntoRealTimePinLaw" = some m.cls := findClass_of_methodNamed Bd.named
  have hnm := (name_of_methodNamed Bd.named Bd.method).1
  have X0 : Stand p l e room_1 s m #[(.int p0)] below meth c s₁ [] 0 0 := Stand.of_body Bd
  have e0 : s₁.heap = h0 := by rw [← hh, Bd.state]; rfl
  have N0 := Fr.nil n0
  have pre0 : ∀ t, Steps p.tables e below (s₁.setTop (mkF m 0 #[iv p0, .unset, .unset, .unset] [])) t → Steps p.tables e below (s₁.setTop (entryFrame m #[(.int p0)] maxLocals)) t := fun t k => castTop (own_law10_ef m p0) k
  obtain ⟨_, _, ⟨T1, L1, k1, n1⟩, -, X1, ⟨Lc1, hQ1, l1, y1, z1⟩, st1⟩ := Jvm.LawKit.callS X0 hx (y := (⟨"com/example/holdfast/holdfast/PositionKindCarriesIntoRealTimePinLaw", "kindAt", "(I)Lcom/example/holdfast/holdfast/PositionKind;"⟩ : MethodName)) hown (mvT hZ (hw _ (List.mem_of_getElem? (i := 1) rfl))) (mvT hZ (hw _ (List.mem_of_getElem? (i := 2) rfl))) (mvT hZ (hw _ (List.mem_of_getElem? (i := 3) rfl))) (mvT hZ (hw _ (List.mem_of_getElem? (i := 4) rfl))) (by decide) (backOf (W := 0) (own_p_10 l Z a0 hw [] w_DEMAND_BID w_DECREMENT_BID w_METERED_LOAD w_EXTERNAL_SALE w_IBT_LOAD w_SUPPLY_OFFER w_INCREMENT_OFFER w_METERED_GENERATION w_EXTERNAL_PURCHASE w_IBT_MARKET w_IBT_MARKET_EXCL  h0 n0 O0 U_DEMAND_BID U_DECREMENT_BID U_METERED_LOAD U_EXTERNAL_SALE U_IBT_LOAD U_SUPPLY_OFFER U_INCREMENT_OFFER U_METERED_GENERATION U_EXTERNAL_PURCHASE U_IBT_MARKET U_IBT_MARKET_EXCL ) hZ (hw _ (List.mem_of_getElem? (i := 4) rfl)) (hw _ (List.mem_of_getElem? (i := 3) rfl)) (by decide) (by decide)) (g := (mkF m 9 #[iv p0, iv 10, .unset, .unset] [(.int 10)])) rfl (by rw [hml]; rfl) (argsL := [(.int 10)]) (rest := []) (lenOf own_pd0 rfl) rfl (by show 2 * 0 + _ ≤ _; exact Nat.le_of_eq rfl) (hb hby at_9) (fun _ _ => ⟨rfl, e0, (by decide : 0 + 0 ≤ _), (by decide : 0 + 0 ≤ _)⟩)
  dsimp only [Pt.U, Pt.locs, Pt.cells, Pt.slots] at X1 l1 y1 z1 st1 hQ1
  subst l1 y1 z1
  obtain ⟨rfl, N1q, e1⟩ := hQ1
  have N1 := Fr.app N0 N1q
  obtain ⟨cq2, kq2, q2a, q2b, q2c⟩ := isOf hZ e1 (U_IBT_MARKET_EXCL.2.1.ext O0.2)
  obtain ⟨_, _, ⟨T2, L2, k2, n2⟩, -, X2, ⟨Lc2, hQ2, l2, y2, z2⟩, st2⟩ := X1.virtualBack hx (y := (⟨"com/example/holdfast/holdfast/PositionKind", "carriesIntoRealTime", "()Z"⟩ : MethodName)) (z := (⟨"com/example/holdfast/holdfast/PositionKind", "carriesIntoRealTime", "()Z"⟩ : MethodName)) hown (mvT hZ (hw _ (List.mem_of_getElem? (i := 8) rfl))) (mvT hZ (hw _ (List.mem_of_getElem? (i := 9) rfl))) (notFace_of_selects (args := #[]) (mvT hZ (hw _ (List.mem_of_getElem? (i := 11) rfl)))) (mvT hZ (hw _ (List.mem_of_getElem? (i := 11) rfl))) (mvT hZ (hw _ (List.mem_of_getElem? (i := 10) rfl))) (by decide) (backOf (W := 0) (own_m_IBT_MARKET_EXCL l Z a0 hw [] w_DEMAND_BID w_DECREMENT_BID w_METERED_LOAD w_EXTERNAL_SALE w_IBT_LOAD w_SUPPLY_OFFER w_INCREMENT_OFFER w_METERED_GENERATION w_EXTERNAL_PURCHASE w_IBT_MARKET w_IBT_MARKET_EXCL  h0 n0 O0 U_DEMAND_BID U_DECREMENT_BID U_METERED_LOAD U_EXTERNAL_SALE U_IBT_LOAD U_SUPPLY_OFFER U_INCREMENT_OFFER U_METERED_GENERATION U_EXTERNAL_PURCHASE U_IBT_MARKET U_IBT_MARKET_EXCL ) hZ (hw _ (List.mem_of_getElem? (i := 12) rfl)) (hw _ (List.mem_of_getElem? (i := 6) rfl)) (by decide) (by decide)) q2a q2c (g := (mkF m 32 #[iv p0, iv 10, rv w_IBT_MARKET_EXCL, iv 1] [(.ref w_IBT_MARKET_EXCL)])) rfl (by rw [hml]; rfl) (Steps.refl _) (argsL := []) (rest := []) (lenOf own_pd1 rfl) rfl (by show 2 * 0 + _ ≤ _; exact Nat.le_of_eq rfl) (hb hby at_32) (fun _ _ => ⟨rfl, e1, (by decide : 0 + 0 ≤ _), (by decide : 0 + 0 ≤ _)⟩)
  dsimp only [Pt.U, Pt.locs, Pt.cells, Pt.slots] at X2 l2 y2 z2 st2 hQ2
  subst l2 y2 z2
  obtain ⟨rfl, N2q, e2⟩ := hQ2
  have N2 := Fr.app N1 N2q
  obtain ⟨fs, hr, hrun, hended, hW, hsame⟩ := X2.leave (v := some (.int 1)) (fun h => by rw [Bd.returns] at h; cases h)
  refine ⟨_, _, pre0 _ ?_, hrun, hended, _, _, rfl, ?_, ⟨_, rfl⟩, hW, hsame.mono (by decide) (by decide)⟩
  · show Steps p.tables e below (s₁.setTop (mkF m 0 #[iv p0, .unset, .unset, .unset] [])) _
    refine XS.iloadN X0.here hx rfl (hb hby at_0) rfl ?_
    show Steps p.tables e below (s₁.setTop (mkF m 1 #[iv p0, .unset, .unset, .unset] [(.int p0)])) _
    refine X0.ldcInt hx hown (mvT hZ (hw _ (List.mem_of_getElem? (i := 0) rfl))) (g := (mkF m 1 #[iv p0, .unset, .unset, .unset] [(.int p0)])) rfl (hb hby at_1) _ ?_
    show Steps p.tables e below (s₁.setTop (mkF m 3 #[iv p0, .unset, .unset, .unset] [(.int 2147483647), (.int p0)])) _
    refine XS.iand X0.here hx rfl (hb hby at_3) rfl ?_
    show Steps p.tables e below (s₁.setTop (mkF m 4 #[iv p0, .unset, .unset, .unset] [(.int (p0 &&& (2147483647 : Int32)))])) _
    refine XS.bipush X0.here hx rfl (hb hby at_4) ?_
    show Steps p.tables e below (s₁.setTop (mkF m 6 #[iv p0, .unset, .unset, .unset] [(.int 11), (.int (p0 &&& (2147483647 : Int32)))])) _
    refine iremM X0 hx rfl (hb hby at_6) rfl (by decide) ?_
    show Steps p.tables e below (s₁.setTop (mkF m 7 #[iv p0, .unset, .unset, .unset] [(.int ((p0 &&& (2147483647 : Int32)) % (11 : Int32)))])) _
    refine own_top (v' := (.int 10)) (congrArg Value.int hk) ?_
    show Steps p.tables e below (s₁.setTop (mkF m 7 #[iv p0, .unset, .unset, .unset] [(.int 10)])) _
    refine XS.istoreN X0.here hx rfl (hb hby at_7) rfl (l' := #[iv p0, iv 10, .unset, .unset]) rfl ?_
    show Steps p.tables e below (s₁.setTop (mkF m 8 #[iv p0, iv 10, .unset, .unset] [])) _
    refine XS.iloadN X0.here hx rfl (hb hby at_8) rfl ?_
    show Steps p.tables e below (s₁.setTop (mkF m 9 #[iv p0, iv 10, .unset, .unset] [(.int 10)])) _
    refine st1 _ ?_
    show Steps p.tables e below (T1.setTop (mkF m 12 #[iv p0, iv 10, .unset, .unset] [(.ref w_IBT_MARKET_EXCL)])) _
    refine XS.astoreN X1.here hx rfl (hb hby at_12) rfl rfl (l' := #[iv p0, iv 10, rv w_IBT_MARKET_EXCL, .unset]) rfl ?_
    show Steps p.tables e below (T1.setTop (mkF m 13 #[iv p0, iv 10, rv w_IBT_MARKET_EXCL, .unset] [])) _
    refine XS.iloadN X1.here hx rfl (hb hby at_13) rfl ?_
    show Steps p.tables e below (T1.setTop (mkF m 14 #[iv p0, iv 10, rv w_IBT_MARKET_EXCL, .unset] [(.int 10)])) _
    refine XS.bipush X1.here hx rfl (hb hby at_14) ?_
    show Steps p.tables e below (T1.setTop (mkF m 16 #[iv p0, iv 10, rv w_IBT_MARKET_EXCL, .unset] [(.int 9), (.int 10)])) _
    refine XS.icmpNo X1.here hx rfl (hb hby at_16) rfl (feq (by decide)).1 ?_
    show Steps p.tables e below (T1.setTop (mkF m 19 #[iv p0, iv 10, rv w_IBT_MARKET_EXCL, .unset] [])) _
    refine XS.iloadN X1.here hx rfl (hb hby at_19) rfl ?_
    show Steps p.tables e below (T1.setTop (mkF m 20 #[iv p0, iv 10, rv w_IBT_MARKET_EXCL, .unset] [(.int 10)])) _
    refine XS.bipush X1.here hx rfl (hb hby at_20) ?_
    show Steps p.tables e below (T1.setTop (mkF m 22 #[iv p0, iv 10, rv w_IBT_MARKET_EXCL, .unset] [(.int 10), (.int 10)])) _
    refine XS.icmpNo X1.here hx rfl (hb hby at_22) rfl (teq (by decide)).2 ?_
    show Steps p.tables e below (T1.setTop (mkF m 25 #[iv p0, iv 10, rv w_IBT_MARKET_EXCL, .unset] [])) _
    refine XS.iconst X1.here hx rfl (hb hby at_25) ?_
    show Steps p.tables e below (T1.setTop (mkF m 26 #[iv p0, iv 10, rv w_IBT_MARKET_EXCL, .unset] [(.int 1)])) _
    refine XS.goto X1.here hx rfl (pc0 := 26) (pc' := 30) rfl (hb hby at_26) (by decide) (by decide) ?_
    show Steps p.tables e below (T1.setTop (mkF m 30 #[iv p0, iv 10, rv w_IBT_MARKET_EXCL, .unset] [(.int 1)])) _
    refine XS.istoreN X1.here hx rfl (hb hby at_30) rfl (l' := #[iv p0, iv 10, rv w_IBT_MARKET_EXCL, iv 1]) rfl ?_
    show Steps p.tables e below (T1.setTop (mkF m 31 #[iv p0, iv 10, rv w_IBT_MARKET_EXCL, iv 1] [])) _
    refine XS.aloadN X1.here hx rfl (hb hby at_31) rfl rfl ?_
    show Steps p.tables e below (T1.setTop (mkF m 32 #[iv p0, iv 10, rv w_IBT_MARKET_EXCL, iv 1] [(.ref w_IBT_MARKET_EXCL)])) _
    refine st2.trans ?_
    show Steps p.tables e below (T2.setTop (mkF m 35 #[iv p0, iv 10, rv w_IBT_MARKET_EXCL, iv 1] [(.int 1)])) _
    refine XS.iloadN X2.here hx rfl (hb hby at_35) rfl ?_
    show Steps p.tables e below (T2.setTop (mkF m 36 #[iv p0, iv 10, rv w_IBT_MARKET_EXCL, iv 1] [(.int 1), (.int 1)])) _
    refine XS.icmpNo X2.here hx rfl (hb hby at_36) rfl (teq (by decide)).2 ?_
    show Steps p.tables e below (T2.setTop (mkF m 39 #[iv p0, iv 10, rv w_IBT_MARKET_EXCL, iv 1] [])) _
    refine XS.iconst X2.here hx rfl (hb hby at_39) ?_
    show Steps p.tables e below (T2.setTop (mkF m 40 #[iv p0, iv 10, rv w_IBT_MARKET_EXCL, iv 1] [(.int 1)])) _
    refine XS.goto X2.here hx rfl (pc0 := 40) (pc' := 44) rfl (hb hby at_40) (by decide) (by decide) ?_
    show Steps p.tables e below (T2.setTop (mkF m 44 #[iv p0, iv 10, rv w_IBT_MARKET_EXCL, iv 1] [(.int 1)])) _
    exact retN X2 hx (t := .boolean) Bd.returns (by simp) (hb hby at_44) hr
  · show own_law10_Q Z w_DEMAND_BID w_DECREMENT_BID w_METERED_LOAD w_EXTERNAL_SALE w_IBT_LOAD w_SUPPLY_OFFER w_INCREMENT_OFFER w_METERED_GENERATION w_EXTERNAL_PURCHASE w_IBT_MARKET w_IBT_MARKET_EXCL p0 h0 n0 _ T2.heap _
    rw [e2]
    exact ⟨rfl, N2, trivial⟩
def own_law_Q (h0 : Heap) (n0 : Nat) (v : Option Value) (h : Heap) (L : List Loc) : Prop := v = some (.int 1) ∧ Fr n0 L
theorem own_law (l : Launch) (Z : State) (a0 : Array Value) (hw : ∀ d ∈ tables_1, d.before a0 Z = true) (ws : List Jvm.Cond) (w_DEMAND_BID : Addr) (w_DECREMENT_BID : Addr) (w_METERED_LOAD : Addr) (w_EXTERNAL_SALE : Addr) (w_IBT_LOAD : Addr) (w_SUPPLY_OFFER : Addr) (w_INCREMENT_OFFER : Addr) (w_METERED_GENERATION : Addr) (w_EXTERNAL_PURCHASE : Addr) (w_IBT_MARKET : Addr) (w_IBT_MARKET_EXCL : Addr) (p0 : Int32) (h0 : Heap) (n0 : Nat) (O0 : Old Z n0 h0) (U_DEMAND_BID : own_En Z Z.heap "com/example/holdfast/holdfast/PositionKind" "DEMAND_BID" "Lcom/example/holdfast/holdfast/PositionKind;" w_DEMAND_BID (0 : Int32)) (U_DECREMENT_BID : own_En Z Z.heap "com/example/holdfast/holdfast/PositionKind" "DECREMENT_BID" "Lcom/example/holdfast/holdfast/PositionKind;" w_DECREMENT_BID (1 : Int32)) (U_METERED_LOAD : own_En Z Z.heap "com/example/holdfast/holdfast/PositionKind" "METERED_LOAD" "Lcom/example/holdfast/holdfast/PositionKind;" w_METERED_LOAD (2 : Int32)) (U_EXTERNAL_SALE : own_En Z Z.heap "com/example/holdfast/holdfast/PositionKind" "EXTERNAL_SALE" "Lcom/example/holdfast/holdfast/PositionKind;" w_EXTERNAL_SALE (3 : Int32)) (U_IBT_LOAD : own_En Z Z.heap "com/example/holdfast/holdfast/PositionKind" "IBT_LOAD" "Lcom/example/holdfast/holdfast/PositionKind;" w_IBT_LOAD (4 : Int32)) (U_SUPPLY_OFFER : own_En Z Z.heap "com/example/holdfast/holdfast/PositionKind" "SUPPLY_OFFER" "Lcom/example/holdfast/holdfast/PositionKind;" w_SUPPLY_OFFER (5 : Int32)) (U_INCREMENT_OFFER : own_En Z Z.heap "com/example/holdfast/holdfast/PositionKind" "INCREMENT_OFFER" "Lcom/example/holdfast/holdfast/PositionKind;" w_INCREMENT_OFFER (6 : Int32)) (U_METERED_GENERATION : own_En Z Z.heap "com/example/holdfast/holdfast/PositionKind" "METERED_GENERATION" "Lcom/example/holdfast/holdfast/PositionKind;" w_METERED_GENERATION (7 : Int32)) (U_EXTERNAL_PURCHASE : own_En Z Z.heap "com/example/holdfast/holdfast/PositionKind" "EXTERNAL_PURCHASE" "Lcom/example/holdfast/holdfast/PositionKind;" w_EXTERNAL_PURCHASE (8 : Int32)) (U_IBT_MARKET : own_En Z Z.heap "com/example/holdfast/holdfast/PositionKind" "IBT_MARKET" "Lcom/example/holdfast/holdfast/PositionKind;" w_IBT_MARKET (9 : Int32)) (U_IBT_MARKET_EXCL : own_En Z Z.heap "com/example/holdfast/holdfast/PositionKind" "IBT_MARKET_EXCL" "Lcom/example/holdfast/holdfast/PositionKind;" w_IBT_MARKET_EXCL (10 : Int32)) :
    MetFree l x (head1 (Jvm.Cond.code x code maxLocals ret :: ws) room_1) (fun a U => a = #[(.int p0)] ∧ Z.Warmed39 U.vm ∧ U.heap = h0) (fun _ _ _ _ _ => True) (fun _ U o U' => ∃ v L, o = .returned v ∧ own_law_Q h0 n0 v U'.heap L ∧ FrameEnd U o U' L 0 0) := by
  have weak : ∀ {P Q : Option Value → Heap → List Loc → Prop}, (∀ v h L, P v h L → Q v h L) → MetFree l x (head1 (Jvm.Cond.code x code maxLocals ret :: ws) room_1) (fun a U => a = #[(.int p0)] ∧ Z.Warmed39 U.vm ∧ U.heap = h0) (fun _ _ _ _ _ => True) (fun _ U o U' => ∃ v L, o = .returned v ∧ P v U'.heap L ∧ FrameEnd U o U' L 0 0) → MetFree l x (head1 (Jvm.Cond.code x code maxLocals ret :: ws) room_1) (fun a U => a = #[(.int p0)] ∧ Z.Warmed39 U.vm ∧ U.heap = h0) (fun _ _ _ _ _ => True) (fun _ U o U' => ∃ v L, o = .returned v ∧ Q v U'.heap L ∧ FrameEnd U o U' L 0 0) := by
    intro P Q hPQ hM p e ha hc hk s m args below hf happ hP hK
    obtain ⟨n, o, h1, h2, h3, v, L, h4, h5, h6⟩ := hM p e ha hc hk s m args below hf happ hP hK
    exact ⟨n, o, h1, h2, h3, v, L, h4, hPQ _ _ _ h5, h6⟩
  rcases own_rem11 p0 with hk | hk | hk | hk | hk | hk | hk | hk | hk | hk | hk
  · exact weak (fun _ _ _ q => ⟨q.1, q.2.1⟩) (own_law0 l Z a0 hw ws w_DEMAND_BID w_DECREMENT_BID w_METERED_LOAD w_EXTERNAL_SALE w_IBT_LOAD w_SUPPLY_OFFER w_INCREMENT_OFFER w_METERED_GENERATION w_EXTERNAL_PURCHASE w_IBT_MARKET w_IBT_MARKET_EXCL p0 h0 n0 O0 U_DEMAND_BID U_DECREMENT_BID U_METERED_LOAD U_EXTERNAL_SALE U_IBT_LOAD U_SUPPLY_OFFER U_INCREMENT_OFFER U_METERED_GENERATION U_EXTERNAL_PURCHASE U_IBT_MARKET U_IBT_MARKET_EXCL hk)
  · exact weak (fun _ _ _ q => ⟨q.1, q.2.1⟩) (own_law1 l Z a0 hw ws w_DEMAND_BID w_DECREMENT_BID w_METERED_LOAD w_EXTERNAL_SALE w_IBT_LOAD w_SUPPLY_OFFER w_INCREMENT_OFFER w_METERED_GENERATION w_EXTERNAL_PURCHASE w_IBT_MARKET w_IBT_MARKET_EXCL p0 h0 n0 O0 U_DEMAND_BID U_DECREMENT_BID U_METERED_LOAD U_EXTERNAL_SALE U_IBT_LOAD U_SUPPLY_OFFER U_INCREMENT_OFFER U_METERED_GENERATION U_EXTERNAL_PURCHASE U_IBT_MARKET U_IBT_MARKET_EXCL hk)
  · exact weak (fun _ _ _ q => ⟨q.1, q.2.1⟩) (own_law2 l Z a0 hw ws w_DEMAND_BID w_DECREMENT_BID w_METERED_LOAD w_EXTERNAL_SALE w_IBT_LOAD w_SUPPLY_OFFER w_INCREMENT_OFFER w_METERED_GENERATION w_EXTERNAL_PURCHASE w_IBT_MARKET w_IBT_MARKET_EXCL p0 h0 n0 O0 U_DEMAND_BID U_DECREMENT_BID U_METERED_LOAD U_EXTERNAL_SALE U_IBT_LOAD U_SUPPLY_OFFER U_INCREMENT_OFFER U_METERED_GENERATION U_EXTERNAL_PURCHASE U_IBT_MARKET U_IBT_MARKET_EXCL hk)
  · exact weak (fun _ _ _ q => ⟨q.1, q.2.1⟩) (own_law3 l Z a0 hw ws w_DEMAND_BID w_DECREMENT_BID w_METERED_LOAD w_EXTERNAL_SALE w_IBT_LOAD w_SUPPLY_OFFER w_INCREMENT_OFFER w_METERED_GENERATION w_EXTERNAL_PURCHASE w_IBT_MARKET w_IBT_MARKET_EXCL p0 h0 n0 O0 U_DEMAND_BID U_DECREMENT_BID U_METERED_LOAD U_EXTERNAL_SALE U_IBT_LOAD U_SUPPLY_OFFER U_INCREMENT_OFFER U_METERED_GENERATION U_EXTERNAL_PURCHASE U_IBT_MARKET U_IBT_MARKET_EXCL hk)
  · exact weak (fun _ _ _ q => ⟨q.1, q.2.1⟩) (own_law4 l Z a0 hw ws w_DEMAND_BID w_DECREMENT_BID w_METERED_LOAD w_EXTERNAL_SALE w_IBT_LOAD w_SUPPLY_OFFER w_INCREMENT_OFFER w_METERED_GENERATION w_EXTERNAL_PURCHASE w_IBT_MARKET w_IBT_MARKET_EXCL p0 h0 n0 O0 U_DEMAND_BID U_DECREMENT_BID U_METERED_LOAD U_EXTERNAL_SALE U_IBT_LOAD U_SUPPLY_OFFER U_INCREMENT_OFFER U_METERED_GENERATION U_EXTERNAL_PURCHASE U_IBT_MARKET U_IBT_MARKET_EXCL hk)
  · exact weak (fun _ _ _ q => ⟨q.1, q.2.1⟩) (own_law5 l Z a0 hw ws w_DEMAND_BID w_DECREMENT_BID w_METERED_LOAD w_EXTERNAL_SALE w_IBT_LOAD w_SUPPLY_OFFER w_INCREMENT_OFFER w_METERED_GENERATION w_EXTERNAL_PURCHASE w_IBT_MARKET w_IBT_MARKET_EXCL p0 h0 n0 O0 U_DEMAND_BID U_DECREMENT_BID U_METERED_LOAD U_EXTERNAL_SALE U_IBT_LOAD U_SUPPLY_OFFER U_INCREMENT_OFFER U_METERED_GENERATION U_EXTERNAL_PURCHASE U_IBT_MARKET U_IBT_MARKET_EXCL hk)
  · exact weak (fun _ _ _ q => ⟨q.1, q.2.1⟩) (own_law6 l Z a0 hw ws w_DEMAND_BID w_DECREMENT_BID w_METERED_LOAD w_EXTERNAL_SALE w_IBT_LOAD w_SUPPLY_OFFER w_INCREMENT_OFFER w_METERED_GENERATION w_EXTERNAL_PURCHASE w_IBT_MARKET w_IBT_MARKET_EXCL p0 h0 n0 O0 U_DEMAND_BID U_DECREMENT_BID U_METERED_LOAD U_EXTERNAL_SALE U_IBT_LOAD U_SUPPLY_OFFER U_INCREMENT_OFFER U_METERED_GENERATION U_EXTERNAL_PURCHASE U_IBT_MARKET U_IBT_MARKET_EXCL hk)
  · exact weak (fun _ _ _ q => ⟨q.1, q.2.1⟩) (own_law7 l Z a0 hw ws w_DEMAND_BID w_DECREMENT_BID w_METERED_LOAD w_EXTERNAL_SALE w_IBT_LOAD w_SUPPLY_OFFER w_INCREMENT_OFFER w_METERED_GENERATION w_EXTERNAL_PURCHASE w_IBT_MARKET w_IBT_MARKET_EXCL p0 h0 n0 O0 U_DEMAND_BID U_DECREMENT_BID U_METERED_LOAD U_EXTERNAL_SALE U_IBT_LOAD U_SUPPLY_OFFER U_INCREMENT_OFFER U_METERED_GENERATION U_EXTERNAL_PURCHASE U_IBT_MARKET U_IBT_MARKET_EXCL hk)
  · exact weak (fun _ _ _ q => ⟨q.1, q.2.1⟩) (own_law8 l Z a0 hw ws w_DEMAND_BID w_DECREMENT_BID w_METERED_LOAD w_EXTERNAL_SALE w_IBT_LOAD w_SUPPLY_OFFER w_INCREMENT_OFFER w_METERED_GENERATION w_EXTERNAL_PURCHASE w_IBT_MARKET w_IBT_MARKET_EXCL p0 h0 n0 O0 U_DEMAND_BID U_DECREMENT_BID U_METERED_LOAD U_EXTERNAL_SALE U_IBT_LOAD U_SUPPLY_OFFER U_INCREMENT_OFFER U_METERED_GENERATION U_EXTERNAL_PURCHASE U_IBT_MARKET U_IBT_MARKET_EXCL hk)
  · exact weak (fun _ _ _ q => ⟨q.1, q.2.1⟩) (own_law9 l Z a0 hw ws w_DEMAND_BID w_DECREMENT_BID w_METERED_LOAD w_EXTERNAL_SALE w_IBT_LOAD w_SUPPLY_OFFER w_INCREMENT_OFFER w_METERED_GENERATION w_EXTERNAL_PURCHASE w_IBT_MARKET w_IBT_MARKET_EXCL p0 h0 n0 O0 U_DEMAND_BID U_DECREMENT_BID U_METERED_LOAD U_EXTERNAL_SALE U_IBT_LOAD U_SUPPLY_OFFER U_INCREMENT_OFFER U_METERED_GENERATION U_EXTERNAL_PURCHASE U_IBT_MARKET U_IBT_MARKET_EXCL hk)
  · exact weak (fun _ _ _ q => ⟨q.1, q.2.1⟩) (own_law10 l Z a0 hw ws w_DEMAND_BID w_DECREMENT_BID w_METERED_LOAD w_EXTERNAL_SALE w_IBT_LOAD w_SUPPLY_OFFER w_INCREMENT_OFFER w_METERED_GENERATION w_EXTERNAL_PURCHASE w_IBT_MARKET w_IBT_MARKET_EXCL p0 h0 n0 O0 U_DEMAND_BID U_DECREMENT_BID U_METERED_LOAD U_EXTERNAL_SALE U_IBT_LOAD U_SUPPLY_OFFER U_INCREMENT_OFFER U_METERED_GENERATION U_EXTERNAL_PURCHASE U_IBT_MARKET U_IBT_MARKET_EXCL hk)
set_option maxRecDepth 65536 in
set_option maxHeartbeats 40000000 in
theorem comes_1 {Post : Tables → Env → Array Value → State → Outcome → State → Prop} (hpost : ∀ tb e args s v u, (limb_1_1.after args s (.returned v) u = true ∧ limb_1_2.after args s (.returned v) u = true ∧ True) → FrameEnd s (.returned v) u (Jvm.fieldLocs frame_1_writes args s ++ Jvm.arrayLocs frame_1_arrays args s ++ Jvm.staticLocs frame_1_statics s) 0 0 → Post tb e args s (.returned v) u) :
    ArmFor flags0 classFile x code maxLocals ret World_1 tables_1 room_1 Calls_1 rest_1 Pre_1 Post := by
  intro l hfl _ _ p e ha hc hk s m args below hf hA hF happ hP
  obtain ⟨hcalls, hrest, hpre⟩ := hP
  obtain ⟨-, -, -, hnamed, -, -, -, hat⟩ := (Spec.applies_iff hf).mp happ
  obtain ⟨hg, hn⟩ := and_e (Cond.before_iff.mp (show (Jvm.Cond.and given_1 narrow_1).before args s = true from hpre))
  obtain ⟨hq1, hq2⟩ := and_e hg
  obtain ⟨w0, rfl⟩ : ∃ w0 : Value, args = #[w0] := by
    have hs : args.size = 1 := by simpa [Cond.value, given_1] using hq1
    obtain ⟨L⟩ := args
    match L, hs with
    | [w0], _ => exact ⟨w0, rfl⟩
  have hw := fun d (hd : d ∈ tables_1) => atoms_spec (ws := Jvm.Cond.code x code maxLocals ret :: tables_1) hat d (List.mem_cons_of_mem _ hd)
  have hfit : Fit s := fun {y c} hc i hi => by
    obtain ⟨ha, rfl⟩ := Array.getElem?_eq_some_iff.mp hc
    have q := List.all_eq_true.mp ((Array.all_eq_true_iff_forall_mem.mp hF) _ (Array.getElem_mem ha)) i (List.mem_range.mpr hi)
    simpa [Array.getElem?_eq_getElem hi] using q
  obtain ⟨i0, ei0⟩ := is_v hq2
  obtain rfl : w0 = (.int i0) := Option.some.inj ei0
  obtain ⟨hq3, hq4⟩ := and_e hn
  obtain ⟨hq5, hq6⟩ := and_e hq4
  obtain ⟨hq7, hq8⟩ := and_e hq6
  obtain ⟨hq9, hq10⟩ := and_e hq8
  obtain ⟨hq11, hq12⟩ := and_e hq10
  obtain ⟨hq13, hq14⟩ := and_e hq12
  obtain ⟨hq15, hq16⟩ := and_e hq14
  obtain ⟨hq17, hq18⟩ := and_e hq16
  obtain ⟨hq19, hq20⟩ := and_e hq18
  obtain ⟨hq21, hq22⟩ := and_e hq20
  obtain ⟨hq23, hq24⟩ := and_e hq22
  obtain ⟨hq25, hq26⟩ := and_e hq24
  obtain ⟨hq27, hq28⟩ := and_e hq26
  obtain ⟨hq29, hq30⟩ := and_e hq28
  obtain ⟨hq31, hq32⟩ := and_e hq30
  obtain ⟨hq33, hq34⟩ := and_e hq32
  obtain ⟨hq35, hq36⟩ := and_e hq34
  obtain ⟨hq37, hq38⟩ := and_e hq36
  obtain ⟨hq39, hq40⟩ := and_e hq38
  obtain ⟨hq41, hq42⟩ := and_e hq40
  obtain ⟨hq43, hq44⟩ := and_e hq42
  obtain ⟨w_DEMAND_BID, ev_DEMAND_BID⟩ := exa_v hq3
  have S_DEMAND_BID : Sta s s.heap "com/example/holdfast/holdfast/PositionKind" "DEMAND_BID" "Lcom/example/holdfast/holdfast/PositionKind;" (.ref w_DEMAND_BID) := Sta.start ev_DEMAND_BID (Or.inr ⟨(hw _ (List.mem_of_getElem? (i := 6) rfl)), (hw _ (List.mem_of_getElem? (i := 7) rfl))⟩)
  have E_DEMAND_BID : Exa s s.heap w_DEMAND_BID "com/example/holdfast/holdfast/PositionKind" := Exa.start ev_DEMAND_BID hq3
  have R_DEMAND_BID : Fld s s.heap w_DEMAND_BID "java/lang/Enum" "ordinal" "I" (.int (0 : Int32)) := Fld.start ((fld_at ev_DEMAND_BID).symm.trans (own_eqI hq7))
  have U_DEMAND_BID := And.intro S_DEMAND_BID (And.intro E_DEMAND_BID R_DEMAND_BID)
  obtain ⟨w_DECREMENT_BID, ev_DECREMENT_BID⟩ := exa_v hq31
  have S_DECREMENT_BID : Sta s s.heap "com/example/holdfast/holdfast/PositionKind" "DECREMENT_BID" "Lcom/example/holdfast/holdfast/PositionKind;" (.ref w_DECREMENT_BID) := Sta.start ev_DECREMENT_BID (Or.inr ⟨(hw _ (List.mem_of_getElem? (i := 6) rfl)), (hw _ (List.mem_of_getElem? (i := 27) rfl))⟩)
  have E_DECREMENT_BID : Exa s s.heap w_DECREMENT_BID "com/example/holdfast/holdfast/PositionKind" := Exa.start ev_DECREMENT_BID hq31
  have R_DECREMENT_BID : Fld s s.heap w_DECREMENT_BID "java/lang/Enum" "ordinal" "I" (.int (1 : Int32)) := Fld.start ((fld_at ev_DECREMENT_BID).symm.trans (own_eqI hq33))
  have U_DECREMENT_BID := And.intro S_DECREMENT_BID (And.intro E_DECREMENT_BID R_DECREMENT_BID)
  obtain ⟨w_METERED_LOAD, ev_METERED_LOAD⟩ := exa_v hq27
  have S_METERED_LOAD : Sta s s.heap "com/example/holdfast/holdfast/PositionKind" "METERED_LOAD" "Lcom/example/holdfast/holdfast/PositionKind;" (.ref w_METERED_LOAD) := Sta.start ev_METERED_LOAD (Or.inr ⟨(hw _ (List.mem_of_getElem? (i := 6) rfl)), (hw _ (List.mem_of_getElem? (i := 24) rfl))⟩)
  have E_METERED_LOAD : Exa s s.heap w_METERED_LOAD "com/example/holdfast/holdfast/PositionKind" := Exa.start ev_METERED_LOAD hq27
  have R_METERED_LOAD : Fld s s.heap w_METERED_LOAD "java/lang/Enum" "ordinal" "I" (.int (2 : Int32)) := Fld.start ((fld_at ev_METERED_LOAD).symm.trans (own_eqI hq29))
  have U_METERED_LOAD := And.intro S_METERED_LOAD (And.intro E_METERED_LOAD R_METERED_LOAD)
  obtain ⟨w_EXTERNAL_SALE, ev_EXTERNAL_SALE⟩ := exa_v hq15
  have S_EXTERNAL_SALE : Sta s s.heap "com/example/holdfast/holdfast/PositionKind" "EXTERNAL_SALE" "Lcom/example/holdfast/holdfast/PositionKind;" (.ref w_EXTERNAL_SALE) := Sta.start ev_EXTERNAL_SALE (Or.inr ⟨(hw _ (List.mem_of_getElem? (i := 6) rfl)), (hw _ (List.mem_of_getElem? (i := 18) rfl))⟩)
  have E_EXTERNAL_SALE : Exa s s.heap w_EXTERNAL_SALE "com/example/holdfast/holdfast/PositionKind" := Exa.start ev_EXTERNAL_SALE hq15
  have R_EXTERNAL_SALE : Fld s s.heap w_EXTERNAL_SALE "java/lang/Enum" "ordinal" "I" (.int (3 : Int32)) := Fld.start ((fld_at ev_EXTERNAL_SALE).symm.trans (own_eqI hq17))
  have U_EXTERNAL_SALE := And.intro S_EXTERNAL_SALE (And.intro E_EXTERNAL_SALE R_EXTERNAL_SALE)
  obtain ⟨w_IBT_LOAD, ev_IBT_LOAD⟩ := exa_v hq43
  have S_IBT_LOAD : Sta s s.heap "com/example/holdfast/holdfast/PositionKind" "IBT_LOAD" "Lcom/example/holdfast/holdfast/PositionKind;" (.ref w_IBT_LOAD) := Sta.start ev_IBT_LOAD (Or.inr ⟨(hw _ (List.mem_of_getElem? (i := 6) rfl)), (hw _ (List.mem_of_getElem? (i := 34) rfl))⟩)
  have E_IBT_LOAD : Exa s s.heap w_IBT_LOAD "com/example/holdfast/holdfast/PositionKind" := Exa.start ev_IBT_LOAD hq43
  have R_IBT_LOAD : Fld s s.heap w_IBT_LOAD "java/lang/Enum" "ordinal" "I" (.int (4 : Int32)) := Fld.start ((fld_at ev_IBT_LOAD).symm.trans (own_eqI hq44))
  have U_IBT_LOAD := And.intro S_IBT_LOAD (And.intro E_IBT_LOAD R_IBT_LOAD)
  obtain ⟨w_SUPPLY_OFFER, ev_SUPPLY_OFFER⟩ := exa_v hq35
  have S_SUPPLY_OFFER : Sta s s.heap "com/example/holdfast/holdfast/PositionKind" "SUPPLY_OFFER" "Lcom/example/holdfast/holdfast/PositionKind;" (.ref w_SUPPLY_OFFER) := Sta.start ev_SUPPLY_OFFER (Or.inr ⟨(hw _ (List.mem_of_getElem? (i := 6) rfl)), (hw _ (List.mem_of_getElem? (i := 30) rfl))⟩)
  have E_SUPPLY_OFFER : Exa s s.heap w_SUPPLY_OFFER "com/example/holdfast/holdfast/PositionKind" := Exa.start ev_SUPPLY_OFFER hq35
  have R_SUPPLY_OFFER : Fld s s.heap w_SUPPLY_OFFER "java/lang/Enum" "ordinal" "I" (.int (5 : Int32)) := Fld.start ((fld_at ev_SUPPLY_OFFER).symm.trans (own_eqI hq37))
  have U_SUPPLY_OFFER := And.intro S_SUPPLY_OFFER (And.intro E_SUPPLY_OFFER R_SUPPLY_OFFER)
  obtain ⟨w_INCREMENT_OFFER, ev_INCREMENT_OFFER⟩ := exa_v hq39
  have S_INCREMENT_OFFER : Sta s s.heap "com/example/holdfast/holdfast/PositionKind" "INCREMENT_OFFER" "Lcom/example/holdfast/holdfast/PositionKind;" (.ref w_INCREMENT_OFFER) := Sta.start ev_INCREMENT_OFFER (Or.inr ⟨(hw _ (List.mem_of_getElem? (i := 6) rfl)), (hw _ (List.mem_of_getElem? (i := 32) rfl))⟩)
  have E_INCREMENT_OFFER : Exa s s.heap w_INCREMENT_OFFER "com/example/holdfast/holdfast/PositionKind" := Exa.start ev_INCREMENT_OFFER hq39
  have R_INCREMENT_OFFER : Fld s s.heap w_INCREMENT_OFFER "java/lang/Enum" "ordinal" "I" (.int (6 : Int32)) := Fld.start ((fld_at ev_INCREMENT_OFFER).symm.trans (own_eqI hq41))
  have U_INCREMENT_OFFER := And.intro S_INCREMENT_OFFER (And.intro E_INCREMENT_OFFER R_INCREMENT_OFFER)
  obtain ⟨w_METERED_GENERATION, ev_METERED_GENERATION⟩ := exa_v hq19
  have S_METERED_GENERATION : Sta s s.heap "com/example/holdfast/holdfast/PositionKind" "METERED_GENERATION" "Lcom/example/holdfast/holdfast/PositionKind;" (.ref w_METERED_GENERATION) := Sta.start ev_METERED_GENERATION (Or.inr ⟨(hw _ (List.mem_of_getElem? (i := 6) rfl)), (hw _ (List.mem_of_getElem? (i := 20) rfl))⟩)
  have E_METERED_GENERATION : Exa s s.heap w_METERED_GENERATION "com/example/holdfast/holdfast/PositionKind" := Exa.start ev_METERED_GENERATION hq19
  have R_METERED_GENERATION : Fld s s.heap w_METERED_GENERATION "java/lang/Enum" "ordinal" "I" (.int (7 : Int32)) := Fld.start ((fld_at ev_METERED_GENERATION).symm.trans (own_eqI hq21))
  have U_METERED_GENERATION := And.intro S_METERED_GENERATION (And.intro E_METERED_GENERATION R_METERED_GENERATION)
  obtain ⟨w_EXTERNAL_PURCHASE, ev_EXTERNAL_PURCHASE⟩ := exa_v hq23
  have S_EXTERNAL_PURCHASE : Sta s s.heap "com/example/holdfast/holdfast/PositionKind" "EXTERNAL_PURCHASE" "Lcom/example/holdfast/holdfast/PositionKind;" (.ref w_EXTERNAL_PURCHASE) := Sta.start ev_EXTERNAL_PURCHASE (Or.inr ⟨(hw _ (List.mem_of_getElem? (i := 6) rfl)), (hw _ (List.mem_of_getElem? (i := 22) rfl))⟩)
  have E_EXTERNAL_PURCHASE : Exa s s.heap w_EXTERNAL_PURCHASE "com/example/holdfast/holdfast/PositionKind" := Exa.start ev_EXTERNAL_PURCHASE hq23
  have R_EXTERNAL_PURCHASE : Fld s s.heap w_EXTERNAL_PURCHASE "java/lang/Enum" "ordinal" "I" (.int (8 : Int32)) := Fld.start ((fld_at ev_EXTERNAL_PURCHASE).symm.trans (own_eqI hq25))
  have U_EXTERNAL_PURCHASE := And.intro S_EXTERNAL_PURCHASE (And.intro E_EXTERNAL_PURCHASE R_EXTERNAL_PURCHASE)
  obtain ⟨w_IBT_MARKET, ev_IBT_MARKET⟩ := exa_v hq5
  have S_IBT_MARKET : Sta s s.heap "com/example/holdfast/holdfast/PositionKind" "IBT_MARKET" "Lcom/example/holdfast/holdfast/PositionKind;" (.ref w_IBT_MARKET) := Sta.start ev_IBT_MARKET (Or.inr ⟨(hw _ (List.mem_of_getElem? (i := 6) rfl)), (hw _ (List.mem_of_getElem? (i := 14) rfl))⟩)
  have E_IBT_MARKET : Exa s s.heap w_IBT_MARKET "com/example/holdfast/holdfast/PositionKind" := Exa.start ev_IBT_MARKET hq5
  have R_IBT_MARKET : Fld s s.heap w_IBT_MARKET "java/lang/Enum" "ordinal" "I" (.int (9 : Int32)) := Fld.start ((fld_at ev_IBT_MARKET).symm.trans (own_eqI hq9))
  have U_IBT_MARKET := And.intro S_IBT_MARKET (And.intro E_IBT_MARKET R_IBT_MARKET)
  obtain ⟨w_IBT_MARKET_EXCL, ev_IBT_MARKET_EXCL⟩ := exa_v hq11
  have S_IBT_MARKET_EXCL : Sta s s.heap "com/example/holdfast/holdfast/PositionKind" "IBT_MARKET_EXCL" "Lcom/example/holdfast/holdfast/PositionKind;" (.ref w_IBT_MARKET_EXCL) := Sta.start ev_IBT_MARKET_EXCL (Or.inr ⟨(hw _ (List.mem_of_getElem? (i := 6) rfl)), (hw _ (List.mem_of_getElem? (i := 16) rfl))⟩)
  have E_IBT_MARKET_EXCL : Exa s s.heap w_IBT_MARKET_EXCL "com/example/holdfast/holdfast/PositionKind" := Exa.start ev_IBT_MARKET_EXCL hq11
  have R_IBT_MARKET_EXCL : Fld s s.heap w_IBT_MARKET_EXCL "java/lang/Enum" "ordinal" "I" (.int (10 : Int32)) := Fld.start ((fld_at ev_IBT_MARKET_EXCL).symm.trans (own_eqI hq13))
  have U_IBT_MARKET_EXCL := And.intro S_IBT_MARKET_EXCL (And.intro E_IBT_MARKET_EXCL R_IBT_MARKET_EXCL)
  obtain ⟨n, o, h1, h2, h3, _, L, rfl, ⟨rfl, N⟩, hq⟩ := own_law l s _ hw tables_1 w_DEMAND_BID w_DECREMENT_BID w_METERED_LOAD w_EXTERNAL_SALE w_IBT_LOAD w_SUPPLY_OFFER w_INCREMENT_OFFER w_METERED_GENERATION w_EXTERNAL_PURCHASE w_IBT_MARKET w_IBT_MARKET_EXCL i0 s.heap s.heap.size (Old.start s) U_DEMAND_BID U_DECREMENT_BID U_METERED_LOAD U_EXTERNAL_SALE U_IBT_LOAD U_SUPPLY_OFFER U_INCREMENT_OFFER U_METERED_GENERATION U_EXTERNAL_PURCHASE U_IBT_MARKET U_IBT_MARKET_EXCL p e ha hc hk s m _ below hf ((Spec.applies_iff_loose hf).mp happ).1 ⟨rfl, State.Warmed39.refl s, rfl⟩ trivial
  refine ⟨n, _, h1, h2, h3, hpost _ _ _ _ _ _ ⟨Cond.after_iff.mpr rfl, Cond.after_iff.mpr (eq_i res_at (Term.int_eval (1)) rfl), trivial⟩ ⟨hq.1, hq.2.1, (hq.2.2.sift fun y hy => Or.inr (N y hy)).mono (by decide) (by decide)⟩⟩
theorem main_1_1 : Claimed_1_1 := comes_1 fun _ _ _ _ _ _ h hF => ⟨h.1, hF⟩
theorem main_1_2 : Claimed_1_2 := comes_1 fun _ _ _ _ _ _ h hF => ⟨h.2.1, hF⟩
end Jvm.Pilot.@@N@@
namespace Jvm.Pilot.@@N@@
open Jvm Jvm.ClassFile Sem Op Lib Jvm.Free Jvm.Stand Jvm.Pilot.@@N@@.Jvm.D
/-! MADE BY PROGRAM (witnessworld.py) out of the Statement's table words and the real class files: 12 classes; the members and pool entries that the words name. The judged class is class 1, her method 2. -/
namespace start1
open Jvm.ClassFile
def u (s : String) : CpInfo := .utf8 (stringToUtf16 s)
/-- a pool by its gaps: so many unusable entries, then the entry; so many at the end -/
def gap : Nat → List CpInfo → List CpInfo
  | 0, r => r
  | n + 1, r => .unusable :: gap n r
def poolList (es : List (Nat × CpInfo)) (last : Nat) : List CpInfo := es.foldr (fun e r => gap e.1 (e.2 :: r)) (gap last [])
def pool (es : List (Nat × CpInfo)) (last : Nat) : Array CpInfo := ⟨poolList es last⟩
def fileOf (pool : Array CpInfo) (this : Nat) (attrs : Array Attribute := #[]) (ms : Array MethodInfo := #[]) (fl : Nat := 33) (sup : Nat := 0) (ifs : Array Nat := #[]) (fds : Array FieldInfo := #[]) : ClassFile where
  minorVersion := 0
  majorVersion := 65
  constantPool := pool
  accessFlags := fl
  thisClass := this
  superClass := sup
  interfaces := ifs
  fields := fds
  methods := ms
  attributes := attrs
def plain (name : String) (sup : Option ClassId) : Class where
  name := name
  kind := .ordinary
  loader := none
  accessFlags := 33
  super := sup
  interfaces := #[]
  cf := none
  fields := #[]
  methods := #[]
  instanceTypes := #[]
  staticTypes := #[]
  resolved := #[]
  callSites := []
  init := .initialized
  statics := none
  mirror := none

def pool0 : Array CpInfo := pool [(5, u "<init>"), (0, u "()V"), (1, .class_ 10), (1, u "java/lang/Object")] 113

def k0m0 : Method := { name := "<init>", desc := "()V", sig := { parameters := [], returnType := none }, accessFlags := 1, code := none }
/-- java/lang/Object -/
def k0 : Class := { plain "java/lang/Object" none with
  accessFlags := 33
  interfaces := #[]
  cf := some (fileOf pool0 8 #[] #[{ accessFlags := 1, nameIndex := 5, descriptorIndex := 6, attributes := #[] }] 33 0 #[] #[])
  fields := #[]
  methods := #[k0m0]
  instanceTypes := #[]
  staticTypes := #[]
  resolved := Array.replicate 124 none
  statics := none }

def pool1 : Array CpInfo := pool [(2, .class_ 4), (1, u "java/lang/Object"), (0, u "<init>"), (0, u "()V"), (0, .fieldref 8 9), (0, .class_ 10), (0, .nameAndType 11 12), (0, u "com/example/holdfast/holdfast/PositionKind"), (0, u "DEMAND_BID"), (0, u "Lcom/example/holdfast/holdfast/PositionKind;"), (0, .fieldref 8 14), (0, .nameAndType 15 12), (0, u "DECREMENT_BID"), (0, .fieldref 8 17), (0, .nameAndType 18 12), (0, u "METERED_LOAD"), (0, .fieldref 8 20), (0, .nameAndType 21 12), (0, u "EXTERNAL_SALE"), (0, .fieldref 8 23), (0, .nameAndType 24 12), (0, u "IBT_LOAD"), (0, .fieldref 8 26), (0, .nameAndType 27 12), (0, u "SUPPLY_OFFER"), (0, .fieldref 8 29), (0, .nameAndType 30 12), (0, u "INCREMENT_OFFER"), (0, .fieldref 8 32), (0, .nameAndType 33 12), (0, u "METERED_GENERATION"), (0, .fieldref 8 35), (0, .nameAndType 36 12), (0, u "EXTERNAL_PURCHASE"), (0, .fieldref 8 38), (0, .nameAndType 39 12), (0, u "IBT_MARKET"), (0, .fieldref 8 41), (0, .nameAndType 42 12), (0, u "IBT_MARKET_EXCL"), (0, .integer 2147483647), (0, .methodref 45 46), (0, .class_ 47), (0, .nameAndType 48 49), (0, u "com/example/holdfast/holdfast/PositionKindCarriesIntoRealTimePinLaw"), (0, u "kindAt"), (0, u "(I)Lcom/example/holdfast/holdfast/PositionKind;"), (0, .methodref 8 51), (0, .nameAndType 52 53), (0, u "carriesIntoRealTime"), (0, u "()Z"), (3, u "law"), (0, u "(I)Z")] 2

def k1m0 : Method := { name := "<init>", desc := "()V", sig := { parameters := [], returnType := none }, accessFlags := 2, code := none }
def k1c1 : Code := { maxStack := 2, maxLocals := 1, code := method_2_code, exceptionTable := #[], attributes := #[] }
def k1m1 : Method := { name := "kindAt", desc := "(I)Lcom/example/holdfast/holdfast/PositionKind;", sig := { parameters := [.int], returnType := some (.object "com/example/holdfast/holdfast/PositionKind") }, accessFlags := 10, code := some k1c1 }
def k1c2 : Code := { maxStack := 2, maxLocals := 4, code := code, exceptionTable := #[], attributes := #[] }
def k1m2 : Method := { name := "law", desc := "(I)Z", sig := { parameters := [.int], returnType := some .boolean }, accessFlags := 9, code := some k1c2 }
/-- com/example/holdfast/holdfast/PositionKindCarriesIntoRealTimePinLaw -/
def k1 : Class := { plain "com/example/holdfast/holdfast/PositionKindCarriesIntoRealTimePinLaw" (some 0) with
  accessFlags := 49
  interfaces := #[]
  cf := some (fileOf pool1 45 #[] #[{ accessFlags := 2, nameIndex := 5, descriptorIndex := 6, attributes := #[] }, { accessFlags := 10, nameIndex := 48, descriptorIndex := 49, attributes := #[] }, { accessFlags := 9, nameIndex := 57, descriptorIndex := 58, attributes := #[] }] 49 2 #[] #[])
  fields := #[]
  methods := #[k1m0, k1m1, k1m2]
  instanceTypes := #[]
  staticTypes := #[]
  resolved := Array.replicate 61 none
  statics := none }

def pool2 : Array CpInfo := pool [(1, .class_ 2), (0, u "java/lang/constant/Constable"), (0, .class_ 4), (0, u "java/lang/Object")] 6

/-- java/lang/constant/Constable -/
def k2 : Class := { plain "java/lang/constant/Constable" (some 0) with
  accessFlags := 1537
  interfaces := #[]
  cf := some (fileOf pool2 1 #[] #[] 1537 3 #[] #[])
  fields := #[]
  methods := #[]
  instanceTypes := #[]
  staticTypes := #[]
  resolved := Array.replicate 11 none
  statics := none }

def pool3 : Array CpInfo := pool [(1, .class_ 2), (0, u "java/lang/Comparable"), (0, .class_ 4), (0, u "java/lang/Object")] 7

/-- java/lang/Comparable -/
def k3 : Class := { plain "java/lang/Comparable" (some 0) with
  accessFlags := 1537
  interfaces := #[]
  cf := some (fileOf pool3 1 #[] #[] 1537 3 #[] #[])
  fields := #[]
  methods := #[]
  instanceTypes := #[]
  staticTypes := #[]
  resolved := Array.replicate 12 none
  statics := none }

def pool4 : Array CpInfo := pool [(1, .class_ 2), (0, u "java/io/Serializable"), (0, .class_ 4), (0, u "java/lang/Object")] 2

/-- java/io/Serializable -/
def k4 : Class := { plain "java/io/Serializable" (some 0) with
  accessFlags := 1537
  interfaces := #[]
  cf := some (fileOf pool4 1 #[] #[] 1537 3 #[] #[])
  fields := #[]
  methods := #[]
  instanceTypes := #[]
  staticTypes := #[]
  resolved := Array.replicate 7 none
  statics := none }

def pool5 : Array CpInfo := pool [(2, .class_ 4), (1, u "java/lang/Enum"), (0, u "name"), (0, u "Ljava/lang/String;"), (2, u "ordinal"), (0, u "I"), (1, .class_ 14), (1, u "java/lang/Object"), (4, u "hash"), (86, .class_ 108), (1, u "java/lang/Enum$EnumDesc"), (2, .class_ 112), (0, u "java/lang/constant/Constable"), (0, .class_ 114), (0, u "java/lang/Comparable"), (0, .class_ 116), (0, u "java/io/Serializable")] 87

/-- java/lang/Enum -/
def k5 : Class := { plain "java/lang/Enum" (some 0) with
  accessFlags := 1057
  interfaces := #[2, 3, 4]
  cf := some (fileOf pool5 2 #[.nestMembers #[106]] #[] 1057 12 #[111, 113, 115] #[{ accessFlags := 18, nameIndex := 5, descriptorIndex := 6, attributes := #[] }, { accessFlags := 18, nameIndex := 9, descriptorIndex := 10, attributes := #[] }, { accessFlags := 2, nameIndex := 19, descriptorIndex := 10, attributes := #[] }])
  fields := #[{ name := "name", type := (.object "java/lang/String"), accessFlags := 18, slot := 0, constantValue := 0 }, { name := "ordinal", type := .int, accessFlags := 18, slot := 1, constantValue := 0 }, { name := "hash", type := .int, accessFlags := 2, slot := 2, constantValue := 0 }]
  methods := #[]
  instanceTypes := #[(.object "java/lang/String"), .int, .int]
  staticTypes := #[]
  resolved := Array.replicate 204 none
  statics := none }

def pool6 : Array CpInfo := pool [(1, .class_ 2), (0, u "com/example/holdfast/holdfast/PositionKind"), (2, u "DEMAND_BID"), (0, u "Lcom/example/holdfast/holdfast/PositionKind;"), (2, u "DECREMENT_BID"), (2, u "METERED_LOAD"), (2, u "EXTERNAL_SALE"), (2, u "IBT_LOAD"), (2, u "SUPPLY_OFFER"), (2, u "INCREMENT_OFFER"), (2, u "METERED_GENERATION"), (2, u "EXTERNAL_PURCHASE"), (0, .fieldref 1 32), (0, .nameAndType 33 6), (0, u "IBT_MARKET"), (0, .fieldref 1 35), (0, .nameAndType 36 6), (0, u "IBT_MARKET_EXCL"), (2, u "$VALUES"), (0, u "[Lcom/example/holdfast/holdfast/PositionKind;"), (6, .class_ 49), (1, u "java/lang/Enum"), (8, u "sign"), (0, u "Lcom/example/holdfast/holdfast/PositionKind$Sign;"), (8, u "markets"), (0, u "Ljava/util/Set;"), (28, u "LABELS"), (0, u "Ljava/util/Map;"), (16, .class_ 118), (1, u "com/example/holdfast/holdfast/PositionKind$Sign"), (79, u "carriesIntoRealTime"), (0, u "()Z")] 44

def k6c0 : Code := { maxStack := 2, maxLocals := 1, code := prog_23_method_6_code, exceptionTable := #[], attributes := #[] }
def k6m0 : Method := { name := "carriesIntoRealTime", desc := "()Z", sig := { parameters := [], returnType := some .boolean }, accessFlags := 0, code := some k6c0 }
/-- com/example/holdfast/holdfast/PositionKind -/
def k6 : Class := { plain "com/example/holdfast/holdfast/PositionKind" (some 5) with
  accessFlags := 16432
  interfaces := #[]
  cf := some (fileOf pool6 1 #[.nestMembers #[116]] #[{ accessFlags := 0, nameIndex := 198, descriptorIndex := 199, attributes := #[] }] 16432 47 #[] #[{ accessFlags := 16409, nameIndex := 5, descriptorIndex := 6, attributes := #[] }, { accessFlags := 16409, nameIndex := 9, descriptorIndex := 6, attributes := #[] }, { accessFlags := 16409, nameIndex := 12, descriptorIndex := 6, attributes := #[] }, { accessFlags := 16409, nameIndex := 15, descriptorIndex := 6, attributes := #[] }, { accessFlags := 16409, nameIndex := 18, descriptorIndex := 6, attributes := #[] }, { accessFlags := 16409, nameIndex := 21, descriptorIndex := 6, attributes := #[] }, { accessFlags := 16409, nameIndex := 24, descriptorIndex := 6, attributes := #[] }, { accessFlags := 16409, nameIndex := 27, descriptorIndex := 6, attributes := #[] }, { accessFlags := 16409, nameIndex := 30, descriptorIndex := 6, attributes := #[] }, { accessFlags := 16409, nameIndex := 33, descriptorIndex := 6, attributes := #[] }, { accessFlags := 16409, nameIndex := 36, descriptorIndex := 6, attributes := #[] }, { accessFlags := 26, nameIndex := 98, descriptorIndex := 99, attributes := #[] }, { accessFlags := 18, nameIndex := 58, descriptorIndex := 59, attributes := #[] }, { accessFlags := 18, nameIndex := 68, descriptorIndex := 69, attributes := #[] }, { accessFlags := 4122, nameIndex := 39, descriptorIndex := 40, attributes := #[] }])
  fields := #[{ name := "DEMAND_BID", type := (.object "com/example/holdfast/holdfast/PositionKind"), accessFlags := 16409, slot := 0, constantValue := 0 }, { name := "DECREMENT_BID", type := (.object "com/example/holdfast/holdfast/PositionKind"), accessFlags := 16409, slot := 1, constantValue := 0 }, { name := "METERED_LOAD", type := (.object "com/example/holdfast/holdfast/PositionKind"), accessFlags := 16409, slot := 2, constantValue := 0 }, { name := "EXTERNAL_SALE", type := (.object "com/example/holdfast/holdfast/PositionKind"), accessFlags := 16409, slot := 3, constantValue := 0 }, { name := "IBT_LOAD", type := (.object "com/example/holdfast/holdfast/PositionKind"), accessFlags := 16409, slot := 4, constantValue := 0 }, { name := "SUPPLY_OFFER", type := (.object "com/example/holdfast/holdfast/PositionKind"), accessFlags := 16409, slot := 5, constantValue := 0 }, { name := "INCREMENT_OFFER", type := (.object "com/example/holdfast/holdfast/PositionKind"), accessFlags := 16409, slot := 6, constantValue := 0 }, { name := "METERED_GENERATION", type := (.object "com/example/holdfast/holdfast/PositionKind"), accessFlags := 16409, slot := 7, constantValue := 0 }, { name := "EXTERNAL_PURCHASE", type := (.object "com/example/holdfast/holdfast/PositionKind"), accessFlags := 16409, slot := 8, constantValue := 0 }, { name := "IBT_MARKET", type := (.object "com/example/holdfast/holdfast/PositionKind"), accessFlags := 16409, slot := 9, constantValue := 0 }, { name := "IBT_MARKET_EXCL", type := (.object "com/example/holdfast/holdfast/PositionKind"), accessFlags := 16409, slot := 10, constantValue := 0 }, { name := "LABELS", type := (.object "java/util/Map"), accessFlags := 26, slot := 11, constantValue := 0 }, { name := "sign", type := (.object "com/example/holdfast/holdfast/PositionKind$Sign"), accessFlags := 18, slot := 3, constantValue := 0 }, { name := "markets", type := (.object "java/util/Set"), accessFlags := 18, slot := 4, constantValue := 0 }, { name := "$VALUES", type := (.array (.object "com/example/holdfast/holdfast/PositionKind")), accessFlags := 4122, slot := 12, constantValue := 0 }]
  methods := #[k6m0]
  instanceTypes := #[(.object "java/lang/String"), .int, .int, (.object "com/example/holdfast/holdfast/PositionKind$Sign"), (.object "java/util/Set")]
  staticTypes := #[(.object "com/example/holdfast/holdfast/PositionKind"), (.object "com/example/holdfast/holdfast/PositionKind"), (.object "com/example/holdfast/holdfast/PositionKind"), (.object "com/example/holdfast/holdfast/PositionKind"), (.object "com/example/holdfast/holdfast/PositionKind"), (.object "com/example/holdfast/holdfast/PositionKind"), (.object "com/example/holdfast/holdfast/PositionKind"), (.object "com/example/holdfast/holdfast/PositionKind"), (.object "com/example/holdfast/holdfast/PositionKind"), (.object "com/example/holdfast/holdfast/PositionKind"), (.object "com/example/holdfast/holdfast/PositionKind"), (.object "java/util/Map"), (.array (.object "com/example/holdfast/holdfast/PositionKind"))]
  resolved := Array.replicate 244 none
  statics := some 0 }

def pool7 : Array CpInfo := pool [(1, u "java/lang/Cloneable"), (0, .class_ 1), (0, u "java/lang/Object"), (0, .class_ 3)] 3

/-- java/lang/Cloneable -/
def k7 : Class := { plain "java/lang/Cloneable" (some 0) with
  accessFlags := 1537
  interfaces := #[]
  cf := some (fileOf pool7 2 #[] #[] 1537 4 #[] #[])
  fields := #[]
  methods := #[]
  instanceTypes := #[]
  staticTypes := #[]
  resolved := Array.replicate 8 none
  statics := none }

/-- the primitive byte -/
def k8 : Class := { plain "byte" none with kind := .primitive 'B', accessFlags := 0x411 }
/-- [B -/
def k9 : Class := { plain "[B" (some 0) with kind := .array 8 .byte, interfaces := #[7, 4], accessFlags := 1041 }

/-- the primitive int -/
def k10 : Class := { plain "int" none with kind := .primitive 'I', accessFlags := 0x411 }
/-- [I -/
def k11 : Class := { plain "[I" (some 0) with kind := .array 10 .int, interfaces := #[7, 4], accessFlags := 1041 }

def heap : Heap := #[{ cls := 6, slots := #[.ref 1, .ref 8, .ref 7, .ref 4, .ref 11, .ref 9, .ref 10, .ref 5, .ref 6, .ref 2, .ref 3, .null, .null], vm := .statics 6 },
  { cls := 6, slots := #[.null, .int 0, .int 0, .null, .null], vm := .none },
  { cls := 6, slots := #[.null, .int 9, .int 0, .null, .null], vm := .none },
  { cls := 6, slots := #[.null, .int 10, .int 0, .null, .null], vm := .none },
  { cls := 6, slots := #[.null, .int 3, .int 0, .null, .null], vm := .none },
  { cls := 6, slots := #[.null, .int 7, .int 0, .null, .null], vm := .none },
  { cls := 6, slots := #[.null, .int 8, .int 0, .null, .null], vm := .none },
  { cls := 6, slots := #[.null, .int 2, .int 0, .null, .null], vm := .none },
  { cls := 6, slots := #[.null, .int 1, .int 0, .null, .null], vm := .none },
  { cls := 6, slots := #[.null, .int 5, .int 0, .null, .null], vm := .none },
  { cls := 6, slots := #[.null, .int 6, .int 0, .null, .null], vm := .none },
  { cls := 6, slots := #[.null, .int 4, .int 0, .null, .null], vm := .none }]
def classes : Array Class := #[k0, k1, k2, k3, k4, k5, k6, k7, k8, k9, k10, k11]
def interned : List (Array UInt16 × Addr) := []
def slotsUsed : Nat := 68
def theMethod : MethodId := ⟨1, 2⟩
def args0 : Array Value := #[.int 5]
def aboutOver (below : List Frame) : State where
  vm := { classes := classes, interned := interned.toArray }
  heap := heap
  slotsUsed := slotsUsed
  threads := #[{ frames := .invoking theMethod args0 :: below }]
def below0 : List Frame := [.native { method := ⟨0, 0⟩, args := #[] }]
def about1 : State := aboutOver below0
def p0 : Program := .bare "" "" ""
def e0 : Env := launch0.env 0 0 0
theorem w_frames : about1.frames = Frame.invoking theMethod args0 :: below0 := rfl
set_option maxRecDepth 65536 in
theorem w_args : argsFit about1.vm theMethod args0 = true := by decide +kernel
set_option maxRecDepth 65536 in
theorem w_heap : heapFits about1 = true := by decide +kernel
set_option maxRecDepth 65536 in
theorem w_runnable : about1.curStatus? = some .runnable := by decide +kernel
set_option maxRecDepth 65536 in
theorem w_alone : about1.alone = true := by decide +kernel
set_option maxRecDepth 65536 in
theorem w_named : about1.methodNamed? x = some theMethod := by decide +kernel
set_option maxRecDepth 65536 in
theorem w_hears : about1.hears theMethod below0 = true := by decide +kernel
set_option maxRecDepth 65536 in
theorem w_ripe : about1.ripe theMethod args0 below0 = true := by decide +kernel
theorem w_running : about1.status = .running := rfl
set_option maxRecDepth 65536 in
theorem w_room : about1.hasRoom e0.platform room_1 = true :=
  launch0.hasRoom_least _ room_1 (by decide +kernel) (by decide +kernel) (by decide +kernel) (by decide +kernel) (by decide +kernel) (by decide +kernel)
theorem allAtoms_all (ts : List Jvm.Cond) (a : Array Jvm.Value) (st : Jvm.State) : (allAtoms ts).before a st = ts.all (fun c => c.before a st) := by
  induction ts with
  | nil => rfl
  | cons c t ih =>
    show (Jvm.Cond.and c (allAtoms t)).before a st = _
    rw [Jvm.Cond.before_and, ih, List.all_cons]
def words1 : List Jvm.Cond := Jvm.Cond.code x code maxLocals ret :: tables_1
/-- a 'code' word, met by the world's own term for the bytes: nothing is compared byte by byte -/
theorem code_word {y : MethodName} {bytes : ByteArray} {mx : Nat} {rt : Option FieldType} {a : Array Value} {s : State} {m : MethodId} {meth : Method} {c : Code} (h1 : s.methodNamed? y = some m) (h2 : s.vm.method? m = some meth) (h3 : meth.code = some c) (h4 : c.code = bytes)
    (h5 : (c.maxLocals == mx && c.exceptionTable.isEmpty && decide (c.maxStack ≤ mostOperands) && decide (meth.sig.returnType = rt) && !meth.locks && decide (parseMethodDescriptor y.desc = some meth.sig)) = true) : (Jvm.Cond.code y bytes mx rt).before a s = true := by
  simp only [Bool.and_eq_true, beq_iff_eq, Bool.not_eq_true', decide_eq_true_eq] at h5
  obtain ⟨⟨⟨⟨⟨g1, g2⟩, g3⟩, g4⟩, g5⟩, g6⟩ := h5
  simp [Cond.before, Cond.holds, Cond.value, h1, h2, h3, h4, g1, g2, g3, g4, g5, g6]
def isCode : Jvm.Cond → Bool
  | .code _ _ _ _ => true
  | _ => false
theorem all_split {L : List Jvm.Cond} {P : Jvm.Cond → Bool} (h1 : L.all (fun c => isCode c || P c) = true) (h2 : ∀ c ∈ L.filter isCode, P c = true) : L.all P = true := by
  refine List.all_eq_true.mpr fun c hc => ?_
  have h := List.all_eq_true.mp h1 c hc
  rcases Bool.eq_false_or_eq_true (isCode c) with hi | hi
  · exact h2 c (List.mem_filter.mpr ⟨hc, hi⟩)
  · simpa [hi] using h
set_option maxRecDepth 65536 in
theorem w_c0 : (Jvm.Cond.code x code maxLocals ret).before args0 about1 = true := code_word (m := ⟨1, 2⟩) (meth := k1m2) (c := k1c2) (by decide +kernel) rfl rfl rfl (by decide +kernel)
set_option maxRecDepth 65536 in
theorem w_c1 : (Jvm.Cond.code ({ cls := "com/example/holdfast/holdfast/PositionKindCarriesIntoRealTimePinLaw", name := "kindAt", desc := "(I)Lcom/example/holdfast/holdfast/PositionKind;" } : Jvm.MethodName) method_2_code (1 : Nat) (Option.some (Jvm.ClassFile.FieldType.object "com/example/holdfast/holdfast/PositionKind"))).before args0 about1 = true := code_word (m := ⟨1, 1⟩) (meth := k1m1) (c := k1c1) (by decide +kernel) rfl rfl rfl (by decide +kernel)
set_option maxRecDepth 65536 in
theorem w_c2 : (Jvm.Cond.code ({ cls := "com/example/holdfast/holdfast/PositionKind", name := "carriesIntoRealTime", desc := "()Z" } : Jvm.MethodName) prog_23_method_6_code (1 : Nat) (Option.some Jvm.ClassFile.FieldType.boolean)).before args0 about1 = true := code_word (m := ⟨6, 0⟩) (meth := k6m0) (c := k6c0) (by decide +kernel) rfl rfl rfl (by decide +kernel)
def codes1 : List Jvm.Cond := [Jvm.Cond.code x code maxLocals ret, Jvm.Cond.code ({ cls := "com/example/holdfast/holdfast/PositionKindCarriesIntoRealTimePinLaw", name := "kindAt", desc := "(I)Lcom/example/holdfast/holdfast/PositionKind;" } : Jvm.MethodName) method_2_code (1 : Nat) (Option.some (Jvm.ClassFile.FieldType.object "com/example/holdfast/holdfast/PositionKind")), Jvm.Cond.code ({ cls := "com/example/holdfast/holdfast/PositionKind", name := "carriesIntoRealTime", desc := "()Z" } : Jvm.MethodName) prog_23_method_6_code (1 : Nat) (Option.some Jvm.ClassFile.FieldType.boolean)]
set_option maxRecDepth 65536 in
theorem codes_eq : words1.filter isCode = codes1 := rfl
theorem w_codes : ∀ c ∈ words1.filter isCode, c.before args0 about1 = true := by
  rw [codes_eq]
  intro c hc
  simp only [codes1, List.mem_cons, List.not_mem_nil, or_false] at hc
  rcases hc with rfl | rfl | rfl
  · exact w_c0
  · exact w_c1
  · exact w_c2
set_option maxRecDepth 65536 in
theorem w_t1 : (words1.take 24).all (fun c => isCode c || c.before args0 about1) = true := by decide +kernel
set_option maxRecDepth 65536 in
theorem w_t2 : (words1.drop 24).all (fun c => isCode c || c.before args0 about1) = true := by decide +kernel
theorem w_tables : (allAtoms (Jvm.Cond.code x code maxLocals ret :: tables_1)).before args0 about1 = true := by
  rw [allAtoms_all]
  show words1.all (fun c => c.before args0 about1) = true
  refine all_split ?_ w_codes
  rw [← List.take_append_drop 24 words1, List.all_append, w_t1, w_t2]
  rfl
set_option maxRecDepth 65536 in
theorem w_case : (Jvm.Cond.and given_1 narrow_1).before args0 about1 = true := by decide +kernel
theorem w_applies : (headSpec (Jvm.Cond.code x code maxLocals ret :: tables_1) room_1).applies x e0.platform about1 = true :=
  (Spec.applies_iff w_frames).mpr ⟨w_running, w_runnable, w_alone, w_named, w_hears, w_ripe, w_room, w_tables⟩
theorem atStart : AtStart classFile x code maxLocals ret World_1 tables_1 room_1 Calls_1 rest_1 Pre_1 launch0 p0 e0 about1 theMethod args0 below0 :=
  ⟨lists_1, trivial, launch0.admits_env _ _ _, launch0.least_env, fairChoices_fair.cas, fairChoices_fair.clock, w_frames, w_args, w_heap, w_applies, trivial, trivial, w_case⟩
end start1
theorem witness_1 : WitnessClaimed_1 := ⟨start1.p0, start1.e0, start1.about1, start1.theMethod, start1.args0, start1.below0, start1.atStart⟩
end Jvm.Pilot.@@N@@
