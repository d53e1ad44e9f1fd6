import JvmDerived
import JvmDerived.Pilot.@@N@@Statement
import JvmDerived.Pilot.@@N@@Code
set_option linter.unusedVariables false
set_option linter.unusedSimpArgs false
namespace Jvm.Pilot.@@N@@
open Jvm Jvm.ClassFile Sem Op Lib Jvm.Free Jvm.Stand Jvm.LawKit Jvm.RoadKit Jvm.Free.Fl Bundle Jvm.Pilot.@@N@@.Jvm.D
/-- from here the run comes to some end at which G holds -/
def Gl (tb : Tables) (e : Env) (below : List Frame) (T : State) (g : JFrame) (G : State → Prop) : Prop := ∃ s₂, Steps tb e below (T.setTop g) s₂ ∧ G s₂
theorem Gl.via {tb : Tables} {e : Env} {below : List Frame} {T T' : State} {g g' : JFrame} {G : State → Prop} (st : ∀ t, Steps tb e below (T'.setTop g') t → Steps tb e below (T.setTop g) t) (k : Gl tb e below T' g' G) : Gl tb e below T g G := by
  obtain ⟨s₂, h1, h2⟩ := k
  exact ⟨s₂, st _ h1, h2⟩
theorem Gl.fin {tb : Tables} {e : Env} {below : List Frame} {T U : State} {g : JFrame} {G : State → Prop} (st : Steps tb e below (T.setTop g) U) (k : G U) : Gl tb e below T g G := ⟨U, st, k⟩
theorem pn_0 : plainName "java/lang/Record" = true := by first | (simp [plainName, overriddenIn]; done) | decide +kernel
theorem d3_0 : decode jdk_30_method_1_code 0 = .ok (.aload_n 0, 1) := by decide +kernel
theorem d3_1 : decode jdk_30_method_1_code 1 = .ok (.invokespecial 1, 3) := by decide +kernel
theorem d3_4 : decode jdk_30_method_1_code 4 = .ok (.return_, 1) := by decide +kernel
theorem ef_rec_init (m : MethodId) (x0 : Addr) : entryFrame m #[(.ref x0)] 1 = mkF m 0 #[.val (.ref x0)] [] := by first | (simp [entryFrame, mkF, argsToLocals, Value.category]; done) | rfl | (simp [entryFrame, mkF, argsToLocals, *]; done)
def Q_rec_init (Z : State) (ra : Addr) (h0 : Heap) (n0 : Nat) (v : Option Value) (h : Heap) (L : List Loc) : Prop := v = none ∧ Fr n0 L ∧ h = h0
set_option maxRecDepth 65536 in
set_option maxHeartbeats 40000000 in
theorem rec_init (l : Launch) (Z : State) (a0 : Array Value) (hw : ∀ d ∈ tables_1, d.before a0 Z = true) (ws : List Jvm.Cond) (ra : Addr) (h0 : Heap) (n0 : Nat) (Z0 : n0 ≤ h0.size) :
    MetFree l (⟨"java/lang/Record", "<init>", "()V"⟩ : MethodName) (head1 (Jvm.Cond.code (⟨"java/lang/Record", "<init>", "()V"⟩ : MethodName) jdk_30_method_1_code 1 none :: ws) ({ frames := 1, cells := 0, slots := 0, locals := 12 } : Room)) (fun a U => a = #[(.ref ra)] ∧ Z.Warmed39 U.vm ∧ U.heap = h0) (fun _ _ _ _ _ => True) (fun _ U o U' => ∃ v L, o = .returned v ∧ Q_rec_init Z ra h0 n0 v U'.heap L ∧ FrameEnd U o U' L ({ frames := 1, cells := 0, slots := 0, locals := 12 } : Room).cells ({ frames := 1, cells := 0, slots := 0, locals := 12 } : Room).slots) := by
  refine MetFree.of_bodySF (plainFor_of_name pn_0) hisR ?_
  intro p e s m args below meth c s₁ Bd hml0 hP hK
  obtain ⟨rfl, hZ, hh⟩ := hP
  have hx := Bd.exec
  have hby := Bd.bytes
  have hml : c.maxLocals = 1 := hml0
  have hown : s.vm.findClass "java/lang/Record" = some m.cls := findClass_of_methodNamed Bd.named
  have hnm := (name_of_methodNamed Bd.named Bd.method).1
  have X0 : Stand p l e ({ frames := 1, cells := 0, slots := 0, locals := 12 } : Room) s m #[(.ref ra)] below meth c s₁ [] 0 0 := Stand.of_body Bd
  have e0 : s₁.heap = h0 := by rw [← hh, Bd.state]; rfl
  have N0 := Fr.nil n0
  obtain ⟨G, hG⟩ : ∃ G : State → Prop, G = (fun U' => ∃ o, U'.status = .running ∧ Ended U' below o ∧ ∃ v L, o = .returned v ∧ Q_rec_init Z ra h0 n0 v U'.heap L ∧ FrameEnd s o U' L ({ frames := 1, cells := 0, slots := 0, locals := 12 } : Room).cells ({ frames := 1, cells := 0, slots := 0, locals := 12 } : Room).slots) := ⟨_, rfl⟩
  suffices key : Gl p.tables e below s₁ (mkF m 0 #[.val (.ref ra)] []) G by
    obtain ⟨s₂, k1, k2⟩ := key
    rw [hG] at k2
    obtain ⟨o, k3, k4, k5⟩ := k2
    exact ⟨s₂, o, castTop (ef_rec_init m ra) k1, k3, k4, k5⟩
  show Gl p.tables e below s₁ (mkF m 0 #[.val (.ref ra)] []) G
  refine Gl.via (fun _ k => XS.aloadN X0.here hx rfl (hb hby d3_0) rfl rfl k) ?_
  show Gl p.tables e below s₁ (mkF m 1 #[.val (.ref ra)] [(.ref ra)]) G
  obtain ⟨T1, X1, e1, st1⟩ := initO X0 hx hZ hown (hw _ (List.mem_of_getElem? (i := 17) rfl)) (hw _ (List.mem_of_getElem? (i := 18) rfl)) (hw _ (List.mem_of_getElem? (i := 19) rfl)) e0 (g := (mkF m 1 #[.val (.ref ra)] [(.ref ra)])) rfl (by rw [hml]; rfl) rfl (hb hby d3_1) (by decide) (W := 0) (by show 2 * 0 + _ ≤ _; exact Nat.le_of_eq rfl) (by decide)
  refine Gl.via st1 ?_
  show Gl p.tables e below T1 (mkF m 4 #[.val (.ref ra)] []) G
  obtain ⟨fs, hr, hrun, hended, hW, hsame⟩ := X1.leave (v := none) (fun _ => rfl)
  have hq : ∀ L, Fr n0 L → Q_rec_init Z ra h0 n0 (none) T1.heap L := by
    intro L hN
    rw [e1]
    exact ⟨rfl, hN, rfl⟩
  rw [hG]
  exact Gl.fin (X1.returnOut hx Bd.returns (hb hby d3_4) hr) ⟨_, hrun, hended, _, _, rfl, hq _ N0, ⟨_, rfl⟩, hW, hsame.mono (by decide) (by decide)⟩
theorem pn_1 : plainName "com/example/fail_to_forward/failtoforward/CircuitBreakerSettings" = true := by first | (simp [plainName, overriddenIn]; done) | decide +kernel
theorem d2_0 : decode prog_4_method_1_code 0 = .ok (.aload_n 0, 1) := by decide +kernel
theorem d2_1 : decode prog_4_method_1_code 1 = .ok (.invokespecial 1, 3) := by decide +kernel
theorem pd_0 : parseMethodDescriptor "()V" = some ⟨[], none⟩ := by decide +kernel
theorem d2_4 : decode prog_4_method_1_code 4 = .ok (.aload_n 0, 1) := by decide +kernel
theorem d2_5 : decode prog_4_method_1_code 5 = .ok (.fload_n 1, 1) := by decide +kernel
theorem d2_6 : decode prog_4_method_1_code 6 = .ok (.putfield 7, 3) := by decide +kernel
theorem d2_9 : decode prog_4_method_1_code 9 = .ok (.aload_n 0, 1) := by decide +kernel
theorem d2_10 : decode prog_4_method_1_code 10 = .ok (.iload_n 2, 1) := by decide +kernel
theorem d2_11 : decode prog_4_method_1_code 11 = .ok (.putfield 13, 3) := by decide +kernel
theorem d2_14 : decode prog_4_method_1_code 14 = .ok (.aload_n 0, 1) := by decide +kernel
theorem d2_15 : decode prog_4_method_1_code 15 = .ok (.iload_n 3, 1) := by decide +kernel
theorem d2_16 : decode prog_4_method_1_code 16 = .ok (.putfield 17, 3) := by decide +kernel
theorem d2_19 : decode prog_4_method_1_code 19 = .ok (.aload_n 0, 1) := by decide +kernel
theorem d2_20 : decode prog_4_method_1_code 20 = .ok (.lload 4, 2) := by decide +kernel
theorem d2_22 : decode prog_4_method_1_code 22 = .ok (.putfield 20, 3) := by decide +kernel
theorem d2_25 : decode prog_4_method_1_code 25 = .ok (.aload_n 0, 1) := by decide +kernel
theorem d2_26 : decode prog_4_method_1_code 26 = .ok (.iload 6, 2) := by decide +kernel
theorem d2_28 : decode prog_4_method_1_code 28 = .ok (.putfield 24, 3) := by decide +kernel
theorem d2_31 : decode prog_4_method_1_code 31 = .ok (.return_, 1) := by decide +kernel
theorem ef_s_init (m : MethodId) (x0 : Addr) (x1 : UInt32) (x2 : Int32) (x3 : Int32) (x4 : Int64) (x5 : Int32) : entryFrame m #[(.ref x0), (.float x1), (.int x2), (.int x3), (.long x4), (.int x5)] 7 = mkF m 0 #[.val (.ref x0), .val (.float x1), .val (.int x2), .val (.int x3), .val (.long x4), .second, .val (.int x5)] [] := by first | (simp [entryFrame, mkF, argsToLocals, Value.category]; done) | rfl | (simp [entryFrame, mkF, argsToLocals, *]; done)
def Q_s_init (Z : State) (ca : Addr) (c0 : UInt32) (c1 : Int32) (c2 : Int32) (c3 : Int64) (c4 : Int32) (cu0 : Value) (cu1 : Value) (cu2 : Value) (cu3 : Value) (cu4 : Value) (h0 : Heap) (n0 : Nat) (v : Option Value) (h : Heap) (L : List Loc) : Prop := v = none ∧ Fr n0 L ∧ Keep h0 h [ca] ∧ Exa Z h ca "com/example/fail_to_forward/failtoforward/CircuitBreakerSettings" ∧ Fld Z h ca "com/example/fail_to_forward/failtoforward/CircuitBreakerSettings" "failureRateThreshold" "F" (.float c0) ∧ Fld Z h ca "com/example/fail_to_forward/failtoforward/CircuitBreakerSettings" "slidingWindowSize" "I" (.int c1) ∧ Fld Z h ca "com/example/fail_to_forward/failtoforward/CircuitBreakerSettings" "minimumNumberOfCalls" "I" (.int c2) ∧ Fld Z h ca "com/example/fail_to_forward/failtoforward/CircuitBreakerSettings" "waitDurationInOpenStateMs" "J" (.long c3) ∧ Fld Z h ca "com/example/fail_to_forward/failtoforward/CircuitBreakerSettings" "permittedNumberOfCallsInHalfOpenState" "I" (.int c4)
set_option maxRecDepth 65536 in
set_option maxHeartbeats 40000000 in
theorem s_init (l : Launch) (Z : State) (a0 : Array Value) (hw : ∀ d ∈ tables_1, d.before a0 Z = true) (ws : List Jvm.Cond) (ca : Addr) (c0 : UInt32) (c1 : Int32) (c2 : Int32) (c3 : Int64) (c4 : Int32) (cu0 : Value) (cu1 : Value) (cu2 : Value) (cu3 : Value) (cu4 : Value) (h0 : Heap) (n0 : Nat) (Z0 : n0 ≤ h0.size) (F0_ca : Exa Z h0 ca "com/example/fail_to_forward/failtoforward/CircuitBreakerSettings") (F1_ca_failureRateThreshold : Fld Z h0 ca "com/example/fail_to_forward/failtoforward/CircuitBreakerSettings" "failureRateThreshold" "F" cu0) (F2_ca_slidingWindowSize : Fld Z h0 ca "com/example/fail_to_forward/failtoforward/CircuitBreakerSettings" "slidingWindowSize" "I" cu1) (F3_ca_minimumNumberOfCalls : Fld Z h0 ca "com/example/fail_to_forward/failtoforward/CircuitBreakerSettings" "minimumNumberOfCalls" "I" cu2) (F4_ca_waitDurationInOpenStateMs : Fld Z h0 ca "com/example/fail_to_forward/failtoforward/CircuitBreakerSettings" "waitDurationInOpenStateMs" "J" cu3) (F5_ca_permittedNumberOfCallsInHalfOpenState : Fld Z h0 ca "com/example/fail_to_forward/failtoforward/CircuitBreakerSettings" "permittedNumberOfCallsInHalfOpenState" "I" cu4) (hp0 : n0 ≤ ca) :
    MetFree l (⟨"com/example/fail_to_forward/failtoforward/CircuitBreakerSettings", "<init>", "(FIIJI)V"⟩ : MethodName) (head1 (Jvm.Cond.code (⟨"com/example/fail_to_forward/failtoforward/CircuitBreakerSettings", "<init>", "(FIIJI)V"⟩ : MethodName) prog_4_method_1_code 7 none :: ws) ({ frames := 2, cells := 0, slots := 0, locals := 24 } : Room)) (fun a U => a = #[(.ref ca), (.float c0), (.int c1), (.int c2), (.long c3), (.int c4)] ∧ Z.Warmed39 U.vm ∧ U.heap = h0) (fun _ _ _ _ _ => True) (fun _ U o U' => ∃ v L, o = .returned v ∧ Q_s_init Z ca c0 c1 c2 c3 c4 cu0 cu1 cu2 cu3 cu4 h0 n0 v U'.heap L ∧ FrameEnd U o U' L ({ frames := 2, cells := 0, slots := 0, locals := 24 } : Room).cells ({ frames := 2, cells := 0, slots := 0, locals := 24 } : Room).slots) := by
  refine MetFree.of_bodySF (plainFor_of_name pn_1) hisR ?_
  intro p e s m args below meth c s₁ Bd hml0 hP hK
  obtain ⟨rfl, hZ, hh⟩ := hP
  have hx := Bd.exec
  have hby := Bd.bytes
  have hml : c.maxLocals = 7 := hml0
  have hown : s.vm.findClass "com/example/fail_to_forward/failtoforward/CircuitBreakerSettings" = some m.cls := findClass_of_methodNamed Bd.named
  have hnm := (name_of_methodNamed Bd.named Bd.method).1
  have X0 : Stand p l e ({ frames := 2, cells := 0, slots := 0, locals := 24 } : Room) s m #[(.ref ca), (.float c0), (.int c1), (.int c2), (.long c3), (.int c4)] below meth c s₁ [] 0 0 := Stand.of_body Bd
  have e0 : s₁.heap = h0 := by rw [← hh, Bd.state]; rfl
  have N0 := Fr.nil n0
  obtain ⟨G, hG⟩ : ∃ G : State → Prop, G = (fun U' => ∃ o, U'.status = .running ∧ Ended U' below o ∧ ∃ v L, o = .returned v ∧ Q_s_init Z ca c0 c1 c2 c3 c4 cu0 cu1 cu2 cu3 cu4 h0 n0 v U'.heap L ∧ FrameEnd s o U' L ({ frames := 2, cells := 0, slots := 0, locals := 24 } : Room).cells ({ frames := 2, cells := 0, slots := 0, locals := 24 } : Room).slots) := ⟨_, rfl⟩
  suffices key : Gl p.tables e below s₁ (mkF m 0 #[.val (.ref ca), .val (.float c0), .val (.int c1), .val (.int c2), .val (.long c3), .second, .val (.int c4)] []) G by
    obtain ⟨s₂, k1, k2⟩ := key
    rw [hG] at k2
    obtain ⟨o, k3, k4, k5⟩ := k2
    exact ⟨s₂, o, castTop (ef_s_init m ca c0 c1 c2 c3 c4) k1, k3, k4, k5⟩
  show Gl p.tables e below s₁ (mkF m 0 #[.val (.ref ca), .val (.float c0), .val (.int c1), .val (.int c2), .val (.long c3), .second, .val (.int c4)] []) G
  refine Gl.via (fun _ k => XS.aloadN X0.here hx rfl (hb hby d2_0) rfl rfl k) ?_
  show Gl p.tables e below s₁ (mkF m 1 #[.val (.ref ca), .val (.float c0), .val (.int c1), .val (.int c2), .val (.long c3), .second, .val (.int c4)] [(.ref ca)]) G
  obtain ⟨_, _, ⟨T1, L1, k1, n1⟩, -, X1, ⟨Lc1, hQ1, l1, y1, z1⟩, st1⟩ := X0.specialBack hx (y := (⟨"java/lang/Record", "<init>", "()V"⟩ : MethodName)) rfl hown (mvT hZ (hw _ (List.mem_of_getElem? (i := 12) rfl))) (mvT hZ (hw _ (List.mem_of_getElem? (i := 13) rfl))) (mvT hZ (hw _ (List.mem_of_getElem? (i := 16) rfl))) (by decide) (backOf (W := 0) (rec_init l Z a0 hw [] ca h0 n0 Z0 ) hZ (hw _ (List.mem_of_getElem? (i := 16) rfl)) (hw _ (List.mem_of_getElem? (i := 15) rfl)) (by decide) (by decide)) (g := (mkF m 1 #[.val (.ref ca), .val (.float c0), .val (.int c1), .val (.int c2), .val (.long c3), .second, .val (.int c4)] [(.ref ca)])) rfl (by rw [hml]; rfl) (Steps.refl _) (a := ca) (argsL := []) (rest := []) (lenOf pd_0 rfl) rfl (by show 2 * 0 + _ ≤ _; exact Nat.le_of_eq rfl) (hb hby d2_1) (fun _ _ => ⟨rfl, e0, (by decide : 0 + 0 ≤ _), (by decide : 0 + 0 ≤ _)⟩)
  dsimp only [Pt.U, Pt.locs, Pt.cells, Pt.slots] at X1 l1 y1 z1 st1 hQ1
  subst l1 y1 z1
  obtain ⟨rfl, N1q, eh1⟩ := hQ1
  have N1_ := Fr.app N0 N1q
  refine Gl.via (fun _ k => st1.trans k) ?_
  show Gl p.tables e below T1 (mkF m 4 #[.val (.ref ca), .val (.float c0), .val (.int c1), .val (.int c2), .val (.long c3), .second, .val (.int c4)] []) G
  refine Gl.via (fun _ k => XS.aloadN X1.here hx rfl (hb hby d2_4) rfl rfl k) ?_
  show Gl p.tables e below T1 (mkF m 5 #[.val (.ref ca), .val (.float c0), .val (.int c1), .val (.int c2), .val (.long c3), .second, .val (.int c4)] [(.ref ca)]) G
  refine Gl.via (fun _ k => XS.floadN X1.here hx rfl (hb hby d2_5) rfl k) ?_
  show Gl p.tables e below T1 (mkF m 6 #[.val (.ref ca), .val (.float c0), .val (.int c1), .val (.int c2), .val (.long c3), .second, .val (.int c4)] [(.float c0), (.ref ca)]) G
  obtain ⟨T2, h2, X2, e2, W2, st2⟩ := putF X1 hx hZ hown (host := "") (Or.inl (hw _ (List.mem_of_getElem? (i := 20) rfl))) Via.refl eh1 F1_ca_failureRateThreshold F0_ca (Or.inr ⟨(hw _ (List.mem_of_getElem? (i := 21) rfl)), rfl, hnm⟩) (hw _ (List.mem_of_getElem? (i := 7) rfl)) (ty := .float) (by decide) rfl rfl (g := (mkF m 6 #[.val (.ref ca), .val (.float c0), .val (.int c1), .val (.int c2), .val (.long c3), .second, .val (.int c4)] [(.float c0), (.ref ca)])) rfl rfl (hb hby d2_6)
  refine Gl.via st2 ?_
  have N2_ := Fr.snoc X2 N1_ hp0
  have Z3 : n0 ≤ h2.size := Nat.le_trans Z0 (Keep.of_wr W2).1
  have Y4 : h0.size ≤ h2.size := Nat.le_trans (Nat.le_refl h0.size) (Keep.of_wr W2).1
  show Gl p.tables e below T2 (mkF m 9 #[.val (.ref ca), .val (.float c0), .val (.int c1), .val (.int c2), .val (.long c3), .second, .val (.int c4)] []) G
  refine Gl.via (fun _ k => XS.aloadN X2.here hx rfl (hb hby d2_9) rfl rfl k) ?_
  show Gl p.tables e below T2 (mkF m 10 #[.val (.ref ca), .val (.float c0), .val (.int c1), .val (.int c2), .val (.long c3), .second, .val (.int c4)] [(.ref ca)]) G
  refine Gl.via (fun _ k => XS.iloadN X2.here hx rfl (hb hby d2_10) rfl k) ?_
  show Gl p.tables e below T2 (mkF m 11 #[.val (.ref ca), .val (.float c0), .val (.int c1), .val (.int c2), .val (.long c3), .second, .val (.int c4)] [(.int c1), (.ref ca)]) G
  have G5 : Fld Z h2 ca "com/example/fail_to_forward/failtoforward/CircuitBreakerSettings" "slidingWindowSize" "I" cu1 := (F2_ca_slidingWindowSize.other W2 (Or.inr (slot_ne (Or.inr (hw _ (List.mem_of_getElem? (i := 23) rfl))) (Or.inr (hw _ (List.mem_of_getElem? (i := 21) rfl))) (by decide) (t := .int) (t' := .float) (by decide) (by decide))))
  have G6 : Exa Z h2 ca "com/example/fail_to_forward/failtoforward/CircuitBreakerSettings" := (F0_ca.wr W2)
  obtain ⟨T7, h7, X7, e7, W7, st7⟩ := putF X2 hx hZ hown (host := "") (Or.inl (hw _ (List.mem_of_getElem? (i := 22) rfl))) Via.refl e2 G5 G6 (Or.inr ⟨(hw _ (List.mem_of_getElem? (i := 23) rfl)), rfl, hnm⟩) (hw _ (List.mem_of_getElem? (i := 7) rfl)) (ty := .int) (by decide) rfl rfl (g := (mkF m 11 #[.val (.ref ca), .val (.float c0), .val (.int c1), .val (.int c2), .val (.long c3), .second, .val (.int c4)] [(.int c1), (.ref ca)])) rfl rfl (hb hby d2_11)
  refine Gl.via st7 ?_
  have N7_ := Fr.snoc X7 N2_ hp0
  have Z8 : n0 ≤ h7.size := Nat.le_trans Z3 (Keep.of_wr W7).1
  have Y9 : h0.size ≤ h7.size := Nat.le_trans Y4 (Keep.of_wr W7).1
  show Gl p.tables e below T7 (mkF m 14 #[.val (.ref ca), .val (.float c0), .val (.int c1), .val (.int c2), .val (.long c3), .second, .val (.int c4)] []) G
  refine Gl.via (fun _ k => XS.aloadN X7.here hx rfl (hb hby d2_14) rfl rfl k) ?_
  show Gl p.tables e below T7 (mkF m 15 #[.val (.ref ca), .val (.float c0), .val (.int c1), .val (.int c2), .val (.long c3), .second, .val (.int c4)] [(.ref ca)]) G
  refine Gl.via (fun _ k => XS.iloadN X7.here hx rfl (hb hby d2_15) rfl k) ?_
  show Gl p.tables e below T7 (mkF m 16 #[.val (.ref ca), .val (.float c0), .val (.int c1), .val (.int c2), .val (.long c3), .second, .val (.int c4)] [(.int c2), (.ref ca)]) G
  have G10 : Fld Z h7 ca "com/example/fail_to_forward/failtoforward/CircuitBreakerSettings" "minimumNumberOfCalls" "I" cu2 := ((F3_ca_minimumNumberOfCalls.other W2 (Or.inr (slot_ne (Or.inr (hw _ (List.mem_of_getElem? (i := 25) rfl))) (Or.inr (hw _ (List.mem_of_getElem? (i := 21) rfl))) (by decide) (t := .int) (t' := .float) (by decide) (by decide)))).other W7 (Or.inr (slot_ne (Or.inr (hw _ (List.mem_of_getElem? (i := 25) rfl))) (Or.inr (hw _ (List.mem_of_getElem? (i := 23) rfl))) (by decide) (t := .int) (t' := .int) (by decide) (by decide))))
  have G11 : Exa Z h7 ca "com/example/fail_to_forward/failtoforward/CircuitBreakerSettings" := (G6.wr W7)
  obtain ⟨T12, h12, X12, e12, W12, st12⟩ := putF X7 hx hZ hown (host := "") (Or.inl (hw _ (List.mem_of_getElem? (i := 24) rfl))) Via.refl e7 G10 G11 (Or.inr ⟨(hw _ (List.mem_of_getElem? (i := 25) rfl)), rfl, hnm⟩) (hw _ (List.mem_of_getElem? (i := 7) rfl)) (ty := .int) (by decide) rfl rfl (g := (mkF m 16 #[.val (.ref ca), .val (.float c0), .val (.int c1), .val (.int c2), .val (.long c3), .second, .val (.int c4)] [(.int c2), (.ref ca)])) rfl rfl (hb hby d2_16)
  refine Gl.via st12 ?_
  have N12_ := Fr.snoc X12 N7_ hp0
  have Z13 : n0 ≤ h12.size := Nat.le_trans Z8 (Keep.of_wr W12).1
  have Y14 : h0.size ≤ h12.size := Nat.le_trans Y9 (Keep.of_wr W12).1
  show Gl p.tables e below T12 (mkF m 19 #[.val (.ref ca), .val (.float c0), .val (.int c1), .val (.int c2), .val (.long c3), .second, .val (.int c4)] []) G
  refine Gl.via (fun _ k => XS.aloadN X12.here hx rfl (hb hby d2_19) rfl rfl k) ?_
  show Gl p.tables e below T12 (mkF m 20 #[.val (.ref ca), .val (.float c0), .val (.int c1), .val (.int c2), .val (.long c3), .second, .val (.int c4)] [(.ref ca)]) G
  refine Gl.via (fun _ k => XS.lload X12.here hx rfl (hb hby d2_20) rfl k) ?_
  show Gl p.tables e below T12 (mkF m 22 #[.val (.ref ca), .val (.float c0), .val (.int c1), .val (.int c2), .val (.long c3), .second, .val (.int c4)] [(.long c3), (.ref ca)]) G
  have G15 : Fld Z h12 ca "com/example/fail_to_forward/failtoforward/CircuitBreakerSettings" "waitDurationInOpenStateMs" "J" cu3 := (((F4_ca_waitDurationInOpenStateMs.other W2 (Or.inr (slot_ne (Or.inr (hw _ (List.mem_of_getElem? (i := 27) rfl))) (Or.inr (hw _ (List.mem_of_getElem? (i := 21) rfl))) (by decide) (t := .long) (t' := .float) (by decide) (by decide)))).other W7 (Or.inr (slot_ne (Or.inr (hw _ (List.mem_of_getElem? (i := 27) rfl))) (Or.inr (hw _ (List.mem_of_getElem? (i := 23) rfl))) (by decide) (t := .long) (t' := .int) (by decide) (by decide)))).other W12 (Or.inr (slot_ne (Or.inr (hw _ (List.mem_of_getElem? (i := 27) rfl))) (Or.inr (hw _ (List.mem_of_getElem? (i := 25) rfl))) (by decide) (t := .long) (t' := .int) (by decide) (by decide))))
  have G16 : Exa Z h12 ca "com/example/fail_to_forward/failtoforward/CircuitBreakerSettings" := (G11.wr W12)
  obtain ⟨T17, h17, X17, e17, W17, st17⟩ := putF X12 hx hZ hown (host := "") (Or.inl (hw _ (List.mem_of_getElem? (i := 26) rfl))) Via.refl e12 G15 G16 (Or.inr ⟨(hw _ (List.mem_of_getElem? (i := 27) rfl)), rfl, hnm⟩) (hw _ (List.mem_of_getElem? (i := 7) rfl)) (ty := .long) (by decide) rfl rfl (g := (mkF m 22 #[.val (.ref ca), .val (.float c0), .val (.int c1), .val (.int c2), .val (.long c3), .second, .val (.int c4)] [(.long c3), (.ref ca)])) rfl rfl (hb hby d2_22)
  refine Gl.via st17 ?_
  have N17_ := Fr.snoc X17 N12_ hp0
  have Z18 : n0 ≤ h17.size := Nat.le_trans Z13 (Keep.of_wr W17).1
  have Y19 : h0.size ≤ h17.size := Nat.le_trans Y14 (Keep.of_wr W17).1
  show Gl p.tables e below T17 (mkF m 25 #[.val (.ref ca), .val (.float c0), .val (.int c1), .val (.int c2), .val (.long c3), .second, .val (.int c4)] []) G
  refine Gl.via (fun _ k => XS.aloadN X17.here hx rfl (hb hby d2_25) rfl rfl k) ?_
  show Gl p.tables e below T17 (mkF m 26 #[.val (.ref ca), .val (.float c0), .val (.int c1), .val (.int c2), .val (.long c3), .second, .val (.int c4)] [(.ref ca)]) G
  refine Gl.via (fun _ k => XS.iload X17.here hx rfl (hb hby d2_26) rfl k) ?_
  show Gl p.tables e below T17 (mkF m 28 #[.val (.ref ca), .val (.float c0), .val (.int c1), .val (.int c2), .val (.long c3), .second, .val (.int c4)] [(.int c4), (.ref ca)]) G
  have G20 : Fld Z h17 ca "com/example/fail_to_forward/failtoforward/CircuitBreakerSettings" "permittedNumberOfCallsInHalfOpenState" "I" cu4 := ((((F5_ca_permittedNumberOfCallsInHalfOpenState.other W2 (Or.inr (slot_ne (Or.inr (hw _ (List.mem_of_getElem? (i := 29) rfl))) (Or.inr (hw _ (List.mem_of_getElem? (i := 21) rfl))) (by decide) (t := .int) (t' := .float) (by decide) (by decide)))).other W7 (Or.inr (slot_ne (Or.inr (hw _ (List.mem_of_getElem? (i := 29) rfl))) (Or.inr (hw _ (List.mem_of_getElem? (i := 23) rfl))) (by decide) (t := .int) (t' := .int) (by decide) (by decide)))).other W12 (Or.inr (slot_ne (Or.inr (hw _ (List.mem_of_getElem? (i := 29) rfl))) (Or.inr (hw _ (List.mem_of_getElem? (i := 25) rfl))) (by decide) (t := .int) (t' := .int) (by decide) (by decide)))).other W17 (Or.inr (slot_ne (Or.inr (hw _ (List.mem_of_getElem? (i := 29) rfl))) (Or.inr (hw _ (List.mem_of_getElem? (i := 27) rfl))) (by decide) (t := .int) (t' := .long) (by decide) (by decide))))
  have G21 : Exa Z h17 ca "com/example/fail_to_forward/failtoforward/CircuitBreakerSettings" := (G16.wr W17)
  obtain ⟨T22, h22, X22, e22, W22, st22⟩ := putF X17 hx hZ hown (host := "") (Or.inl (hw _ (List.mem_of_getElem? (i := 28) rfl))) Via.refl e17 G20 G21 (Or.inr ⟨(hw _ (List.mem_of_getElem? (i := 29) rfl)), rfl, hnm⟩) (hw _ (List.mem_of_getElem? (i := 7) rfl)) (ty := .int) (by decide) rfl rfl (g := (mkF m 28 #[.val (.ref ca), .val (.float c0), .val (.int c1), .val (.int c2), .val (.long c3), .second, .val (.int c4)] [(.int c4), (.ref ca)])) rfl rfl (hb hby d2_28)
  refine Gl.via st22 ?_
  have N22_ := Fr.snoc X22 N17_ hp0
  have Z23 : n0 ≤ h22.size := Nat.le_trans Z18 (Keep.of_wr W22).1
  have Y24 : h0.size ≤ h22.size := Nat.le_trans Y19 (Keep.of_wr W22).1
  show Gl p.tables e below T22 (mkF m 31 #[.val (.ref ca), .val (.float c0), .val (.int c1), .val (.int c2), .val (.long c3), .second, .val (.int c4)] []) G
  obtain ⟨fs, hr, hrun, hended, hW, hsame⟩ := X22.leave (v := none) (fun _ => rfl)
  have G25 : Exa Z h22 ca "com/example/fail_to_forward/failtoforward/CircuitBreakerSettings" := (G21.wr W22)
  have G26 : Fld Z h22 ca "com/example/fail_to_forward/failtoforward/CircuitBreakerSettings" "failureRateThreshold" "F" (.float c0) := (((((Fld.same W2 F1_ca_failureRateThreshold).other W7 (Or.inr (slot_ne (Or.inr (hw _ (List.mem_of_getElem? (i := 21) rfl))) (Or.inr (hw _ (List.mem_of_getElem? (i := 23) rfl))) (by decide) (t := .float) (t' := .int) (by decide) (by decide)))).other W12 (Or.inr (slot_ne (Or.inr (hw _ (List.mem_of_getElem? (i := 21) rfl))) (Or.inr (hw _ (List.mem_of_getElem? (i := 25) rfl))) (by decide) (t := .float) (t' := .int) (by decide) (by decide)))).other W17 (Or.inr (slot_ne (Or.inr (hw _ (List.mem_of_getElem? (i := 21) rfl))) (Or.inr (hw _ (List.mem_of_getElem? (i := 27) rfl))) (by decide) (t := .float) (t' := .long) (by decide) (by decide)))).other W22 (Or.inr (slot_ne (Or.inr (hw _ (List.mem_of_getElem? (i := 21) rfl))) (Or.inr (hw _ (List.mem_of_getElem? (i := 29) rfl))) (by decide) (t := .float) (t' := .int) (by decide) (by decide))))
  have G27 : Fld Z h22 ca "com/example/fail_to_forward/failtoforward/CircuitBreakerSettings" "slidingWindowSize" "I" (.int c1) := ((((Fld.same W7 G5).other W12 (Or.inr (slot_ne (Or.inr (hw _ (List.mem_of_getElem? (i := 23) rfl))) (Or.inr (hw _ (List.mem_of_getElem? (i := 25) rfl))) (by decide) (t := .int) (t' := .int) (by decide) (by decide)))).other W17 (Or.inr (slot_ne (Or.inr (hw _ (List.mem_of_getElem? (i := 23) rfl))) (Or.inr (hw _ (List.mem_of_getElem? (i := 27) rfl))) (by decide) (t := .int) (t' := .long) (by decide) (by decide)))).other W22 (Or.inr (slot_ne (Or.inr (hw _ (List.mem_of_getElem? (i := 23) rfl))) (Or.inr (hw _ (List.mem_of_getElem? (i := 29) rfl))) (by decide) (t := .int) (t' := .int) (by decide) (by decide))))
  have G28 : Fld Z h22 ca "com/example/fail_to_forward/failtoforward/CircuitBreakerSettings" "minimumNumberOfCalls" "I" (.int c2) := (((Fld.same W12 G10).other W17 (Or.inr (slot_ne (Or.inr (hw _ (List.mem_of_getElem? (i := 25) rfl))) (Or.inr (hw _ (List.mem_of_getElem? (i := 27) rfl))) (by decide) (t := .int) (t' := .long) (by decide) (by decide)))).other W22 (Or.inr (slot_ne (Or.inr (hw _ (List.mem_of_getElem? (i := 25) rfl))) (Or.inr (hw _ (List.mem_of_getElem? (i := 29) rfl))) (by decide) (t := .int) (t' := .int) (by decide) (by decide))))
  have G29 : Fld Z h22 ca "com/example/fail_to_forward/failtoforward/CircuitBreakerSettings" "waitDurationInOpenStateMs" "J" (.long c3) := ((Fld.same W17 G15).other W22 (Or.inr (slot_ne (Or.inr (hw _ (List.mem_of_getElem? (i := 27) rfl))) (Or.inr (hw _ (List.mem_of_getElem? (i := 29) rfl))) (by decide) (t := .long) (t' := .int) (by decide) (by decide))))
  have hq : ∀ L, Fr n0 L → Q_s_init Z ca c0 c1 c2 c3 c4 cu0 cu1 cu2 cu3 cu4 h0 n0 (none) T22.heap L := by
    intro L hN
    rw [e22]
    exact ⟨rfl, hN, ((((((Keep.refl h0 [ca]).wr W2 (Or.inl (List.mem_of_getElem? (i := 0) rfl))).wr W7 (Or.inl (List.mem_of_getElem? (i := 0) rfl))).wr W12 (Or.inl (List.mem_of_getElem? (i := 0) rfl))).wr W17 (Or.inl (List.mem_of_getElem? (i := 0) rfl))).wr W22 (Or.inl (List.mem_of_getElem? (i := 0) rfl))), G25, G26, G27, G28, G29, (Fld.same W22 G20)⟩
  rw [hG]
  exact Gl.fin (X22.returnOut hx Bd.returns (hb hby d2_31) hr) ⟨_, hrun, hended, _, _, rfl, hq _ N22_, ⟨_, rfl⟩, hW, hsame.mono (by decide) (by decide)⟩
theorem d5_0 : decode prog_4_method_3_code 0 = .ok (.new 8, 3) := by decide +kernel
theorem d5_3 : decode prog_4_method_3_code 3 = .ok (.dup, 1) := by decide +kernel
theorem d5_4 : decode prog_4_method_3_code 4 = .ok (.fload_n 1, 1) := by decide +kernel
theorem d5_5 : decode prog_4_method_3_code 5 = .ok (.aload_n 0, 1) := by decide +kernel
theorem d5_6 : decode prog_4_method_3_code 6 = .ok (.getfield 13, 3) := by decide +kernel
theorem d5_9 : decode prog_4_method_3_code 9 = .ok (.aload_n 0, 1) := by decide +kernel
theorem d5_10 : decode prog_4_method_3_code 10 = .ok (.getfield 17, 3) := by decide +kernel
theorem d5_13 : decode prog_4_method_3_code 13 = .ok (.aload_n 0, 1) := by decide +kernel
theorem d5_14 : decode prog_4_method_3_code 14 = .ok (.getfield 20, 3) := by decide +kernel
theorem d5_17 : decode prog_4_method_3_code 17 = .ok (.aload_n 0, 1) := by decide +kernel
theorem d5_18 : decode prog_4_method_3_code 18 = .ok (.getfield 24, 3) := by decide +kernel
theorem d5_21 : decode prog_4_method_3_code 21 = .ok (.invokespecial 30, 3) := by decide +kernel
theorem pd_1 : parseMethodDescriptor "(FIIJI)V" = some ⟨[.float, .int, .int, .long, .int], none⟩ := by decide +kernel
theorem d5_24 : decode prog_4_method_3_code 24 = .ok (.areturn, 1) := by decide +kernel
theorem ef_s_with (m : MethodId) (x0 : Addr) (x1 : UInt32) : entryFrame m #[(.ref x0), (.float x1)] 2 = mkF m 0 #[.val (.ref x0), .val (.float x1)] [] := by first | (simp [entryFrame, mkF, argsToLocals, Value.category]; done) | rfl | (simp [entryFrame, mkF, argsToLocals, *]; done)
def Q_s_with (Z : State) (wa : Addr) (wn : UInt32) (w0 : UInt32) (w1 : Int32) (w2 : Int32) (w3 : Int64) (w4 : Int32) (h0 : Heap) (n0 : Nat) (v : Option Value) (h : Heap) (L : List Loc) : Prop := ∃ (b : Addr), v = some (.ref b) ∧ Fr n0 L ∧ Keep h0 h [] ∧ Exa Z h b "com/example/fail_to_forward/failtoforward/CircuitBreakerSettings" ∧ Fld Z h b "com/example/fail_to_forward/failtoforward/CircuitBreakerSettings" "failureRateThreshold" "F" (.float wn) ∧ Fld Z h b "com/example/fail_to_forward/failtoforward/CircuitBreakerSettings" "slidingWindowSize" "I" (.int w1) ∧ Fld Z h b "com/example/fail_to_forward/failtoforward/CircuitBreakerSettings" "minimumNumberOfCalls" "I" (.int w2) ∧ Fld Z h b "com/example/fail_to_forward/failtoforward/CircuitBreakerSettings" "waitDurationInOpenStateMs" "J" (.long w3) ∧ Fld Z h b "com/example/fail_to_forward/failtoforward/CircuitBreakerSettings" "permittedNumberOfCallsInHalfOpenState" "I" (.int w4) ∧ (h0.size ≤ b)
set_option maxRecDepth 65536 in
set_option maxHeartbeats 40000000 in
theorem s_with (l : Launch) (Z : State) (a0 : Array Value) (hw : ∀ d ∈ tables_1, d.before a0 Z = true) (ws : List Jvm.Cond) (wa : Addr) (wn : UInt32) (w0 : UInt32) (w1 : Int32) (w2 : Int32) (w3 : Int64) (w4 : Int32) (h0 : Heap) (n0 : Nat) (Z0 : n0 ≤ h0.size) (F0_wa_failureRateThreshold : Fld Z h0 wa "com/example/fail_to_forward/failtoforward/CircuitBreakerSettings" "failureRateThreshold" "F" (.float w0)) (F1_wa_slidingWindowSize : Fld Z h0 wa "com/example/fail_to_forward/failtoforward/CircuitBreakerSettings" "slidingWindowSize" "I" (.int w1)) (F2_wa_minimumNumberOfCalls : Fld Z h0 wa "com/example/fail_to_forward/failtoforward/CircuitBreakerSettings" "minimumNumberOfCalls" "I" (.int w2)) (F3_wa_waitDurationInOpenStateMs : Fld Z h0 wa "com/example/fail_to_forward/failtoforward/CircuitBreakerSettings" "waitDurationInOpenStateMs" "J" (.long w3)) (F4_wa_permittedNumberOfCallsInHalfOpenState : Fld Z h0 wa "com/example/fail_to_forward/failtoforward/CircuitBreakerSettings" "permittedNumberOfCallsInHalfOpenState" "I" (.int w4)) :
    MetFree l (⟨"com/example/fail_to_forward/failtoforward/CircuitBreakerSettings", "withFailureRateThreshold", "(F)Lcom/example/fail_to_forward/failtoforward/CircuitBreakerSettings;"⟩ : MethodName) (head1 (Jvm.Cond.code (⟨"com/example/fail_to_forward/failtoforward/CircuitBreakerSettings", "withFailureRateThreshold", "(F)Lcom/example/fail_to_forward/failtoforward/CircuitBreakerSettings;"⟩ : MethodName) prog_4_method_3_code 2 (some (.object "com/example/fail_to_forward/failtoforward/CircuitBreakerSettings")) :: ws) ({ frames := 3, cells := 1, slots := 5, locals := 43 } : Room)) (fun a U => a = #[(.ref wa), (.float wn)] ∧ Z.Warmed39 U.vm ∧ U.heap = h0) (fun _ _ _ _ _ => True) (fun _ U o U' => ∃ v L, o = .returned v ∧ Q_s_with Z wa wn w0 w1 w2 w3 w4 h0 n0 v U'.heap L ∧ FrameEnd U o U' L ({ frames := 3, cells := 1, slots := 5, locals := 43 } : Room).cells ({ frames := 3, cells := 1, slots := 5, locals := 43 } : Room).slots) := by
  refine MetFree.of_bodySF (plainFor_of_name pn_1) hisR ?_
  intro p e s m args below meth c s₁ Bd hml0 hP hK
  obtain ⟨rfl, hZ, hh⟩ := hP
  have hx := Bd.exec
  have hby := Bd.bytes
  have hml : c.maxLocals = 2 := hml0
  have hown : s.vm.findClass "com/example/fail_to_forward/failtoforward/CircuitBreakerSettings" = some m.cls := findClass_of_methodNamed Bd.named
  have hnm := (name_of_methodNamed Bd.named Bd.method).1
  have X0 : Stand p l e ({ frames := 3, cells := 1, slots := 5, locals := 43 } : Room) s m #[(.ref wa), (.float wn)] below meth c s₁ [] 0 0 := Stand.of_body Bd
  have e0 : s₁.heap = h0 := by rw [← hh, Bd.state]; rfl
  have N0 := Fr.nil n0
  obtain ⟨G, hG⟩ : ∃ G : State → Prop, G = (fun U' => ∃ o, U'.status = .running ∧ Ended U' below o ∧ ∃ v L, o = .returned v ∧ Q_s_with Z wa wn w0 w1 w2 w3 w4 h0 n0 v U'.heap L ∧ FrameEnd s o U' L ({ frames := 3, cells := 1, slots := 5, locals := 43 } : Room).cells ({ frames := 3, cells := 1, slots := 5, locals := 43 } : Room).slots) := ⟨_, rfl⟩
  suffices key : Gl p.tables e below s₁ (mkF m 0 #[.val (.ref wa), .val (.float wn)] []) G by
    obtain ⟨s₂, k1, k2⟩ := key
    rw [hG] at k2
    obtain ⟨o, k3, k4, k5⟩ := k2
    exact ⟨s₂, o, castTop (ef_s_with m wa wn) k1, k3, k4, k5⟩
  show Gl p.tables e below s₁ (mkF m 0 #[.val (.ref wa), .val (.float wn)] []) G
  obtain ⟨T1, h1, X1, e1, E1, A1, D1, -, st1⟩ := newO X0 hx hZ hown (hw _ (List.mem_of_getElem? (i := 35) rfl)) (hw _ (List.mem_of_getElem? (i := 7) rfl)) (hw _ (List.mem_of_getElem? (i := 8) rfl)) e0 (g := (mkF m 0 #[.val (.ref wa), .val (.float wn)] [])) rfl (hb hby d5_0) (by decide) (by decide)
  obtain ⟨b1, g1⟩ : ∃ z, z = h0.size := ⟨_, rfl⟩
  rw [← g1] at A1 D1 st1
  have ne2 : wa ≠ b1 := Nat.ne_of_lt (Nat.lt_of_lt_of_le F0_wa_failureRateThreshold.lt (Nat.le_of_eq g1.symm))
  have ge3 : n0 ≤ b1 := Nat.le_trans Z0 (Nat.le_of_eq g1.symm)
  have gz4 : h0.size ≤ b1 := Nat.le_trans (Nat.le_refl h0.size) (Nat.le_of_eq g1.symm)
  refine Gl.via st1 ?_
  have Z5 : n0 ≤ h1.size := Nat.le_trans Z0 E1.1
  have Y6 : h0.size ≤ h1.size := Nat.le_trans (Nat.le_refl h0.size) E1.1
  have F7 : Fld Z h1 b1 "com/example/fail_to_forward/failtoforward/CircuitBreakerSettings" "failureRateThreshold" "F" (.float (0 : UInt32)) := D1 (Or.inr (hw _ (List.mem_of_getElem? (i := 21) rfl))) (ty := .float) (by decide)
  have F8 : Fld Z h1 b1 "com/example/fail_to_forward/failtoforward/CircuitBreakerSettings" "slidingWindowSize" "I" (.int (0 : Int32)) := D1 (Or.inr (hw _ (List.mem_of_getElem? (i := 23) rfl))) (ty := .int) (by decide)
  have F9 : Fld Z h1 b1 "com/example/fail_to_forward/failtoforward/CircuitBreakerSettings" "minimumNumberOfCalls" "I" (.int (0 : Int32)) := D1 (Or.inr (hw _ (List.mem_of_getElem? (i := 25) rfl))) (ty := .int) (by decide)
  have F10 : Fld Z h1 b1 "com/example/fail_to_forward/failtoforward/CircuitBreakerSettings" "waitDurationInOpenStateMs" "J" (.long (0 : Int64)) := D1 (Or.inr (hw _ (List.mem_of_getElem? (i := 27) rfl))) (ty := .long) (by decide)
  have F11 : Fld Z h1 b1 "com/example/fail_to_forward/failtoforward/CircuitBreakerSettings" "permittedNumberOfCallsInHalfOpenState" "I" (.int (0 : Int32)) := D1 (Or.inr (hw _ (List.mem_of_getElem? (i := 29) rfl))) (ty := .int) (by decide)
  show Gl p.tables e below T1 (mkF m 3 #[.val (.ref wa), .val (.float wn)] [(.ref b1)]) G
  refine Gl.via (fun _ k => XS.dup X1.here hx rfl (hb hby d5_3) rfl rfl k) ?_
  show Gl p.tables e below T1 (mkF m 4 #[.val (.ref wa), .val (.float wn)] [(.ref b1), (.ref b1)]) G
  refine Gl.via (fun _ k => XS.floadN X1.here hx rfl (hb hby d5_4) rfl k) ?_
  show Gl p.tables e below T1 (mkF m 5 #[.val (.ref wa), .val (.float wn)] [(.float wn), (.ref b1), (.ref b1)]) G
  refine Gl.via (fun _ k => XS.aloadN X1.here hx rfl (hb hby d5_5) rfl rfl k) ?_
  show Gl p.tables e below T1 (mkF m 6 #[.val (.ref wa), .val (.float wn)] [(.ref wa), (.float wn), (.ref b1), (.ref b1)]) G
  have G12 : Fld Z h1 wa "com/example/fail_to_forward/failtoforward/CircuitBreakerSettings" "slidingWindowSize" "I" (.int w1) := (F1_wa_slidingWindowSize.ext E1)
  obtain ⟨T13, X13, e13, st13⟩ := getF X1 hx hZ hown (host := "") (Or.inl (hw _ (List.mem_of_getElem? (i := 22) rfl))) Via.refl e1 G12 (g := (mkF m 6 #[.val (.ref wa), .val (.float wn)] [(.ref wa), (.float wn), (.ref b1), (.ref b1)])) rfl rfl (hb hby d5_6)
  refine Gl.via st13 ?_
  show Gl p.tables e below T13 (mkF m 9 #[.val (.ref wa), .val (.float wn)] [(.int w1), (.float wn), (.ref b1), (.ref b1)]) G
  refine Gl.via (fun _ k => XS.aloadN X13.here hx rfl (hb hby d5_9) rfl rfl k) ?_
  show Gl p.tables e below T13 (mkF m 10 #[.val (.ref wa), .val (.float wn)] [(.ref wa), (.int w1), (.float wn), (.ref b1), (.ref b1)]) G
  have G14 : Fld Z h1 wa "com/example/fail_to_forward/failtoforward/CircuitBreakerSettings" "minimumNumberOfCalls" "I" (.int w2) := (F2_wa_minimumNumberOfCalls.ext E1)
  obtain ⟨T15, X15, e15, st15⟩ := getF X13 hx hZ hown (host := "") (Or.inl (hw _ (List.mem_of_getElem? (i := 24) rfl))) Via.refl e13 G14 (g := (mkF m 10 #[.val (.ref wa), .val (.float wn)] [(.ref wa), (.int w1), (.float wn), (.ref b1), (.ref b1)])) rfl rfl (hb hby d5_10)
  refine Gl.via st15 ?_
  show Gl p.tables e below T15 (mkF m 13 #[.val (.ref wa), .val (.float wn)] [(.int w2), (.int w1), (.float wn), (.ref b1), (.ref b1)]) G
  refine Gl.via (fun _ k => XS.aloadN X15.here hx rfl (hb hby d5_13) rfl rfl k) ?_
  show Gl p.tables e below T15 (mkF m 14 #[.val (.ref wa), .val (.float wn)] [(.ref wa), (.int w2), (.int w1), (.float wn), (.ref b1), (.ref b1)]) G
  have G16 : Fld Z h1 wa "com/example/fail_to_forward/failtoforward/CircuitBreakerSettings" "waitDurationInOpenStateMs" "J" (.long w3) := (F3_wa_waitDurationInOpenStateMs.ext E1)
  obtain ⟨T17, X17, e17, st17⟩ := getF X15 hx hZ hown (host := "") (Or.inl (hw _ (List.mem_of_getElem? (i := 26) rfl))) Via.refl e15 G16 (g := (mkF m 14 #[.val (.ref wa), .val (.float wn)] [(.ref wa), (.int w2), (.int w1), (.float wn), (.ref b1), (.ref b1)])) rfl rfl (hb hby d5_14)
  refine Gl.via st17 ?_
  show Gl p.tables e below T17 (mkF m 17 #[.val (.ref wa), .val (.float wn)] [(.long w3), (.int w2), (.int w1), (.float wn), (.ref b1), (.ref b1)]) G
  refine Gl.via (fun _ k => XS.aloadN X17.here hx rfl (hb hby d5_17) rfl rfl k) ?_
  show Gl p.tables e below T17 (mkF m 18 #[.val (.ref wa), .val (.float wn)] [(.ref wa), (.long w3), (.int w2), (.int w1), (.float wn), (.ref b1), (.ref b1)]) G
  have G18 : Fld Z h1 wa "com/example/fail_to_forward/failtoforward/CircuitBreakerSettings" "permittedNumberOfCallsInHalfOpenState" "I" (.int w4) := (F4_wa_permittedNumberOfCallsInHalfOpenState.ext E1)
  obtain ⟨T19, X19, e19, st19⟩ := getF X17 hx hZ hown (host := "") (Or.inl (hw _ (List.mem_of_getElem? (i := 28) rfl))) Via.refl e17 G18 (g := (mkF m 18 #[.val (.ref wa), .val (.float wn)] [(.ref wa), (.long w3), (.int w2), (.int w1), (.float wn), (.ref b1), (.ref b1)])) rfl rfl (hb hby d5_18)
  refine Gl.via st19 ?_
  show Gl p.tables e below T19 (mkF m 21 #[.val (.ref wa), .val (.float wn)] [(.int w4), (.long w3), (.int w2), (.int w1), (.float wn), (.ref b1), (.ref b1)]) G
  obtain ⟨_, _, ⟨T20, L20, k20, n20⟩, -, X20, ⟨Lc20, hQ20, l20, y20, z20⟩, st20⟩ := X19.specialBack hx (y := (⟨"com/example/fail_to_forward/failtoforward/CircuitBreakerSettings", "<init>", "(FIIJI)V"⟩ : MethodName)) rfl hown (mvT hZ (hw _ (List.mem_of_getElem? (i := 36) rfl))) (mvT hZ (hw _ (List.mem_of_getElem? (i := 10) rfl))) (mvT hZ (hw _ (List.mem_of_getElem? (i := 11) rfl))) (by decide) (backOf (W := 1) (s_init l Z a0 hw [] b1 wn w1 w2 w3 w4 (.float (0 : UInt32)) (.int (0 : Int32)) (.int (0 : Int32)) (.long (0 : Int64)) (.int (0 : Int32)) h1 n0 Z5 A1 F7 F8 F9 F10 F11 ge3) hZ (hw _ (List.mem_of_getElem? (i := 11) rfl)) (hw _ (List.mem_of_getElem? (i := 8) rfl)) (by decide) (by decide)) (g := (mkF m 21 #[.val (.ref wa), .val (.float wn)] [(.int w4), (.long w3), (.int w2), (.int w1), (.float wn), (.ref b1), (.ref b1)])) rfl (by rw [hml]; rfl) (Steps.refl _) (a := b1) (argsL := [(.float wn), (.int w1), (.int w2), (.long w3), (.int w4)]) (rest := [(.ref b1)]) (lenOf pd_1 rfl) rfl (by show 2 * 0 + _ ≤ _; exact Nat.le_of_eq rfl) (hb hby d5_21) (fun _ _ => ⟨rfl, e19, (by decide : 1 + 0 ≤ _), (by decide : 5 + 0 ≤ _)⟩)
  dsimp only [Pt.U, Pt.locs, Pt.cells, Pt.slots] at X20 l20 y20 z20 st20 hQ20
  subst l20 y20 z20
  obtain ⟨rfl, N20q, K20, P21, P22, P23, P24, P25, P26⟩ := hQ20
  have N20_ := Fr.app N0 N20q
  refine Gl.via (fun _ k => st20.trans k) ?_
  have Z27 : n0 ≤ T20.heap.size := Nat.le_trans Z5 K20.1
  have Y28 : h0.size ≤ T20.heap.size := Nat.le_trans Y6 K20.1
  show Gl p.tables e below T20 (mkF m 24 #[.val (.ref wa), .val (.float wn)] [(.ref b1)]) G
  obtain ⟨fs, hr, hrun, hended, hW, hsame⟩ := X20.leave (v := some (.ref b1)) (fun h => by rw [Bd.returns] at h; cases h)
  have hq : ∀ L, Fr n0 L → Q_s_with Z wa wn w0 w1 w2 w3 w4 h0 n0 (some (.ref b1)) T20.heap L := by
    intro L hN
    exact ⟨b1, rfl, hN, (((Keep.refl h0 []).ext E1).trans K20 (allS (Or.inr gz4) all0)), P21, P22, P23, P24, P25, P26, gz4⟩
  rw [hG]
  exact Gl.fin (retOut X20 hx Bd.returns rfl (Or.inr (Or.inr (Or.inr (Or.inr ⟨rfl, rfl, rfl⟩)))) (hb hby d5_24) hr) ⟨_, hrun, hended, _, _, rfl, hq _ N20_, ⟨_, rfl⟩, hW, hsame.mono (by decide) (by decide)⟩
theorem d6_0 : decode prog_4_method_11_code 0 = .ok (.aload_n 0, 1) := by decide +kernel
theorem d6_1 : decode prog_4_method_11_code 1 = .ok (.getfield 7, 3) := by decide +kernel
theorem d6_4 : decode prog_4_method_11_code 4 = .ok (.freturn, 1) := by decide +kernel
theorem ef_g_0 (m : MethodId) (x0 : Addr) : entryFrame m #[(.ref x0)] 1 = mkF m 0 #[.val (.ref x0)] [] := by first | (simp [entryFrame, mkF, argsToLocals, Value.category]; done) | rfl | (simp [entryFrame, mkF, argsToLocals, *]; done)
def Q_g_0 (Z : State) (ga : Addr) (gx : UInt32) (h0 : Heap) (n0 : Nat) (v : Option Value) (h : Heap) (L : List Loc) : Prop := v = some (.float gx) ∧ Fr n0 L ∧ h = h0
set_option maxRecDepth 65536 in
set_option maxHeartbeats 40000000 in
theorem g_0 (l : Launch) (Z : State) (a0 : Array Value) (hw : ∀ d ∈ tables_1, d.before a0 Z = true) (ws : List Jvm.Cond) (ga : Addr) (gx : UInt32) (h0 : Heap) (n0 : Nat) (Z0 : n0 ≤ h0.size) (F0_ga_failureRateThreshold : Fld Z h0 ga "com/example/fail_to_forward/failtoforward/CircuitBreakerSettings" "failureRateThreshold" "F" (.float gx)) :
    MetFree l (⟨"com/example/fail_to_forward/failtoforward/CircuitBreakerSettings", "failureRateThreshold", "()F"⟩ : MethodName) (head1 (Jvm.Cond.code (⟨"com/example/fail_to_forward/failtoforward/CircuitBreakerSettings", "failureRateThreshold", "()F"⟩ : MethodName) prog_4_method_11_code 1 (some .float) :: ws) ({ frames := 0, cells := 0, slots := 0, locals := 0 } : Room)) (fun a U => a = #[(.ref ga)] ∧ Z.Warmed39 U.vm ∧ U.heap = h0) (fun _ _ _ _ _ => True) (fun _ U o U' => ∃ v L, o = .returned v ∧ Q_g_0 Z ga gx h0 n0 v U'.heap L ∧ FrameEnd U o U' L ({ frames := 0, cells := 0, slots := 0, locals := 0 } : Room).cells ({ frames := 0, cells := 0, slots := 0, locals := 0 } : Room).slots) := by
  refine MetFree.of_bodySF (plainFor_of_name pn_1) hisR ?_
  intro p e s m args below meth c s₁ Bd hml0 hP hK
  obtain ⟨rfl, hZ, hh⟩ := hP
  have hx := Bd.exec
  have hby := Bd.bytes
  have hml : c.maxLocals = 1 := hml0
  have hown : s.vm.findClass "com/example/fail_to_forward/failtoforward/CircuitBreakerSettings" = some m.cls := findClass_of_methodNamed Bd.named
  have hnm := (name_of_methodNamed Bd.named Bd.method).1
  have X0 : Stand p l e ({ frames := 0, cells := 0, slots := 0, locals := 0 } : Room) s m #[(.ref ga)] below meth c s₁ [] 0 0 := Stand.of_body Bd
  have e0 : s₁.heap = h0 := by rw [← hh, Bd.state]; rfl
  have N0 := Fr.nil n0
  obtain ⟨G, hG⟩ : ∃ G : State → Prop, G = (fun U' => ∃ o, U'.status = .running ∧ Ended U' below o ∧ ∃ v L, o = .returned v ∧ Q_g_0 Z ga gx h0 n0 v U'.heap L ∧ FrameEnd s o U' L ({ frames := 0, cells := 0, slots := 0, locals := 0 } : Room).cells ({ frames := 0, cells := 0, slots := 0, locals := 0 } : Room).slots) := ⟨_, rfl⟩
  suffices key : Gl p.tables e below s₁ (mkF m 0 #[.val (.ref ga)] []) G by
    obtain ⟨s₂, k1, k2⟩ := key
    rw [hG] at k2
    obtain ⟨o, k3, k4, k5⟩ := k2
    exact ⟨s₂, o, castTop (ef_g_0 m ga) k1, k3, k4, k5⟩
  show Gl p.tables e below s₁ (mkF m 0 #[.val (.ref ga)] []) G
  refine Gl.via (fun _ k => XS.aloadN X0.here hx rfl (hb hby d6_0) rfl rfl k) ?_
  show Gl p.tables e below s₁ (mkF m 1 #[.val (.ref ga)] [(.ref ga)]) G
  obtain ⟨T1, X1, e1, st1⟩ := getF X0 hx hZ hown (host := "") (Or.inl (hw _ (List.mem_of_getElem? (i := 20) rfl))) Via.refl e0 F0_ga_failureRateThreshold (g := (mkF m 1 #[.val (.ref ga)] [(.ref ga)])) rfl rfl (hb hby d6_1)
  refine Gl.via st1 ?_
  show Gl p.tables e below T1 (mkF m 4 #[.val (.ref ga)] [(.float gx)]) G
  obtain ⟨fs, hr, hrun, hended, hW, hsame⟩ := X1.leave (v := some (.float gx)) (fun h => by rw [Bd.returns] at h; cases h)
  have hq : ∀ L, Fr n0 L → Q_g_0 Z ga gx h0 n0 (some (.float gx)) T1.heap L := by
    intro L hN
    rw [e1]
    exact ⟨rfl, hN, rfl⟩
  rw [hG]
  exact Gl.fin (retOut X1 hx Bd.returns rfl (Or.inr (Or.inr (Or.inr (Or.inl ⟨rfl, rfl, _, rfl⟩)))) (hb hby d6_4) hr) ⟨_, hrun, hended, _, _, rfl, hq _ N0, ⟨_, rfl⟩, hW, hsame.mono (by decide) (by decide)⟩
theorem d7_0 : decode prog_4_method_12_code 0 = .ok (.aload_n 0, 1) := by decide +kernel
theorem d7_1 : decode prog_4_method_12_code 1 = .ok (.getfield 13, 3) := by decide +kernel
theorem d7_4 : decode prog_4_method_12_code 4 = .ok (.ireturn, 1) := by decide +kernel
theorem ef_g_1 (m : MethodId) (x0 : Addr) : entryFrame m #[(.ref x0)] 1 = mkF m 0 #[.val (.ref x0)] [] := by first | (simp [entryFrame, mkF, argsToLocals, Value.category]; done) | rfl | (simp [entryFrame, mkF, argsToLocals, *]; done)
def Q_g_1 (Z : State) (ga : Addr) (gx : Int32) (h0 : Heap) (n0 : Nat) (v : Option Value) (h : Heap) (L : List Loc) : Prop := v = some (.int gx) ∧ Fr n0 L ∧ h = h0
set_option maxRecDepth 65536 in
set_option maxHeartbeats 40000000 in
theorem g_1 (l : Launch) (Z : State) (a0 : Array Value) (hw : ∀ d ∈ tables_1, d.before a0 Z = true) (ws : List Jvm.Cond) (ga : Addr) (gx : Int32) (h0 : Heap) (n0 : Nat) (Z0 : n0 ≤ h0.size) (F0_ga_slidingWindowSize : Fld Z h0 ga "com/example/fail_to_forward/failtoforward/CircuitBreakerSettings" "slidingWindowSize" "I" (.int gx)) :
    MetFree l (⟨"com/example/fail_to_forward/failtoforward/CircuitBreakerSettings", "slidingWindowSize", "()I"⟩ : MethodName) (head1 (Jvm.Cond.code (⟨"com/example/fail_to_forward/failtoforward/CircuitBreakerSettings", "slidingWindowSize", "()I"⟩ : MethodName) prog_4_method_12_code 1 (some .int) :: ws) ({ frames := 0, cells := 0, slots := 0, locals := 0 } : Room)) (fun a U => a = #[(.ref ga)] ∧ Z.Warmed39 U.vm ∧ U.heap = h0) (fun _ _ _ _ _ => True) (fun _ U o U' => ∃ v L, o = .returned v ∧ Q_g_1 Z ga gx h0 n0 v U'.heap L ∧ FrameEnd U o U' L ({ frames := 0, cells := 0, slots := 0, locals := 0 } : Room).cells ({ frames := 0, cells := 0, slots := 0, locals := 0 } : Room).slots) := by
  refine MetFree.of_bodySF (plainFor_of_name pn_1) hisR ?_
  intro p e s m args below meth c s₁ Bd hml0 hP hK
  obtain ⟨rfl, hZ, hh⟩ := hP
  have hx := Bd.exec
  have hby := Bd.bytes
  have hml : c.maxLocals = 1 := hml0
  have hown : s.vm.findClass "com/example/fail_to_forward/failtoforward/CircuitBreakerSettings" = some m.cls := findClass_of_methodNamed Bd.named
  have hnm := (name_of_methodNamed Bd.named Bd.method).1
  have X0 : Stand p l e ({ frames := 0, cells := 0, slots := 0, locals := 0 } : Room) s m #[(.ref ga)] below meth c s₁ [] 0 0 := Stand.of_body Bd
  have e0 : s₁.heap = h0 := by rw [← hh, Bd.state]; rfl
  have N0 := Fr.nil n0
  obtain ⟨G, hG⟩ : ∃ G : State → Prop, G = (fun U' => ∃ o, U'.status = .running ∧ Ended U' below o ∧ ∃ v L, o = .returned v ∧ Q_g_1 Z ga gx h0 n0 v U'.heap L ∧ FrameEnd s o U' L ({ frames := 0, cells := 0, slots := 0, locals := 0 } : Room).cells ({ frames := 0, cells := 0, slots := 0, locals := 0 } : Room).slots) := ⟨_, rfl⟩
  suffices key : Gl p.tables e below s₁ (mkF m 0 #[.val (.ref ga)] []) G by
    obtain ⟨s₂, k1, k2⟩ := key
    rw [hG] at k2
    obtain ⟨o, k3, k4, k5⟩ := k2
    exact ⟨s₂, o, castTop (ef_g_1 m ga) k1, k3, k4, k5⟩
  show Gl p.tables e below s₁ (mkF m 0 #[.val (.ref ga)] []) G
  refine Gl.via (fun _ k => XS.aloadN X0.here hx rfl (hb hby d7_0) rfl rfl k) ?_
  show Gl p.tables e below s₁ (mkF m 1 #[.val (.ref ga)] [(.ref ga)]) G
  obtain ⟨T1, X1, e1, st1⟩ := getF X0 hx hZ hown (host := "") (Or.inl (hw _ (List.mem_of_getElem? (i := 22) rfl))) Via.refl e0 F0_ga_slidingWindowSize (g := (mkF m 1 #[.val (.ref ga)] [(.ref ga)])) rfl rfl (hb hby d7_1)
  refine Gl.via st1 ?_
  show Gl p.tables e below T1 (mkF m 4 #[.val (.ref ga)] [(.int gx)]) G
  obtain ⟨fs, hr, hrun, hended, hW, hsame⟩ := X1.leave (v := some (.int gx)) (fun h => by rw [Bd.returns] at h; cases h)
  have hq : ∀ L, Fr n0 L → Q_g_1 Z ga gx h0 n0 (some (.int gx)) T1.heap L := by
    intro L hN
    rw [e1]
    exact ⟨rfl, hN, rfl⟩
  rw [hG]
  exact Gl.fin (retOut X1 hx Bd.returns rfl (Or.inl ⟨rfl, Or.inl rfl, _, rfl⟩) (hb hby d7_4) hr) ⟨_, hrun, hended, _, _, rfl, hq _ N0, ⟨_, rfl⟩, hW, hsame.mono (by decide) (by decide)⟩
theorem d8_0 : decode prog_4_method_13_code 0 = .ok (.aload_n 0, 1) := by decide +kernel
theorem d8_1 : decode prog_4_method_13_code 1 = .ok (.getfield 17, 3) := by decide +kernel
theorem d8_4 : decode prog_4_method_13_code 4 = .ok (.ireturn, 1) := by decide +kernel
theorem ef_g_2 (m : MethodId) (x0 : Addr) : entryFrame m #[(.ref x0)] 1 = mkF m 0 #[.val (.ref x0)] [] := by first | (simp [entryFrame, mkF, argsToLocals, Value.category]; done) | rfl | (simp [entryFrame, mkF, argsToLocals, *]; done)
def Q_g_2 (Z : State) (ga : Addr) (gx : Int32) (h0 : Heap) (n0 : Nat) (v : Option Value) (h : Heap) (L : List Loc) : Prop := v = some (.int gx) ∧ Fr n0 L ∧ h = h0
set_option maxRecDepth 65536 in
set_option maxHeartbeats 40000000 in
theorem g_2 (l : Launch) (Z : State) (a0 : Array Value) (hw : ∀ d ∈ tables_1, d.before a0 Z = true) (ws : List Jvm.Cond) (ga : Addr) (gx : Int32) (h0 : Heap) (n0 : Nat) (Z0 : n0 ≤ h0.size) (F0_ga_minimumNumberOfCalls : Fld Z h0 ga "com/example/fail_to_forward/failtoforward/CircuitBreakerSettings" "minimumNumberOfCalls" "I" (.int gx)) :
    MetFree l (⟨"com/example/fail_to_forward/failtoforward/CircuitBreakerSettings", "minimumNumberOfCalls", "()I"⟩ : MethodName) (head1 (Jvm.Cond.code (⟨"com/example/fail_to_forward/failtoforward/CircuitBreakerSettings", "minimumNumberOfCalls", "()I"⟩ : MethodName) prog_4_method_13_code 1 (some .int) :: ws) ({ frames := 0, cells := 0, slots := 0, locals := 0 } : Room)) (fun a U => a = #[(.ref ga)] ∧ Z.Warmed39 U.vm ∧ U.heap = h0) (fun _ _ _ _ _ => True) (fun _ U o U' => ∃ v L, o = .returned v ∧ Q_g_2 Z ga gx h0 n0 v U'.heap L ∧ FrameEnd U o U' L ({ frames := 0, cells := 0, slots := 0, locals := 0 } : Room).cells ({ frames := 0, cells := 0, slots := 0, locals := 0 } : Room).slots) := by
  refine MetFree.of_bodySF (plainFor_of_name pn_1) hisR ?_
  intro p e s m args below meth c s₁ Bd hml0 hP hK
  obtain ⟨rfl, hZ, hh⟩ := hP
  have hx := Bd.exec
  have hby := Bd.bytes
  have hml : c.maxLocals = 1 := hml0
  have hown : s.vm.findClass "com/example/fail_to_forward/failtoforward/CircuitBreakerSettings" = some m.cls := findClass_of_methodNamed Bd.named
  have hnm := (name_of_methodNamed Bd.named Bd.method).1
  have X0 : Stand p l e ({ frames := 0, cells := 0, slots := 0, locals := 0 } : Room) s m #[(.ref ga)] below meth c s₁ [] 0 0 := Stand.of_body Bd
  have e0 : s₁.heap = h0 := by rw [← hh, Bd.state]; rfl
  have N0 := Fr.nil n0
  obtain ⟨G, hG⟩ : ∃ G : State → Prop, G = (fun U' => ∃ o, U'.status = .running ∧ Ended U' below o ∧ ∃ v L, o = .returned v ∧ Q_g_2 Z ga gx h0 n0 v U'.heap L ∧ FrameEnd s o U' L ({ frames := 0, cells := 0, slots := 0, locals := 0 } : Room).cells ({ frames := 0, cells := 0, slots := 0, locals := 0 } : Room).slots) := ⟨_, rfl⟩
  suffices key : Gl p.tables e below s₁ (mkF m 0 #[.val (.ref ga)] []) G by
    obtain ⟨s₂, k1, k2⟩ := key
    rw [hG] at k2
    obtain ⟨o, k3, k4, k5⟩ := k2
    exact ⟨s₂, o, castTop (ef_g_2 m ga) k1, k3, k4, k5⟩
  show Gl p.tables e below s₁ (mkF m 0 #[.val (.ref ga)] []) G
  refine Gl.via (fun _ k => XS.aloadN X0.here hx rfl (hb hby d8_0) rfl rfl k) ?_
  show Gl p.tables e below s₁ (mkF m 1 #[.val (.ref ga)] [(.ref ga)]) G
  obtain ⟨T1, X1, e1, st1⟩ := getF X0 hx hZ hown (host := "") (Or.inl (hw _ (List.mem_of_getElem? (i := 24) rfl))) Via.refl e0 F0_ga_minimumNumberOfCalls (g := (mkF m 1 #[.val (.ref ga)] [(.ref ga)])) rfl rfl (hb hby d8_1)
  refine Gl.via st1 ?_
  show Gl p.tables e below T1 (mkF m 4 #[.val (.ref ga)] [(.int gx)]) G
  obtain ⟨fs, hr, hrun, hended, hW, hsame⟩ := X1.leave (v := some (.int gx)) (fun h => by rw [Bd.returns] at h; cases h)
  have hq : ∀ L, Fr n0 L → Q_g_2 Z ga gx h0 n0 (some (.int gx)) T1.heap L := by
    intro L hN
    rw [e1]
    exact ⟨rfl, hN, rfl⟩
  rw [hG]
  exact Gl.fin (retOut X1 hx Bd.returns rfl (Or.inl ⟨rfl, Or.inl rfl, _, rfl⟩) (hb hby d8_4) hr) ⟨_, hrun, hended, _, _, rfl, hq _ N0, ⟨_, rfl⟩, hW, hsame.mono (by decide) (by decide)⟩
theorem d9_0 : decode prog_4_method_14_code 0 = .ok (.aload_n 0, 1) := by decide +kernel
theorem d9_1 : decode prog_4_method_14_code 1 = .ok (.getfield 20, 3) := by decide +kernel
theorem d9_4 : decode prog_4_method_14_code 4 = .ok (.lreturn, 1) := by decide +kernel
theorem ef_g_3 (m : MethodId) (x0 : Addr) : entryFrame m #[(.ref x0)] 1 = mkF m 0 #[.val (.ref x0)] [] := by first | (simp [entryFrame, mkF, argsToLocals, Value.category]; done) | rfl | (simp [entryFrame, mkF, argsToLocals, *]; done)
def Q_g_3 (Z : State) (ga : Addr) (gx : Int64) (h0 : Heap) (n0 : Nat) (v : Option Value) (h : Heap) (L : List Loc) : Prop := v = some (.long gx) ∧ Fr n0 L ∧ h = h0
set_option maxRecDepth 65536 in
set_option maxHeartbeats 40000000 in
theorem g_3 (l : Launch) (Z : State) (a0 : Array Value) (hw : ∀ d ∈ tables_1, d.before a0 Z = true) (ws : List Jvm.Cond) (ga : Addr) (gx : Int64) (h0 : Heap) (n0 : Nat) (Z0 : n0 ≤ h0.size) (F0_ga_waitDurationInOpenStateMs : Fld Z h0 ga "com/example/fail_to_forward/failtoforward/CircuitBreakerSettings" "waitDurationInOpenStateMs" "J" (.long gx)) :
    MetFree l (⟨"com/example/fail_to_forward/failtoforward/CircuitBreakerSettings", "waitDurationInOpenStateMs", "()J"⟩ : MethodName) (head1 (Jvm.Cond.code (⟨"com/example/fail_to_forward/failtoforward/CircuitBreakerSettings", "waitDurationInOpenStateMs", "()J"⟩ : MethodName) prog_4_method_14_code 1 (some .long) :: ws) ({ frames := 0, cells := 0, slots := 0, locals := 0 } : Room)) (fun a U => a = #[(.ref ga)] ∧ Z.Warmed39 U.vm ∧ U.heap = h0) (fun _ _ _ _ _ => True) (fun _ U o U' => ∃ v L, o = .returned v ∧ Q_g_3 Z ga gx h0 n0 v U'.heap L ∧ FrameEnd U o U' L ({ frames := 0, cells := 0, slots := 0, locals := 0 } : Room).cells ({ frames := 0, cells := 0, slots := 0, locals := 0 } : Room).slots) := by
  refine MetFree.of_bodySF (plainFor_of_name pn_1) hisR ?_
  intro p e s m args below meth c s₁ Bd hml0 hP hK
  obtain ⟨rfl, hZ, hh⟩ := hP
  have hx := Bd.exec
  have hby := Bd.bytes
  have hml : c.maxLocals = 1 := hml0
  have hown : s.vm.findClass "com/example/fail_to_forward/failtoforward/CircuitBreakerSettings" = some m.cls := findClass_of_methodNamed Bd.named
  have hnm := (name_of_methodNamed Bd.named Bd.method).1
  have X0 : Stand p l e ({ frames := 0, cells := 0, slots := 0, locals := 0 } : Room) s m #[(.ref ga)] below meth c s₁ [] 0 0 := Stand.of_body Bd
  have e0 : s₁.heap = h0 := by rw [← hh, Bd.state]; rfl
  have N0 := Fr.nil n0
  obtain ⟨G, hG⟩ : ∃ G : State → Prop, G = (fun U' => ∃ o, U'.status = .running ∧ Ended U' below o ∧ ∃ v L, o = .returned v ∧ Q_g_3 Z ga gx h0 n0 v U'.heap L ∧ FrameEnd s o U' L ({ frames := 0, cells := 0, slots := 0, locals := 0 } : Room).cells ({ frames := 0, cells := 0, slots := 0, locals := 0 } : Room).slots) := ⟨_, rfl⟩
  suffices key : Gl p.tables e below s₁ (mkF m 0 #[.val (.ref ga)] []) G by
    obtain ⟨s₂, k1, k2⟩ := key
    rw [hG] at k2
    obtain ⟨o, k3, k4, k5⟩ := k2
    exact ⟨s₂, o, castTop (ef_g_3 m ga) k1, k3, k4, k5⟩
  show Gl p.tables e below s₁ (mkF m 0 #[.val (.ref ga)] []) G
  refine Gl.via (fun _ k => XS.aloadN X0.here hx rfl (hb hby d9_0) rfl rfl k) ?_
  show Gl p.tables e below s₁ (mkF m 1 #[.val (.ref ga)] [(.ref ga)]) G
  obtain ⟨T1, X1, e1, st1⟩ := getF X0 hx hZ hown (host := "") (Or.inl (hw _ (List.mem_of_getElem? (i := 26) rfl))) Via.refl e0 F0_ga_waitDurationInOpenStateMs (g := (mkF m 1 #[.val (.ref ga)] [(.ref ga)])) rfl rfl (hb hby d9_1)
  refine Gl.via st1 ?_
  show Gl p.tables e below T1 (mkF m 4 #[.val (.ref ga)] [(.long gx)]) G
  obtain ⟨fs, hr, hrun, hended, hW, hsame⟩ := X1.leave (v := some (.long gx)) (fun h => by rw [Bd.returns] at h; cases h)
  have hq : ∀ L, Fr n0 L → Q_g_3 Z ga gx h0 n0 (some (.long gx)) T1.heap L := by
    intro L hN
    rw [e1]
    exact ⟨rfl, hN, rfl⟩
  rw [hG]
  exact Gl.fin (retOut X1 hx Bd.returns rfl (Or.inr (Or.inl ⟨rfl, rfl, _, rfl⟩)) (hb hby d9_4) hr) ⟨_, hrun, hended, _, _, rfl, hq _ N0, ⟨_, rfl⟩, hW, hsame.mono (by decide) (by decide)⟩
theorem d10_0 : decode prog_4_method_15_code 0 = .ok (.aload_n 0, 1) := by decide +kernel
theorem d10_1 : decode prog_4_method_15_code 1 = .ok (.getfield 24, 3) := by decide +kernel
theorem d10_4 : decode prog_4_method_15_code 4 = .ok (.ireturn, 1) := by decide +kernel
theorem ef_g_4 (m : MethodId) (x0 : Addr) : entryFrame m #[(.ref x0)] 1 = mkF m 0 #[.val (.ref x0)] [] := by first | (simp [entryFrame, mkF, argsToLocals, Value.category]; done) | rfl | (simp [entryFrame, mkF, argsToLocals, *]; done)
def Q_g_4 (Z : State) (ga : Addr) (gx : Int32) (h0 : Heap) (n0 : Nat) (v : Option Value) (h : Heap) (L : List Loc) : Prop := v = some (.int gx) ∧ Fr n0 L ∧ h = h0
set_option maxRecDepth 65536 in
set_option maxHeartbeats 40000000 in
theorem g_4 (l : Launch) (Z : State) (a0 : Array Value) (hw : ∀ d ∈ tables_1, d.before a0 Z = true) (ws : List Jvm.Cond) (ga : Addr) (gx : Int32) (h0 : Heap) (n0 : Nat) (Z0 : n0 ≤ h0.size) (F0_ga_permittedNumberOfCallsInHalfOpenState : Fld Z h0 ga "com/example/fail_to_forward/failtoforward/CircuitBreakerSettings" "permittedNumberOfCallsInHalfOpenState" "I" (.int gx)) :
    MetFree l (⟨"com/example/fail_to_forward/failtoforward/CircuitBreakerSettings", "permittedNumberOfCallsInHalfOpenState", "()I"⟩ : MethodName) (head1 (Jvm.Cond.code (⟨"com/example/fail_to_forward/failtoforward/CircuitBreakerSettings", "permittedNumberOfCallsInHalfOpenState", "()I"⟩ : MethodName) prog_4_method_15_code 1 (some .int) :: ws) ({ frames := 0, cells := 0, slots := 0, locals := 0 } : Room)) (fun a U => a = #[(.ref ga)] ∧ Z.Warmed39 U.vm ∧ U.heap = h0) (fun _ _ _ _ _ => True) (fun _ U o U' => ∃ v L, o = .returned v ∧ Q_g_4 Z ga gx h0 n0 v U'.heap L ∧ FrameEnd U o U' L ({ frames := 0, cells := 0, slots := 0, locals := 0 } : Room).cells ({ frames := 0, cells := 0, slots := 0, locals := 0 } : Room).slots) := by
  refine MetFree.of_bodySF (plainFor_of_name pn_1) hisR ?_
  intro p e s m args below meth c s₁ Bd hml0 hP hK
  obtain ⟨rfl, hZ, hh⟩ := hP
  have hx := Bd.exec
  have hby := Bd.bytes
  have hml : c.maxLocals = 1 := hml0
  have hown : s.vm.findClass "com/example/fail_to_forward/failtoforward/CircuitBreakerSettings" = some m.cls := findClass_of_methodNamed Bd.named
  have hnm := (name_of_methodNamed Bd.named Bd.method).1
  have X0 : Stand p l e ({ frames := 0, cells := 0, slots := 0, locals := 0 } : Room) s m #[(.ref ga)] below meth c s₁ [] 0 0 := Stand.of_body Bd
  have e0 : s₁.heap = h0 := by rw [← hh, Bd.state]; rfl
  have N0 := Fr.nil n0
  obtain ⟨G, hG⟩ : ∃ G : State → Prop, G = (fun U' => ∃ o, U'.status = .running ∧ Ended U' below o ∧ ∃ v L, o = .returned v ∧ Q_g_4 Z ga gx h0 n0 v U'.heap L ∧ FrameEnd s o U' L ({ frames := 0, cells := 0, slots := 0, locals := 0 } : Room).cells ({ frames := 0, cells := 0, slots := 0, locals := 0 } : Room).slots) := ⟨_, rfl⟩
  suffices key : Gl p.tables e below s₁ (mkF m 0 #[.val (.ref ga)] []) G by
    obtain ⟨s₂, k1, k2⟩ := key
    rw [hG] at k2
    obtain ⟨o, k3, k4, k5⟩ := k2
    exact ⟨s₂, o, castTop (ef_g_4 m ga) k1, k3, k4, k5⟩
  show Gl p.tables e below s₁ (mkF m 0 #[.val (.ref ga)] []) G
  refine Gl.via (fun _ k => XS.aloadN X0.here hx rfl (hb hby d10_0) rfl rfl k) ?_
  show Gl p.tables e below s₁ (mkF m 1 #[.val (.ref ga)] [(.ref ga)]) G
  obtain ⟨T1, X1, e1, st1⟩ := getF X0 hx hZ hown (host := "") (Or.inl (hw _ (List.mem_of_getElem? (i := 28) rfl))) Via.refl e0 F0_ga_permittedNumberOfCallsInHalfOpenState (g := (mkF m 1 #[.val (.ref ga)] [(.ref ga)])) rfl rfl (hb hby d10_1)
  refine Gl.via st1 ?_
  show Gl p.tables e below T1 (mkF m 4 #[.val (.ref ga)] [(.int gx)]) G
  obtain ⟨fs, hr, hrun, hended, hW, hsame⟩ := X1.leave (v := some (.int gx)) (fun h => by rw [Bd.returns] at h; cases h)
  have hq : ∀ L, Fr n0 L → Q_g_4 Z ga gx h0 n0 (some (.int gx)) T1.heap L := by
    intro L hN
    rw [e1]
    exact ⟨rfl, hN, rfl⟩
  rw [hG]
  exact Gl.fin (retOut X1 hx Bd.returns rfl (Or.inl ⟨rfl, Or.inl rfl, _, rfl⟩) (hb hby d10_4) hr) ⟨_, hrun, hended, _, _, rfl, hq _ N0, ⟨_, rfl⟩, hW, hsame.mono (by decide) (by decide)⟩
def own_q : UInt32 := 1082130432
theorem own_q_fin : Fin32 own_q := by unfold Fin32 own_q; decide
theorem own_q_nz : Nz32 own_q := by unfold Nz32 own_q; decide
theorem own_div (n : Int32) : NoNaN32 (FP.fdiv (FP.i2f n) (1082130432 : UInt32)) := fdiv_out (i2f_fin n).noNaN own_q_fin own_q_nz
def own_t (x : Int32) : UInt32 := FP.fdiv (FP.i2f (((x &&& (2147483647 : Int32)) % (400 : Int32)) + (1 : Int32))) (1082130432 : UInt32)
theorem own_thr (x : Int32) : NoNaN32 (own_t x) := own_div _
theorem pn_2 : plainName "com/example/fail_to_forward/failtoforward/CircuitBreakerSettingsWithFailureRateThresholdPinLaw" = true := by first | (simp [plainName, overriddenIn]; done) | decide +kernel
theorem d1_0 : decode method_2_code 0 = .ok (.iload_n 0, 1) := by decide +kernel
theorem d1_1 : decode method_2_code 1 = .ok (.ldc 7, 2) := by decide +kernel
theorem d1_3 : decode method_2_code 3 = .ok (.iand, 1) := by decide +kernel
theorem d1_4 : decode method_2_code 4 = .ok (.sipush 400, 3) := by decide +kernel
theorem d1_7 : decode method_2_code 7 = .ok (.irem, 1) := by decide +kernel
theorem d1_8 : decode method_2_code 8 = .ok (.iconst 1, 1) := by decide +kernel
theorem d1_9 : decode method_2_code 9 = .ok (.iadd, 1) := by decide +kernel
theorem d1_10 : decode method_2_code 10 = .ok (.i2f, 1) := by decide +kernel
theorem d1_11 : decode method_2_code 11 = .ok (.ldc 8, 2) := by decide +kernel
theorem d1_13 : decode method_2_code 13 = .ok (.fdiv, 1) := by decide +kernel
theorem d1_14 : decode method_2_code 14 = .ok (.freturn, 1) := by decide +kernel
theorem ef_thr (m : MethodId) (x0 : Int32) : entryFrame m #[(.int x0)] 1 = mkF m 0 #[.val (.int x0)] [] := by first | (simp [entryFrame, mkF, argsToLocals, Value.category]; done) | rfl | (simp [entryFrame, mkF, argsToLocals, *]; done)
def Q_thr (Z : State) (tx : Int32) (h0 : Heap) (n0 : Nat) (v : Option Value) (h : Heap) (L : List Loc) : Prop := v = some (.float (own_t tx)) ∧ Fr n0 L ∧ h = h0
set_option maxRecDepth 65536 in
set_option maxHeartbeats 40000000 in
theorem thr (l : Launch) (Z : State) (a0 : Array Value) (hw : ∀ d ∈ tables_1, d.before a0 Z = true) (ws : List Jvm.Cond) (tx : Int32) (h0 : Heap) (n0 : Nat) (Z0 : n0 ≤ h0.size) :
    MetFree l (⟨"com/example/fail_to_forward/failtoforward/CircuitBreakerSettingsWithFailureRateThresholdPinLaw", "threshold", "(I)F"⟩ : MethodName) (head1 (Jvm.Cond.code (⟨"com/example/fail_to_forward/failtoforward/CircuitBreakerSettingsWithFailureRateThresholdPinLaw", "threshold", "(I)F"⟩ : MethodName) method_2_code 1 (some .float) :: ws) ({ frames := 0, cells := 0, slots := 0, locals := 0 } : Room)) (fun a U => a = #[(.int tx)] ∧ Z.Warmed39 U.vm ∧ U.heap = h0) (fun _ _ _ _ _ => True) (fun _ U o U' => ∃ v L, o = .returned v ∧ Q_thr Z tx h0 n0 v U'.heap L ∧ FrameEnd U o U' L ({ frames := 0, cells := 0, slots := 0, locals := 0 } : Room).cells ({ frames := 0, cells := 0, slots := 0, locals := 0 } : Room).slots) := by
  refine MetFree.of_bodySF (plainFor_of_name pn_2) hisR ?_
  intro p e s m args below meth c s₁ Bd hml0 hP hK
  obtain ⟨rfl, hZ, hh⟩ := hP
  have hx := Bd.exec
  have hby := Bd.bytes
  have hml : c.maxLocals = 1 := hml0
  have hown : s.vm.findClass "com/example/fail_to_forward/failtoforward/CircuitBreakerSettingsWithFailureRateThresholdPinLaw" = some m.cls := findClass_of_methodNamed Bd.named
  have hnm := (name_of_methodNamed Bd.named Bd.method).1
  have X0 : Stand p l e ({ frames := 0, cells := 0, slots := 0, locals := 0 } : Room) s m #[(.int tx)] below meth c s₁ [] 0 0 := Stand.of_body Bd
  have e0 : s₁.heap = h0 := by rw [← hh, Bd.state]; rfl
  have N0 := Fr.nil n0
  obtain ⟨G, hG⟩ : ∃ G : State → Prop, G = (fun U' => ∃ o, U'.status = .running ∧ Ended U' below o ∧ ∃ v L, o = .returned v ∧ Q_thr Z tx h0 n0 v U'.heap L ∧ FrameEnd s o U' L ({ frames := 0, cells := 0, slots := 0, locals := 0 } : Room).cells ({ frames := 0, cells := 0, slots := 0, locals := 0 } : Room).slots) := ⟨_, rfl⟩
  suffices key : Gl p.tables e below s₁ (mkF m 0 #[.val (.int tx)] []) G by
    obtain ⟨s₂, k1, k2⟩ := key
    rw [hG] at k2
    obtain ⟨o, k3, k4, k5⟩ := k2
    exact ⟨s₂, o, castTop (ef_thr m tx) k1, k3, k4, k5⟩
  show Gl p.tables e below s₁ (mkF m 0 #[.val (.int tx)] []) G
  refine Gl.via (fun _ k => XS.iloadN X0.here hx rfl (hb hby d1_0) rfl k) ?_
  show Gl p.tables e below s₁ (mkF m 1 #[.val (.int tx)] [(.int tx)]) G
  refine Gl.via (fun _ k => X0.ldcInt hx hown (mvT hZ (hw _ (List.mem_of_getElem? (i := 4) rfl))) (g := (mkF m 1 #[.val (.int tx)] [(.int tx)])) rfl (hb hby d1_1) _ k) ?_
  show Gl p.tables e below s₁ (mkF m 3 #[.val (.int tx)] [(.int (2147483647 : Int32)), (.int tx)]) G
  refine Gl.via (fun _ k => XS.iand X0.here hx rfl (hb hby d1_3) rfl k) ?_
  show Gl p.tables e below s₁ (mkF m 4 #[.val (.int tx)] [(.int (tx &&& (2147483647 : Int32)))]) G
  refine Gl.via (fun _ k => XS.sipush X0.here hx rfl (hb hby d1_4) k) ?_
  show Gl p.tables e below s₁ (mkF m 7 #[.val (.int tx)] [(.int (400 : Int32)), (.int (tx &&& (2147483647 : Int32)))]) G
  refine Gl.via (fun _ k => XS.irem X0.here hx rfl (hb hby d1_7) rfl (by decide) k) ?_
  show Gl p.tables e below s₁ (mkF m 8 #[.val (.int tx)] [(.int ((tx &&& (2147483647 : Int32)) - ((tx &&& (2147483647 : Int32)) / (400 : Int32)) * (400 : Int32)))]) G
  rw [show ((tx &&& (2147483647 : Int32)) - ((tx &&& (2147483647 : Int32)) / (400 : Int32)) * (400 : Int32)) = ((tx &&& (2147483647 : Int32)) % (400 : Int32)) from (irem_eq_mod _ _)]
  show Gl p.tables e below s₁ (mkF m 8 #[.val (.int tx)] [(.int ((tx &&& (2147483647 : Int32)) % (400 : Int32)))]) G
  refine Gl.via (fun _ k => XS.iconst X0.here hx rfl (hb hby d1_8) k) ?_
  show Gl p.tables e below s₁ (mkF m 9 #[.val (.int tx)] [(.int (1 : Int32)), (.int ((tx &&& (2147483647 : Int32)) % (400 : Int32)))]) G
  refine Gl.via (fun _ k => XS.iadd X0.here hx rfl (hb hby d1_9) rfl k) ?_
  show Gl p.tables e below s₁ (mkF m 10 #[.val (.int tx)] [(.int (((tx &&& (2147483647 : Int32)) % (400 : Int32)) + (1 : Int32)))]) G
  refine Gl.via (fun _ k => XS.i2fS X0.here hx rfl (hb hby d1_10) rfl rfl k) ?_
  show Gl p.tables e below s₁ (mkF m 11 #[.val (.int tx)] [(.float (FP.i2f (((tx &&& (2147483647 : Int32)) % (400 : Int32)) + (1 : Int32))))]) G
  refine Gl.via (fun _ k => X0.ldcFloatC hx hown (mvT hZ (hw _ (List.mem_of_getElem? (i := 5) rfl))) (g := (mkF m 11 #[.val (.int tx)] [(.float (FP.i2f (((tx &&& (2147483647 : Int32)) % (400 : Int32)) + (1 : Int32))))])) rfl (hb hby d1_11) _ k) ?_
  show Gl p.tables e below s₁ (mkF m 13 #[.val (.int tx)] [(.float (1082130432 : UInt32)), (.float (FP.i2f (((tx &&& (2147483647 : Int32)) % (400 : Int32)) + (1 : Int32))))]) G
  refine Gl.via (fun _ k => XS.fdivS X0.here hx rfl (hb hby d1_13) rfl (own_div _) rfl k) ?_
  show Gl p.tables e below s₁ (mkF m 14 #[.val (.int tx)] [(.float (own_t tx))]) G
  obtain ⟨fs, hr, hrun, hended, hW, hsame⟩ := X0.leave (v := some (.float (own_t tx))) (fun h => by rw [Bd.returns] at h; cases h)
  have hq : ∀ L, Fr n0 L → Q_thr Z tx h0 n0 (some (.float (own_t tx))) s₁.heap L := by
    intro L hN
    rw [e0]
    exact ⟨rfl, hN, rfl⟩
  rw [hG]
  exact Gl.fin (retOut X0 hx Bd.returns rfl (Or.inr (Or.inr (Or.inr (Or.inl ⟨rfl, rfl, _, rfl⟩)))) (hb hby d1_14) hr) ⟨_, hrun, hended, _, _, rfl, hq _ N0, ⟨_, rfl⟩, hW, hsame.mono (by decide) (by decide)⟩
theorem pd_2 : parseMethodDescriptor "(I)F" = some ⟨[.int], some .float⟩ := by decide +kernel
theorem pd_3 : parseMethodDescriptor "(F)Lcom/example/fail_to_forward/failtoforward/CircuitBreakerSettings;" = some ⟨[.float], some (.object "com/example/fail_to_forward/failtoforward/CircuitBreakerSettings")⟩ := by decide +kernel
theorem pd_4 : parseMethodDescriptor "()F" = some ⟨[], some .float⟩ := by decide +kernel
theorem pd_5 : parseMethodDescriptor "()I" = some ⟨[], some .int⟩ := by decide +kernel
theorem pd_6 : parseMethodDescriptor "()J" = some ⟨[], some .long⟩ := by decide +kernel
theorem ef_rm0 (m : MethodId) (x0 : Int32) (x1 : Int32) (x2 : Int32) (x3 : Int32) (x4 : Int64) (x5 : Int32) : entryFrame m #[(.int x0), (.int x1), (.int x2), (.int x3), (.long x4), (.int x5)] maxLocals = mkF m 0 #[.val (.int x0), .val (.int x1), .val (.int x2), .val (.int x3), .val (.long x4), .second, .val (.int x5), .unset, .unset, .unset, .unset, .unset] [] := by first | (simp [entryFrame, mkF, argsToLocals, Value.category, maxLocals]; done) | rfl | (simp [entryFrame, mkF, argsToLocals, *]; done)
def Q_rm0 (Z : State) (p0 : Int32) (p1 : Int32) (p2 : Int32) (p3 : Int32) (p4 : Int64) (p5 : Int32) (h0 : Heap) (n0 : Nat) (v : Option Value) (h : Heap) (L : List Loc) : Prop := v = some (.int (1 : Int32)) ∧ Fr n0 L
set_option maxRecDepth 65536 in
set_option maxHeartbeats 40000000 in
theorem rm0 (l : Launch) (Z : State) (a0 : Array Value) (hw : ∀ d ∈ tables_1, d.before a0 Z = true) (ws : List Jvm.Cond) (p0 : Int32) (p1 : Int32) (p2 : Int32) (p3 : Int32) (p4 : Int64) (p5 : Int32) (h0 : Heap) (n0 : Nat) (Z0 : n0 ≤ h0.size) :
    MetFree l x (head1 (Jvm.Cond.code x code maxLocals ret :: ws) room_1) (fun a U => a = #[(.int p0), (.int p1), (.int p2), (.int p3), (.long p4), (.int p5)] ∧ Z.Warmed39 U.vm ∧ U.heap = h0) (fun _ _ _ _ _ => True) (fun _ U o U' => ∃ v L, o = .returned v ∧ Q_rm0 Z p0 p1 p2 p3 p4 p5 h0 n0 v U'.heap L ∧ FrameEnd U o U' L 2 10) := by
  refine MetFree.of_bodySF (plainFor_of_name pn_2) hisR ?_
  intro p e s m args below meth c s₁ Bd hml0 hP hK
  obtain ⟨rfl, hZ, hh⟩ := hP
  have hx := Bd.exec
  have hby := Bd.bytes
  have hml : c.maxLocals = 12 := hml0
  have hown : s.vm.findClass "com/example/fail_to_forward/failtoforward/CircuitBreakerSettingsWithFailureRateThresholdPinLaw" = some m.cls := findClass_of_methodNamed Bd.named
  have hnm := (name_of_methodNamed Bd.named Bd.method).1
  have X0 : Stand p l e room_1 s m #[(.int p0), (.int p1), (.int p2), (.int p3), (.long p4), (.int p5)] below meth c s₁ [] 0 0 := Stand.of_body Bd
  have e0 : s₁.heap = h0 := by rw [← hh, Bd.state]; rfl
  have N0 := Fr.nil n0
  obtain ⟨G, hG⟩ : ∃ G : State → Prop, G = (fun U' => ∃ o, U'.status = .running ∧ Ended U' below o ∧ ∃ v L, o = .returned v ∧ Q_rm0 Z p0 p1 p2 p3 p4 p5 h0 n0 v U'.heap L ∧ FrameEnd s o U' L 2 10) := ⟨_, rfl⟩
  suffices key : Gl p.tables e below s₁ (mkF m 0 #[.val (.int p0), .val (.int p1), .val (.int p2), .val (.int p3), .val (.long p4), .second, .val (.int p5), .unset, .unset, .unset, .unset, .unset] []) G by
    obtain ⟨s₂, k1, k2⟩ := key
    rw [hG] at k2
    obtain ⟨o, k3, k4, k5⟩ := k2
    exact ⟨s₂, o, castTop (ef_rm0 m p0 p1 p2 p3 p4 p5) k1, k3, k4, k5⟩
  show Gl p.tables e below s₁ (mkF m 0 #[.val (.int p0), .val (.int p1), .val (.int p2), .val (.int p3), .val (.long p4), .second, .val (.int p5), .unset, .unset, .unset, .unset, .unset] []) G
  refine Gl.via (fun _ k => XS.iloadN X0.here hx rfl (hb hby at_0) rfl k) ?_
  show Gl p.tables e below s₁ (mkF m 1 #[.val (.int p0), .val (.int p1), .val (.int p2), .val (.int p3), .val (.long p4), .second, .val (.int p5), .unset, .unset, .unset, .unset, .unset] [(.int p0)]) G
  obtain ⟨_, _, ⟨T1, L1, k1, n1⟩, -, X1, ⟨Lc1, hQ1, l1, y1, z1⟩, st1⟩ := Jvm.LawKit.callS X0 hx (y := (⟨"com/example/fail_to_forward/failtoforward/CircuitBreakerSettingsWithFailureRateThresholdPinLaw", "threshold", "(I)F"⟩ : MethodName)) hown (mvT hZ (hw _ (List.mem_of_getElem? (i := 0) rfl))) (mvT hZ (hw _ (List.mem_of_getElem? (i := 1) rfl))) (mvT hZ (hw _ (List.mem_of_getElem? (i := 2) rfl))) (mvT hZ (hw _ (List.mem_of_getElem? (i := 3) rfl))) (by decide) (backOf (W := 0) (thr l Z a0 hw [] p0 h0 n0 Z0 ) hZ (hw _ (List.mem_of_getElem? (i := 3) rfl)) (hw _ (List.mem_of_getElem? (i := 2) rfl)) (by decide) (by decide)) (g := (mkF m 1 #[.val (.int p0), .val (.int p1), .val (.int p2), .val (.int p3), .val (.long p4), .second, .val (.int p5), .unset, .unset, .unset, .unset, .unset] [(.int p0)])) rfl (by rw [hml]; rfl) (argsL := [(.int p0)]) (rest := []) (lenOf pd_2 rfl) rfl (by show 2 * 0 + _ ≤ _; exact Nat.le_of_eq rfl) (hb hby at_1) (fun _ _ => ⟨rfl, e0, (by decide : 0 + 0 ≤ _), (by decide : 0 + 0 ≤ _)⟩)
  dsimp only [Pt.U, Pt.locs, Pt.cells, Pt.slots] at X1 l1 y1 z1 st1 hQ1
  subst l1 y1 z1
  obtain ⟨rfl, N1q, eh1⟩ := hQ1
  have N1_ := Fr.app N0 N1q
  refine Gl.via (fun _ k => st1 _ k) ?_
  show Gl p.tables e below T1 (mkF m 4 #[.val (.int p0), .val (.int p1), .val (.int p2), .val (.int p3), .val (.long p4), .second, .val (.int p5), .unset, .unset, .unset, .unset, .unset] [(.float (own_t p0))]) G
  refine Gl.via (fun _ k => XS.fstore X1.here hx rfl (hb hby at_4) rfl (l' := #[.val (.int p0), .val (.int p1), .val (.int p2), .val (.int p3), .val (.long p4), .second, .val (.int p5), .val (.float (own_t p0)), .unset, .unset, .unset, .unset]) rfl k) ?_
  show Gl p.tables e below T1 (mkF m 6 #[.val (.int p0), .val (.int p1), .val (.int p2), .val (.int p3), .val (.long p4), .second, .val (.int p5), .val (.float (own_t p0)), .unset, .unset, .unset, .unset] []) G
  refine Gl.via (fun _ k => XS.iloadN X1.here hx rfl (hb hby at_6) rfl k) ?_
  show Gl p.tables e below T1 (mkF m 7 #[.val (.int p0), .val (.int p1), .val (.int p2), .val (.int p3), .val (.long p4), .second, .val (.int p5), .val (.float (own_t p0)), .unset, .unset, .unset, .unset] [(.int p1)]) G
  obtain ⟨_, _, ⟨T2, L2, k2, n2⟩, -, X2, ⟨Lc2, hQ2, l2, y2, z2⟩, st2⟩ := Jvm.LawKit.callS X1 hx (y := (⟨"com/example/fail_to_forward/failtoforward/CircuitBreakerSettingsWithFailureRateThresholdPinLaw", "threshold", "(I)F"⟩ : MethodName)) hown (mvT hZ (hw _ (List.mem_of_getElem? (i := 0) rfl))) (mvT hZ (hw _ (List.mem_of_getElem? (i := 1) rfl))) (mvT hZ (hw _ (List.mem_of_getElem? (i := 2) rfl))) (mvT hZ (hw _ (List.mem_of_getElem? (i := 3) rfl))) (by decide) (backOf (W := 0) (thr l Z a0 hw [] p1 h0 n0 Z0 ) hZ (hw _ (List.mem_of_getElem? (i := 3) rfl)) (hw _ (List.mem_of_getElem? (i := 2) rfl)) (by decide) (by decide)) (g := (mkF m 7 #[.val (.int p0), .val (.int p1), .val (.int p2), .val (.int p3), .val (.long p4), .second, .val (.int p5), .val (.float (own_t p0)), .unset, .unset, .unset, .unset] [(.int p1)])) rfl (by rw [hml]; rfl) (argsL := [(.int p1)]) (rest := []) (lenOf pd_2 rfl) rfl (by show 2 * 0 + _ ≤ _; exact Nat.le_of_eq rfl) (hb hby at_7) (fun _ _ => ⟨rfl, eh1, (by decide : 0 + 0 ≤ _), (by decide : 0 + 0 ≤ _)⟩)
  dsimp only [Pt.U, Pt.locs, Pt.cells, Pt.slots] at X2 l2 y2 z2 st2 hQ2
  subst l2 y2 z2
  obtain ⟨rfl, N2q, eh2⟩ := hQ2
  have N2_ := Fr.app N1_ N2q
  refine Gl.via (fun _ k => st2 _ k) ?_
  show Gl p.tables e below T2 (mkF m 10 #[.val (.int p0), .val (.int p1), .val (.int p2), .val (.int p3), .val (.long p4), .second, .val (.int p5), .val (.float (own_t p0)), .unset, .unset, .unset, .unset] [(.float (own_t p1))]) G
  refine Gl.via (fun _ k => XS.fstore X2.here hx rfl (hb hby at_10) rfl (l' := #[.val (.int p0), .val (.int p1), .val (.int p2), .val (.int p3), .val (.long p4), .second, .val (.int p5), .val (.float (own_t p0)), .val (.float (own_t p1)), .unset, .unset, .unset]) rfl k) ?_
  show Gl p.tables e below T2 (mkF m 12 #[.val (.int p0), .val (.int p1), .val (.int p2), .val (.int p3), .val (.long p4), .second, .val (.int p5), .val (.float (own_t p0)), .val (.float (own_t p1)), .unset, .unset, .unset] []) G
  obtain ⟨T3, h3, X3, e3, E3, A3, D3, -, st3⟩ := newO X2 hx hZ hown (hw _ (List.mem_of_getElem? (i := 6) rfl)) (hw _ (List.mem_of_getElem? (i := 7) rfl)) (hw _ (List.mem_of_getElem? (i := 8) rfl)) eh2 (g := (mkF m 12 #[.val (.int p0), .val (.int p1), .val (.int p2), .val (.int p3), .val (.long p4), .second, .val (.int p5), .val (.float (own_t p0)), .val (.float (own_t p1)), .unset, .unset, .unset] [])) rfl (hb hby at_12) (by decide) (by decide)
  obtain ⟨b3, g3⟩ : ∃ z, z = h0.size := ⟨_, rfl⟩
  rw [← g3] at A3 D3 st3
  have ge4 : n0 ≤ b3 := Nat.le_trans Z0 (Nat.le_of_eq g3.symm)
  have gz5 : h0.size ≤ b3 := Nat.le_trans (Nat.le_refl h0.size) (Nat.le_of_eq g3.symm)
  refine Gl.via st3 ?_
  have Z6 : n0 ≤ h3.size := Nat.le_trans Z0 E3.1
  have Y7 : h0.size ≤ h3.size := Nat.le_trans (Nat.le_refl h0.size) E3.1
  have F8 : Fld Z h3 b3 "com/example/fail_to_forward/failtoforward/CircuitBreakerSettings" "failureRateThreshold" "F" (.float (0 : UInt32)) := D3 (Or.inr (hw _ (List.mem_of_getElem? (i := 21) rfl))) (ty := .float) (by decide)
  have F9 : Fld Z h3 b3 "com/example/fail_to_forward/failtoforward/CircuitBreakerSettings" "slidingWindowSize" "I" (.int (0 : Int32)) := D3 (Or.inr (hw _ (List.mem_of_getElem? (i := 23) rfl))) (ty := .int) (by decide)
  have F10 : Fld Z h3 b3 "com/example/fail_to_forward/failtoforward/CircuitBreakerSettings" "minimumNumberOfCalls" "I" (.int (0 : Int32)) := D3 (Or.inr (hw _ (List.mem_of_getElem? (i := 25) rfl))) (ty := .int) (by decide)
  have F11 : Fld Z h3 b3 "com/example/fail_to_forward/failtoforward/CircuitBreakerSettings" "waitDurationInOpenStateMs" "J" (.long (0 : Int64)) := D3 (Or.inr (hw _ (List.mem_of_getElem? (i := 27) rfl))) (ty := .long) (by decide)
  have F12 : Fld Z h3 b3 "com/example/fail_to_forward/failtoforward/CircuitBreakerSettings" "permittedNumberOfCallsInHalfOpenState" "I" (.int (0 : Int32)) := D3 (Or.inr (hw _ (List.mem_of_getElem? (i := 29) rfl))) (ty := .int) (by decide)
  show Gl p.tables e below T3 (mkF m 15 #[.val (.int p0), .val (.int p1), .val (.int p2), .val (.int p3), .val (.long p4), .second, .val (.int p5), .val (.float (own_t p0)), .val (.float (own_t p1)), .unset, .unset, .unset] [(.ref b3)]) G
  refine Gl.via (fun _ k => XS.dup X3.here hx rfl (hb hby at_15) rfl rfl k) ?_
  show Gl p.tables e below T3 (mkF m 16 #[.val (.int p0), .val (.int p1), .val (.int p2), .val (.int p3), .val (.long p4), .second, .val (.int p5), .val (.float (own_t p0)), .val (.float (own_t p1)), .unset, .unset, .unset] [(.ref b3), (.ref b3)]) G
  refine Gl.via (fun _ k => XS.fload X3.here hx rfl (hb hby at_16) rfl k) ?_
  show Gl p.tables e below T3 (mkF m 18 #[.val (.int p0), .val (.int p1), .val (.int p2), .val (.int p3), .val (.long p4), .second, .val (.int p5), .val (.float (own_t p0)), .val (.float (own_t p1)), .unset, .unset, .unset] [(.float (own_t p0)), (.ref b3), (.ref b3)]) G
  refine Gl.via (fun _ k => XS.iloadN X3.here hx rfl (hb hby at_18) rfl k) ?_
  show Gl p.tables e below T3 (mkF m 19 #[.val (.int p0), .val (.int p1), .val (.int p2), .val (.int p3), .val (.long p4), .second, .val (.int p5), .val (.float (own_t p0)), .val (.float (own_t p1)), .unset, .unset, .unset] [(.int p2), (.float (own_t p0)), (.ref b3), (.ref b3)]) G
  refine Gl.via (fun _ k => XS.iloadN X3.here hx rfl (hb hby at_19) rfl k) ?_
  show Gl p.tables e below T3 (mkF m 20 #[.val (.int p0), .val (.int p1), .val (.int p2), .val (.int p3), .val (.long p4), .second, .val (.int p5), .val (.float (own_t p0)), .val (.float (own_t p1)), .unset, .unset, .unset] [(.int p3), (.int p2), (.float (own_t p0)), (.ref b3), (.ref b3)]) G
  refine Gl.via (fun _ k => XS.lload X3.here hx rfl (hb hby at_20) rfl k) ?_
  show Gl p.tables e below T3 (mkF m 22 #[.val (.int p0), .val (.int p1), .val (.int p2), .val (.int p3), .val (.long p4), .second, .val (.int p5), .val (.float (own_t p0)), .val (.float (own_t p1)), .unset, .unset, .unset] [(.long p4), (.int p3), (.int p2), (.float (own_t p0)), (.ref b3), (.ref b3)]) G
  refine Gl.via (fun _ k => XS.iload X3.here hx rfl (hb hby at_22) rfl k) ?_
  show Gl p.tables e below T3 (mkF m 24 #[.val (.int p0), .val (.int p1), .val (.int p2), .val (.int p3), .val (.long p4), .second, .val (.int p5), .val (.float (own_t p0)), .val (.float (own_t p1)), .unset, .unset, .unset] [(.int p5), (.long p4), (.int p3), (.int p2), (.float (own_t p0)), (.ref b3), (.ref b3)]) G
  obtain ⟨_, _, ⟨T13, L13, k13, n13⟩, -, X13, ⟨Lc13, hQ13, l13, y13, z13⟩, st13⟩ := X3.specialBack hx (y := (⟨"com/example/fail_to_forward/failtoforward/CircuitBreakerSettings", "<init>", "(FIIJI)V"⟩ : MethodName)) rfl hown (mvT hZ (hw _ (List.mem_of_getElem? (i := 9) rfl))) (mvT hZ (hw _ (List.mem_of_getElem? (i := 10) rfl))) (mvT hZ (hw _ (List.mem_of_getElem? (i := 11) rfl))) (by decide) (backOf (W := 1) (s_init l Z a0 hw [] b3 (own_t p0) p2 p3 p4 p5 (.float (0 : UInt32)) (.int (0 : Int32)) (.int (0 : Int32)) (.long (0 : Int64)) (.int (0 : Int32)) h3 n0 Z6 A3 F8 F9 F10 F11 F12 ge4) hZ (hw _ (List.mem_of_getElem? (i := 11) rfl)) (hw _ (List.mem_of_getElem? (i := 8) rfl)) (by decide) (by decide)) (g := (mkF m 24 #[.val (.int p0), .val (.int p1), .val (.int p2), .val (.int p3), .val (.long p4), .second, .val (.int p5), .val (.float (own_t p0)), .val (.float (own_t p1)), .unset, .unset, .unset] [(.int p5), (.long p4), (.int p3), (.int p2), (.float (own_t p0)), (.ref b3), (.ref b3)])) rfl (by rw [hml]; rfl) (Steps.refl _) (a := b3) (argsL := [(.float (own_t p0)), (.int p2), (.int p3), (.long p4), (.int p5)]) (rest := [(.ref b3)]) (lenOf pd_1 rfl) rfl (by show 2 * 0 + _ ≤ _; exact Nat.le_of_eq rfl) (hb hby at_24) (fun _ _ => ⟨rfl, e3, (by decide : 1 + 0 ≤ _), (by decide : 5 + 0 ≤ _)⟩)
  dsimp only [Pt.U, Pt.locs, Pt.cells, Pt.slots] at X13 l13 y13 z13 st13 hQ13
  subst l13 y13 z13
  obtain ⟨rfl, N13q, K13, P14, P15, P16, P17, P18, P19⟩ := hQ13
  have N13_ := Fr.app N2_ N13q
  refine Gl.via (fun _ k => st13.trans k) ?_
  have Z20 : n0 ≤ T13.heap.size := Nat.le_trans Z6 K13.1
  have Y21 : h0.size ≤ T13.heap.size := Nat.le_trans Y7 K13.1
  show Gl p.tables e below T13 (mkF m 27 #[.val (.int p0), .val (.int p1), .val (.int p2), .val (.int p3), .val (.long p4), .second, .val (.int p5), .val (.float (own_t p0)), .val (.float (own_t p1)), .unset, .unset, .unset] [(.ref b3)]) G
  refine Gl.via (fun _ k => XS.astore X13.here hx rfl (hb hby at_27) rfl rfl (l' := #[.val (.int p0), .val (.int p1), .val (.int p2), .val (.int p3), .val (.long p4), .second, .val (.int p5), .val (.float (own_t p0)), .val (.float (own_t p1)), .val (.ref b3), .unset, .unset]) rfl k) ?_
  show Gl p.tables e below T13 (mkF m 29 #[.val (.int p0), .val (.int p1), .val (.int p2), .val (.int p3), .val (.long p4), .second, .val (.int p5), .val (.float (own_t p0)), .val (.float (own_t p1)), .val (.ref b3), .unset, .unset] []) G
  refine Gl.via (fun _ k => XS.aload X13.here hx rfl (hb hby at_29) rfl rfl k) ?_
  show Gl p.tables e below T13 (mkF m 31 #[.val (.int p0), .val (.int p1), .val (.int p2), .val (.int p3), .val (.long p4), .second, .val (.int p5), .val (.float (own_t p0)), .val (.float (own_t p1)), .val (.ref b3), .unset, .unset] [(.ref b3)]) G
  refine Gl.via (fun _ k => XS.fload X13.here hx rfl (hb hby at_31) rfl k) ?_
  show Gl p.tables e below T13 (mkF m 33 #[.val (.int p0), .val (.int p1), .val (.int p2), .val (.int p3), .val (.long p4), .second, .val (.int p5), .val (.float (own_t p0)), .val (.float (own_t p1)), .val (.ref b3), .unset, .unset] [(.float (own_t p1)), (.ref b3)]) G
  obtain ⟨cq22, kq22, q22a, q22b, q22c⟩ := isOf hZ rfl P14
  obtain ⟨_, _, ⟨T22, L22, k22, n22⟩, -, X22, ⟨Lc22, hQ22, l22, y22, z22⟩, st22⟩ := X13.virtualBack hx (y := (⟨"com/example/fail_to_forward/failtoforward/CircuitBreakerSettings", "withFailureRateThreshold", "(F)Lcom/example/fail_to_forward/failtoforward/CircuitBreakerSettings;"⟩ : MethodName)) (z := (⟨"com/example/fail_to_forward/failtoforward/CircuitBreakerSettings", "withFailureRateThreshold", "(F)Lcom/example/fail_to_forward/failtoforward/CircuitBreakerSettings;"⟩ : MethodName)) hown (mvT hZ (hw _ (List.mem_of_getElem? (i := 30) rfl))) (mvT hZ (hw _ (List.mem_of_getElem? (i := 31) rfl))) (notFace_of_selects (args := #[]) (mvT hZ (hw _ (List.mem_of_getElem? (i := 33) rfl)))) (mvT hZ (hw _ (List.mem_of_getElem? (i := 33) rfl))) (mvT hZ (hw _ (List.mem_of_getElem? (i := 32) rfl))) (by decide) (backOf (W := 0) (s_with l Z a0 hw [] b3 (own_t p1) (own_t p0) p2 p3 p4 p5 T13.heap n0 Z20 P15 P16 P17 P18 P19) hZ (hw _ (List.mem_of_getElem? (i := 34) rfl)) (hw _ (List.mem_of_getElem? (i := 8) rfl)) (by decide) (by decide)) q22a q22c (g := (mkF m 33 #[.val (.int p0), .val (.int p1), .val (.int p2), .val (.int p3), .val (.long p4), .second, .val (.int p5), .val (.float (own_t p0)), .val (.float (own_t p1)), .val (.ref b3), .unset, .unset] [(.float (own_t p1)), (.ref b3)])) rfl (by rw [hml]; rfl) (Steps.refl _) (argsL := [(.float (own_t p1))]) (rest := []) (lenOf pd_3 rfl) rfl (by show 2 * 0 + _ ≤ _; exact Nat.le_of_eq rfl) (hb hby at_33) (fun _ _ => ⟨rfl, rfl, (by decide : 1 + 1 ≤ _), (by decide : 5 + 5 ≤ _)⟩)
  dsimp only [Pt.U, Pt.locs, Pt.cells, Pt.slots] at X22 l22 y22 z22 st22 hQ22
  subst l22 y22 z22
  obtain ⟨b_22, rfl, N22q, K22, P23, P24, P25, P26, P27, P28, R29⟩ := hQ22
  have N22_ := Fr.app N13_ N22q
  refine Gl.via (fun _ k => st22.trans k) ?_
  have ne30 : b3 ≠ b_22 := Nat.ne_of_lt (Nat.lt_of_lt_of_le P14.lt R29)
  have ge31 : n0 ≤ b_22 := Nat.le_trans Z20 R29
  have gz32 : h0.size ≤ b_22 := Nat.le_trans Y21 R29
  have Z33 : n0 ≤ T22.heap.size := Nat.le_trans Z20 K22.1
  have Y34 : h0.size ≤ T22.heap.size := Nat.le_trans Y21 K22.1
  show Gl p.tables e below T22 (mkF m 36 #[.val (.int p0), .val (.int p1), .val (.int p2), .val (.int p3), .val (.long p4), .second, .val (.int p5), .val (.float (own_t p0)), .val (.float (own_t p1)), .val (.ref b3), .unset, .unset] [(.ref b_22)]) G
  refine Gl.via (fun _ k => XS.astore X22.here hx rfl (hb hby at_36) rfl rfl (l' := #[.val (.int p0), .val (.int p1), .val (.int p2), .val (.int p3), .val (.long p4), .second, .val (.int p5), .val (.float (own_t p0)), .val (.float (own_t p1)), .val (.ref b3), .val (.ref b_22), .unset]) rfl k) ?_
  show Gl p.tables e below T22 (mkF m 38 #[.val (.int p0), .val (.int p1), .val (.int p2), .val (.int p3), .val (.long p4), .second, .val (.int p5), .val (.float (own_t p0)), .val (.float (own_t p1)), .val (.ref b3), .val (.ref b_22), .unset] []) G
  refine Gl.via (fun _ k => XS.aload X22.here hx rfl (hb hby at_38) rfl rfl k) ?_
  show Gl p.tables e below T22 (mkF m 40 #[.val (.int p0), .val (.int p1), .val (.int p2), .val (.int p3), .val (.long p4), .second, .val (.int p5), .val (.float (own_t p0)), .val (.float (own_t p1)), .val (.ref b3), .val (.ref b_22), .unset] [(.ref b_22)]) G
  obtain ⟨cq35, kq35, q35a, q35b, q35c⟩ := isOf hZ rfl P23
  obtain ⟨_, _, ⟨T35, L35, k35, n35⟩, -, X35, ⟨Lc35, hQ35, l35, y35, z35⟩, st35⟩ := X22.virtualBack hx (y := (⟨"com/example/fail_to_forward/failtoforward/CircuitBreakerSettings", "failureRateThreshold", "()F"⟩ : MethodName)) (z := (⟨"com/example/fail_to_forward/failtoforward/CircuitBreakerSettings", "failureRateThreshold", "()F"⟩ : MethodName)) hown (mvT hZ (hw _ (List.mem_of_getElem? (i := 37) rfl))) (mvT hZ (hw _ (List.mem_of_getElem? (i := 38) rfl))) (notFace_of_selects (args := #[]) (mvT hZ (hw _ (List.mem_of_getElem? (i := 40) rfl)))) (mvT hZ (hw _ (List.mem_of_getElem? (i := 40) rfl))) (mvT hZ (hw _ (List.mem_of_getElem? (i := 39) rfl))) (by decide) (backOf (W := 0) (g_0 l Z a0 hw [] b_22 (own_t p1) T22.heap n0 Z33 P24) hZ (hw _ (List.mem_of_getElem? (i := 41) rfl)) (hw _ (List.mem_of_getElem? (i := 8) rfl)) (by decide) (by decide)) q35a q35c (g := (mkF m 40 #[.val (.int p0), .val (.int p1), .val (.int p2), .val (.int p3), .val (.long p4), .second, .val (.int p5), .val (.float (own_t p0)), .val (.float (own_t p1)), .val (.ref b3), .val (.ref b_22), .unset] [(.ref b_22)])) rfl (by rw [hml]; rfl) (Steps.refl _) (argsL := []) (rest := []) (lenOf pd_4 rfl) rfl (by show 2 * 0 + _ ≤ _; exact Nat.le_of_eq rfl) (hb hby at_40) (fun _ _ => ⟨rfl, rfl, (by decide : 2 + 0 ≤ _), (by decide : 10 + 0 ≤ _)⟩)
  dsimp only [Pt.U, Pt.locs, Pt.cells, Pt.slots] at X35 l35 y35 z35 st35 hQ35
  subst l35 y35 z35
  obtain ⟨rfl, N35q, eh35⟩ := hQ35
  have N35_ := Fr.app N22_ N35q
  refine Gl.via (fun _ k => st35.trans k) ?_
  show Gl p.tables e below T35 (mkF m 43 #[.val (.int p0), .val (.int p1), .val (.int p2), .val (.int p3), .val (.long p4), .second, .val (.int p5), .val (.float (own_t p0)), .val (.float (own_t p1)), .val (.ref b3), .val (.ref b_22), .unset] [(.float (own_t p1))]) G
  refine Gl.via (fun _ k => XS.fload X35.here hx rfl (hb hby at_43) rfl k) ?_
  show Gl p.tables e below T35 (mkF m 45 #[.val (.int p0), .val (.int p1), .val (.int p2), .val (.int p3), .val (.long p4), .second, .val (.int p5), .val (.float (own_t p0)), .val (.float (own_t p1)), .val (.ref b3), .val (.ref b_22), .unset] [(.float (own_t p1)), (.float (own_t p1))]) G
  refine Gl.via (fun _ k => XS.fcmpS X35.here hx rfl (v := (0 : Int32)) (hb hby at_45) rfl (fcmpV_self (own_thr _) _) k) ?_
  show Gl p.tables e below T35 (mkF m 46 #[.val (.int p0), .val (.int p1), .val (.int p2), .val (.int p3), .val (.long p4), .second, .val (.int p5), .val (.float (own_t p0)), .val (.float (own_t p1)), .val (.ref b3), .val (.ref b_22), .unset] [(.int (0 : Int32))]) G
  refine Gl.via (fun _ k => XS.ifNo X35.here hx rfl (hb hby at_46) rfl ((if0 _ _).trans (teq (by decide)).2) k) ?_
  show Gl p.tables e below T35 (mkF m 49 #[.val (.int p0), .val (.int p1), .val (.int p2), .val (.int p3), .val (.long p4), .second, .val (.int p5), .val (.float (own_t p0)), .val (.float (own_t p1)), .val (.ref b3), .val (.ref b_22), .unset] []) G
  refine Gl.via (fun _ k => XS.iconst X35.here hx rfl (hb hby at_49) k) ?_
  show Gl p.tables e below T35 (mkF m 50 #[.val (.int p0), .val (.int p1), .val (.int p2), .val (.int p3), .val (.long p4), .second, .val (.int p5), .val (.float (own_t p0)), .val (.float (own_t p1)), .val (.ref b3), .val (.ref b_22), .unset] [(.int (1 : Int32))]) G
  refine Gl.via (fun _ k => XS.goto X35.here hx rfl (pc0 := 50) (pc' := 54) rfl (hb hby at_50) (by decide) (by decide) k) ?_
  show Gl p.tables e below T35 (mkF m 54 #[.val (.int p0), .val (.int p1), .val (.int p2), .val (.int p3), .val (.long p4), .second, .val (.int p5), .val (.float (own_t p0)), .val (.float (own_t p1)), .val (.ref b3), .val (.ref b_22), .unset] [(.int (1 : Int32))]) G
  refine Gl.via (fun _ k => XS.istore X35.here hx rfl (hb hby at_54) rfl (l' := #[.val (.int p0), .val (.int p1), .val (.int p2), .val (.int p3), .val (.long p4), .second, .val (.int p5), .val (.float (own_t p0)), .val (.float (own_t p1)), .val (.ref b3), .val (.ref b_22), .val (.int (1 : Int32))]) rfl k) ?_
  show Gl p.tables e below T35 (mkF m 56 #[.val (.int p0), .val (.int p1), .val (.int p2), .val (.int p3), .val (.long p4), .second, .val (.int p5), .val (.float (own_t p0)), .val (.float (own_t p1)), .val (.ref b3), .val (.ref b_22), .val (.int (1 : Int32))] []) G
  refine Gl.via (fun _ k => XS.iload X35.here hx rfl (hb hby at_56) rfl k) ?_
  show Gl p.tables e below T35 (mkF m 58 #[.val (.int p0), .val (.int p1), .val (.int p2), .val (.int p3), .val (.long p4), .second, .val (.int p5), .val (.float (own_t p0)), .val (.float (own_t p1)), .val (.ref b3), .val (.ref b_22), .val (.int (1 : Int32))] [(.int (1 : Int32))]) G
  refine Gl.via (fun _ k => XS.ifNo X35.here hx rfl (hb hby at_58) rfl ((if0 _ _).trans (feq (by decide)).1) k) ?_
  show Gl p.tables e below T35 (mkF m 61 #[.val (.int p0), .val (.int p1), .val (.int p2), .val (.int p3), .val (.long p4), .second, .val (.int p5), .val (.float (own_t p0)), .val (.float (own_t p1)), .val (.ref b3), .val (.ref b_22), .val (.int (1 : Int32))] []) G
  refine Gl.via (fun _ k => XS.aload X35.here hx rfl (hb hby at_61) rfl rfl k) ?_
  show Gl p.tables e below T35 (mkF m 63 #[.val (.int p0), .val (.int p1), .val (.int p2), .val (.int p3), .val (.long p4), .second, .val (.int p5), .val (.float (own_t p0)), .val (.float (own_t p1)), .val (.ref b3), .val (.ref b_22), .val (.int (1 : Int32))] [(.ref b_22)]) G
  obtain ⟨cq36, kq36, q36a, q36b, q36c⟩ := isOf hZ eh35 P23
  obtain ⟨_, _, ⟨T36, L36, k36, n36⟩, -, X36, ⟨Lc36, hQ36, l36, y36, z36⟩, st36⟩ := X35.virtualBack hx (y := (⟨"com/example/fail_to_forward/failtoforward/CircuitBreakerSettings", "slidingWindowSize", "()I"⟩ : MethodName)) (z := (⟨"com/example/fail_to_forward/failtoforward/CircuitBreakerSettings", "slidingWindowSize", "()I"⟩ : MethodName)) hown (mvT hZ (hw _ (List.mem_of_getElem? (i := 42) rfl))) (mvT hZ (hw _ (List.mem_of_getElem? (i := 43) rfl))) (notFace_of_selects (args := #[]) (mvT hZ (hw _ (List.mem_of_getElem? (i := 45) rfl)))) (mvT hZ (hw _ (List.mem_of_getElem? (i := 45) rfl))) (mvT hZ (hw _ (List.mem_of_getElem? (i := 44) rfl))) (by decide) (backOf (W := 0) (g_1 l Z a0 hw [] b_22 p2 T22.heap n0 Z33 P25) hZ (hw _ (List.mem_of_getElem? (i := 46) rfl)) (hw _ (List.mem_of_getElem? (i := 8) rfl)) (by decide) (by decide)) q36a q36c (g := (mkF m 63 #[.val (.int p0), .val (.int p1), .val (.int p2), .val (.int p3), .val (.long p4), .second, .val (.int p5), .val (.float (own_t p0)), .val (.float (own_t p1)), .val (.ref b3), .val (.ref b_22), .val (.int (1 : Int32))] [(.ref b_22)])) rfl (by rw [hml]; rfl) (Steps.refl _) (argsL := []) (rest := []) (lenOf pd_5 rfl) rfl (by show 2 * 0 + _ ≤ _; exact Nat.le_of_eq rfl) (hb hby at_63) (fun _ _ => ⟨rfl, eh35, (by decide : 2 + 0 ≤ _), (by decide : 10 + 0 ≤ _)⟩)
  dsimp only [Pt.U, Pt.locs, Pt.cells, Pt.slots] at X36 l36 y36 z36 st36 hQ36
  subst l36 y36 z36
  obtain ⟨rfl, N36q, eh36⟩ := hQ36
  have N36_ := Fr.app N35_ N36q
  refine Gl.via (fun _ k => st36.trans k) ?_
  show Gl p.tables e below T36 (mkF m 66 #[.val (.int p0), .val (.int p1), .val (.int p2), .val (.int p3), .val (.long p4), .second, .val (.int p5), .val (.float (own_t p0)), .val (.float (own_t p1)), .val (.ref b3), .val (.ref b_22), .val (.int (1 : Int32))] [(.int p2)]) G
  refine Gl.via (fun _ k => XS.iloadN X36.here hx rfl (hb hby at_66) rfl k) ?_
  show Gl p.tables e below T36 (mkF m 67 #[.val (.int p0), .val (.int p1), .val (.int p2), .val (.int p3), .val (.long p4), .second, .val (.int p5), .val (.float (own_t p0)), .val (.float (own_t p1)), .val (.ref b3), .val (.ref b_22), .val (.int (1 : Int32))] [(.int p2), (.int p2)]) G
  refine Gl.via (fun _ k => XS.icmpNo X36.here hx rfl (hb hby at_67) rfl (teq rfl).2 k) ?_
  show Gl p.tables e below T36 (mkF m 70 #[.val (.int p0), .val (.int p1), .val (.int p2), .val (.int p3), .val (.long p4), .second, .val (.int p5), .val (.float (own_t p0)), .val (.float (own_t p1)), .val (.ref b3), .val (.ref b_22), .val (.int (1 : Int32))] []) G
  refine Gl.via (fun _ k => XS.iconst X36.here hx rfl (hb hby at_70) k) ?_
  show Gl p.tables e below T36 (mkF m 71 #[.val (.int p0), .val (.int p1), .val (.int p2), .val (.int p3), .val (.long p4), .second, .val (.int p5), .val (.float (own_t p0)), .val (.float (own_t p1)), .val (.ref b3), .val (.ref b_22), .val (.int (1 : Int32))] [(.int (1 : Int32))]) G
  refine Gl.via (fun _ k => XS.goto X36.here hx rfl (pc0 := 71) (pc' := 75) rfl (hb hby at_71) (by decide) (by decide) k) ?_
  show Gl p.tables e below T36 (mkF m 75 #[.val (.int p0), .val (.int p1), .val (.int p2), .val (.int p3), .val (.long p4), .second, .val (.int p5), .val (.float (own_t p0)), .val (.float (own_t p1)), .val (.ref b3), .val (.ref b_22), .val (.int (1 : Int32))] [(.int (1 : Int32))]) G
  refine Gl.via (fun _ k => XS.istore X36.here hx rfl (hb hby at_75) rfl (l' := #[.val (.int p0), .val (.int p1), .val (.int p2), .val (.int p3), .val (.long p4), .second, .val (.int p5), .val (.float (own_t p0)), .val (.float (own_t p1)), .val (.ref b3), .val (.ref b_22), .val (.int (1 : Int32))]) rfl k) ?_
  show Gl p.tables e below T36 (mkF m 77 #[.val (.int p0), .val (.int p1), .val (.int p2), .val (.int p3), .val (.long p4), .second, .val (.int p5), .val (.float (own_t p0)), .val (.float (own_t p1)), .val (.ref b3), .val (.ref b_22), .val (.int (1 : Int32))] []) G
  refine Gl.via (fun _ k => XS.iload X36.here hx rfl (hb hby at_77) rfl k) ?_
  show Gl p.tables e below T36 (mkF m 79 #[.val (.int p0), .val (.int p1), .val (.int p2), .val (.int p3), .val (.long p4), .second, .val (.int p5), .val (.float (own_t p0)), .val (.float (own_t p1)), .val (.ref b3), .val (.ref b_22), .val (.int (1 : Int32))] [(.int (1 : Int32))]) G
  refine Gl.via (fun _ k => XS.ifNo X36.here hx rfl (hb hby at_79) rfl ((if0 _ _).trans (feq (by decide)).1) k) ?_
  show Gl p.tables e below T36 (mkF m 82 #[.val (.int p0), .val (.int p1), .val (.int p2), .val (.int p3), .val (.long p4), .second, .val (.int p5), .val (.float (own_t p0)), .val (.float (own_t p1)), .val (.ref b3), .val (.ref b_22), .val (.int (1 : Int32))] []) G
  refine Gl.via (fun _ k => XS.aload X36.here hx rfl (hb hby at_82) rfl rfl k) ?_
  show Gl p.tables e below T36 (mkF m 84 #[.val (.int p0), .val (.int p1), .val (.int p2), .val (.int p3), .val (.long p4), .second, .val (.int p5), .val (.float (own_t p0)), .val (.float (own_t p1)), .val (.ref b3), .val (.ref b_22), .val (.int (1 : Int32))] [(.ref b_22)]) G
  obtain ⟨cq37, kq37, q37a, q37b, q37c⟩ := isOf hZ eh36 P23
  obtain ⟨_, _, ⟨T37, L37, k37, n37⟩, -, X37, ⟨Lc37, hQ37, l37, y37, z37⟩, st37⟩ := X36.virtualBack hx (y := (⟨"com/example/fail_to_forward/failtoforward/CircuitBreakerSettings", "minimumNumberOfCalls", "()I"⟩ : MethodName)) (z := (⟨"com/example/fail_to_forward/failtoforward/CircuitBreakerSettings", "minimumNumberOfCalls", "()I"⟩ : MethodName)) hown (mvT hZ (hw _ (List.mem_of_getElem? (i := 47) rfl))) (mvT hZ (hw _ (List.mem_of_getElem? (i := 48) rfl))) (notFace_of_selects (args := #[]) (mvT hZ (hw _ (List.mem_of_getElem? (i := 50) rfl)))) (mvT hZ (hw _ (List.mem_of_getElem? (i := 50) rfl))) (mvT hZ (hw _ (List.mem_of_getElem? (i := 49) rfl))) (by decide) (backOf (W := 0) (g_2 l Z a0 hw [] b_22 p3 T22.heap n0 Z33 P26) hZ (hw _ (List.mem_of_getElem? (i := 51) rfl)) (hw _ (List.mem_of_getElem? (i := 8) rfl)) (by decide) (by decide)) q37a q37c (g := (mkF m 84 #[.val (.int p0), .val (.int p1), .val (.int p2), .val (.int p3), .val (.long p4), .second, .val (.int p5), .val (.float (own_t p0)), .val (.float (own_t p1)), .val (.ref b3), .val (.ref b_22), .val (.int (1 : Int32))] [(.ref b_22)])) rfl (by rw [hml]; rfl) (Steps.refl _) (argsL := []) (rest := []) (lenOf pd_5 rfl) rfl (by show 2 * 0 + _ ≤ _; exact Nat.le_of_eq rfl) (hb hby at_84) (fun _ _ => ⟨rfl, eh36, (by decide : 2 + 0 ≤ _), (by decide : 10 + 0 ≤ _)⟩)
  dsimp only [Pt.U, Pt.locs, Pt.cells, Pt.slots] at X37 l37 y37 z37 st37 hQ37
  subst l37 y37 z37
  obtain ⟨rfl, N37q, eh37⟩ := hQ37
  have N37_ := Fr.app N36_ N37q
  refine Gl.via (fun _ k => st37.trans k) ?_
  show Gl p.tables e below T37 (mkF m 87 #[.val (.int p0), .val (.int p1), .val (.int p2), .val (.int p3), .val (.long p4), .second, .val (.int p5), .val (.float (own_t p0)), .val (.float (own_t p1)), .val (.ref b3), .val (.ref b_22), .val (.int (1 : Int32))] [(.int p3)]) G
  refine Gl.via (fun _ k => XS.iloadN X37.here hx rfl (hb hby at_87) rfl k) ?_
  show Gl p.tables e below T37 (mkF m 88 #[.val (.int p0), .val (.int p1), .val (.int p2), .val (.int p3), .val (.long p4), .second, .val (.int p5), .val (.float (own_t p0)), .val (.float (own_t p1)), .val (.ref b3), .val (.ref b_22), .val (.int (1 : Int32))] [(.int p3), (.int p3)]) G
  refine Gl.via (fun _ k => XS.icmpNo X37.here hx rfl (hb hby at_88) rfl (teq rfl).2 k) ?_
  show Gl p.tables e below T37 (mkF m 91 #[.val (.int p0), .val (.int p1), .val (.int p2), .val (.int p3), .val (.long p4), .second, .val (.int p5), .val (.float (own_t p0)), .val (.float (own_t p1)), .val (.ref b3), .val (.ref b_22), .val (.int (1 : Int32))] []) G
  refine Gl.via (fun _ k => XS.iconst X37.here hx rfl (hb hby at_91) k) ?_
  show Gl p.tables e below T37 (mkF m 92 #[.val (.int p0), .val (.int p1), .val (.int p2), .val (.int p3), .val (.long p4), .second, .val (.int p5), .val (.float (own_t p0)), .val (.float (own_t p1)), .val (.ref b3), .val (.ref b_22), .val (.int (1 : Int32))] [(.int (1 : Int32))]) G
  refine Gl.via (fun _ k => XS.goto X37.here hx rfl (pc0 := 92) (pc' := 96) rfl (hb hby at_92) (by decide) (by decide) k) ?_
  show Gl p.tables e below T37 (mkF m 96 #[.val (.int p0), .val (.int p1), .val (.int p2), .val (.int p3), .val (.long p4), .second, .val (.int p5), .val (.float (own_t p0)), .val (.float (own_t p1)), .val (.ref b3), .val (.ref b_22), .val (.int (1 : Int32))] [(.int (1 : Int32))]) G
  refine Gl.via (fun _ k => XS.istore X37.here hx rfl (hb hby at_96) rfl (l' := #[.val (.int p0), .val (.int p1), .val (.int p2), .val (.int p3), .val (.long p4), .second, .val (.int p5), .val (.float (own_t p0)), .val (.float (own_t p1)), .val (.ref b3), .val (.ref b_22), .val (.int (1 : Int32))]) rfl k) ?_
  show Gl p.tables e below T37 (mkF m 98 #[.val (.int p0), .val (.int p1), .val (.int p2), .val (.int p3), .val (.long p4), .second, .val (.int p5), .val (.float (own_t p0)), .val (.float (own_t p1)), .val (.ref b3), .val (.ref b_22), .val (.int (1 : Int32))] []) G
  refine Gl.via (fun _ k => XS.iload X37.here hx rfl (hb hby at_98) rfl k) ?_
  show Gl p.tables e below T37 (mkF m 100 #[.val (.int p0), .val (.int p1), .val (.int p2), .val (.int p3), .val (.long p4), .second, .val (.int p5), .val (.float (own_t p0)), .val (.float (own_t p1)), .val (.ref b3), .val (.ref b_22), .val (.int (1 : Int32))] [(.int (1 : Int32))]) G
  refine Gl.via (fun _ k => XS.ifNo X37.here hx rfl (hb hby at_100) rfl ((if0 _ _).trans (feq (by decide)).1) k) ?_
  show Gl p.tables e below T37 (mkF m 103 #[.val (.int p0), .val (.int p1), .val (.int p2), .val (.int p3), .val (.long p4), .second, .val (.int p5), .val (.float (own_t p0)), .val (.float (own_t p1)), .val (.ref b3), .val (.ref b_22), .val (.int (1 : Int32))] []) G
  refine Gl.via (fun _ k => XS.aload X37.here hx rfl (hb hby at_103) rfl rfl k) ?_
  show Gl p.tables e below T37 (mkF m 105 #[.val (.int p0), .val (.int p1), .val (.int p2), .val (.int p3), .val (.long p4), .second, .val (.int p5), .val (.float (own_t p0)), .val (.float (own_t p1)), .val (.ref b3), .val (.ref b_22), .val (.int (1 : Int32))] [(.ref b_22)]) G
  obtain ⟨cq38, kq38, q38a, q38b, q38c⟩ := isOf hZ eh37 P23
  obtain ⟨_, _, ⟨T38, L38, k38, n38⟩, -, X38, ⟨Lc38, hQ38, l38, y38, z38⟩, st38⟩ := X37.virtualBack hx (y := (⟨"com/example/fail_to_forward/failtoforward/CircuitBreakerSettings", "waitDurationInOpenStateMs", "()J"⟩ : MethodName)) (z := (⟨"com/example/fail_to_forward/failtoforward/CircuitBreakerSettings", "waitDurationInOpenStateMs", "()J"⟩ : MethodName)) hown (mvT hZ (hw _ (List.mem_of_getElem? (i := 52) rfl))) (mvT hZ (hw _ (List.mem_of_getElem? (i := 53) rfl))) (notFace_of_selects (args := #[]) (mvT hZ (hw _ (List.mem_of_getElem? (i := 55) rfl)))) (mvT hZ (hw _ (List.mem_of_getElem? (i := 55) rfl))) (mvT hZ (hw _ (List.mem_of_getElem? (i := 54) rfl))) (by decide) (backOf (W := 0) (g_3 l Z a0 hw [] b_22 p4 T22.heap n0 Z33 P27) hZ (hw _ (List.mem_of_getElem? (i := 56) rfl)) (hw _ (List.mem_of_getElem? (i := 8) rfl)) (by decide) (by decide)) q38a q38c (g := (mkF m 105 #[.val (.int p0), .val (.int p1), .val (.int p2), .val (.int p3), .val (.long p4), .second, .val (.int p5), .val (.float (own_t p0)), .val (.float (own_t p1)), .val (.ref b3), .val (.ref b_22), .val (.int (1 : Int32))] [(.ref b_22)])) rfl (by rw [hml]; rfl) (Steps.refl _) (argsL := []) (rest := []) (lenOf pd_6 rfl) rfl (by show 2 * 0 + _ ≤ _; exact Nat.le_of_eq rfl) (hb hby at_105) (fun _ _ => ⟨rfl, eh37, (by decide : 2 + 0 ≤ _), (by decide : 10 + 0 ≤ _)⟩)
  dsimp only [Pt.U, Pt.locs, Pt.cells, Pt.slots] at X38 l38 y38 z38 st38 hQ38
  subst l38 y38 z38
  obtain ⟨rfl, N38q, eh38⟩ := hQ38
  have N38_ := Fr.app N37_ N38q
  refine Gl.via (fun _ k => st38.trans k) ?_
  show Gl p.tables e below T38 (mkF m 108 #[.val (.int p0), .val (.int p1), .val (.int p2), .val (.int p3), .val (.long p4), .second, .val (.int p5), .val (.float (own_t p0)), .val (.float (own_t p1)), .val (.ref b3), .val (.ref b_22), .val (.int (1 : Int32))] [(.long p4)]) G
  refine Gl.via (fun _ k => XS.lload X38.here hx rfl (hb hby at_108) rfl k) ?_
  show Gl p.tables e below T38 (mkF m 110 #[.val (.int p0), .val (.int p1), .val (.int p2), .val (.int p3), .val (.long p4), .second, .val (.int p5), .val (.float (own_t p0)), .val (.float (own_t p1)), .val (.ref b3), .val (.ref b_22), .val (.int (1 : Int32))] [(.long p4), (.long p4)]) G
  refine Gl.via (fun _ k => XS.lcmp X38.here hx rfl (hb hby at_110) rfl k) ?_
  show Gl p.tables e below T38 (mkF m 111 #[.val (.int p0), .val (.int p1), .val (.int p2), .val (.int p3), .val (.long p4), .second, .val (.int p5), .val (.float (own_t p0)), .val (.float (own_t p1)), .val (.ref b3), .val (.ref b_22), .val (.int (1 : Int32))] [(.int (lcmpW p4 p4))]) G
  refine Gl.via (fun _ k => XS.ifNo X38.here hx rfl (hb hby at_111) rfl ((if0 _ _).trans (teq ((lw_eq _ _).mpr rfl)).2) k) ?_
  show Gl p.tables e below T38 (mkF m 114 #[.val (.int p0), .val (.int p1), .val (.int p2), .val (.int p3), .val (.long p4), .second, .val (.int p5), .val (.float (own_t p0)), .val (.float (own_t p1)), .val (.ref b3), .val (.ref b_22), .val (.int (1 : Int32))] []) G
  refine Gl.via (fun _ k => XS.iconst X38.here hx rfl (hb hby at_114) k) ?_
  show Gl p.tables e below T38 (mkF m 115 #[.val (.int p0), .val (.int p1), .val (.int p2), .val (.int p3), .val (.long p4), .second, .val (.int p5), .val (.float (own_t p0)), .val (.float (own_t p1)), .val (.ref b3), .val (.ref b_22), .val (.int (1 : Int32))] [(.int (1 : Int32))]) G
  refine Gl.via (fun _ k => XS.goto X38.here hx rfl (pc0 := 115) (pc' := 119) rfl (hb hby at_115) (by decide) (by decide) k) ?_
  show Gl p.tables e below T38 (mkF m 119 #[.val (.int p0), .val (.int p1), .val (.int p2), .val (.int p3), .val (.long p4), .second, .val (.int p5), .val (.float (own_t p0)), .val (.float (own_t p1)), .val (.ref b3), .val (.ref b_22), .val (.int (1 : Int32))] [(.int (1 : Int32))]) G
  refine Gl.via (fun _ k => XS.istore X38.here hx rfl (hb hby at_119) rfl (l' := #[.val (.int p0), .val (.int p1), .val (.int p2), .val (.int p3), .val (.long p4), .second, .val (.int p5), .val (.float (own_t p0)), .val (.float (own_t p1)), .val (.ref b3), .val (.ref b_22), .val (.int (1 : Int32))]) rfl k) ?_
  show Gl p.tables e below T38 (mkF m 121 #[.val (.int p0), .val (.int p1), .val (.int p2), .val (.int p3), .val (.long p4), .second, .val (.int p5), .val (.float (own_t p0)), .val (.float (own_t p1)), .val (.ref b3), .val (.ref b_22), .val (.int (1 : Int32))] []) G
  refine Gl.via (fun _ k => XS.iload X38.here hx rfl (hb hby at_121) rfl k) ?_
  show Gl p.tables e below T38 (mkF m 123 #[.val (.int p0), .val (.int p1), .val (.int p2), .val (.int p3), .val (.long p4), .second, .val (.int p5), .val (.float (own_t p0)), .val (.float (own_t p1)), .val (.ref b3), .val (.ref b_22), .val (.int (1 : Int32))] [(.int (1 : Int32))]) G
  refine Gl.via (fun _ k => XS.ifNo X38.here hx rfl (hb hby at_123) rfl ((if0 _ _).trans (feq (by decide)).1) k) ?_
  show Gl p.tables e below T38 (mkF m 126 #[.val (.int p0), .val (.int p1), .val (.int p2), .val (.int p3), .val (.long p4), .second, .val (.int p5), .val (.float (own_t p0)), .val (.float (own_t p1)), .val (.ref b3), .val (.ref b_22), .val (.int (1 : Int32))] []) G
  refine Gl.via (fun _ k => XS.aload X38.here hx rfl (hb hby at_126) rfl rfl k) ?_
  show Gl p.tables e below T38 (mkF m 128 #[.val (.int p0), .val (.int p1), .val (.int p2), .val (.int p3), .val (.long p4), .second, .val (.int p5), .val (.float (own_t p0)), .val (.float (own_t p1)), .val (.ref b3), .val (.ref b_22), .val (.int (1 : Int32))] [(.ref b_22)]) G
  obtain ⟨cq39, kq39, q39a, q39b, q39c⟩ := isOf hZ eh38 P23
  obtain ⟨_, _, ⟨T39, L39, k39, n39⟩, -, X39, ⟨Lc39, hQ39, l39, y39, z39⟩, st39⟩ := X38.virtualBack hx (y := (⟨"com/example/fail_to_forward/failtoforward/CircuitBreakerSettings", "permittedNumberOfCallsInHalfOpenState", "()I"⟩ : MethodName)) (z := (⟨"com/example/fail_to_forward/failtoforward/CircuitBreakerSettings", "permittedNumberOfCallsInHalfOpenState", "()I"⟩ : MethodName)) hown (mvT hZ (hw _ (List.mem_of_getElem? (i := 57) rfl))) (mvT hZ (hw _ (List.mem_of_getElem? (i := 58) rfl))) (notFace_of_selects (args := #[]) (mvT hZ (hw _ (List.mem_of_getElem? (i := 60) rfl)))) (mvT hZ (hw _ (List.mem_of_getElem? (i := 60) rfl))) (mvT hZ (hw _ (List.mem_of_getElem? (i := 59) rfl))) (by decide) (backOf (W := 0) (g_4 l Z a0 hw [] b_22 p5 T22.heap n0 Z33 P28) hZ (hw _ (List.mem_of_getElem? (i := 61) rfl)) (hw _ (List.mem_of_getElem? (i := 8) rfl)) (by decide) (by decide)) q39a q39c (g := (mkF m 128 #[.val (.int p0), .val (.int p1), .val (.int p2), .val (.int p3), .val (.long p4), .second, .val (.int p5), .val (.float (own_t p0)), .val (.float (own_t p1)), .val (.ref b3), .val (.ref b_22), .val (.int (1 : Int32))] [(.ref b_22)])) rfl (by rw [hml]; rfl) (Steps.refl _) (argsL := []) (rest := []) (lenOf pd_5 rfl) rfl (by show 2 * 0 + _ ≤ _; exact Nat.le_of_eq rfl) (hb hby at_128) (fun _ _ => ⟨rfl, eh38, (by decide : 2 + 0 ≤ _), (by decide : 10 + 0 ≤ _)⟩)
  dsimp only [Pt.U, Pt.locs, Pt.cells, Pt.slots] at X39 l39 y39 z39 st39 hQ39
  subst l39 y39 z39
  obtain ⟨rfl, N39q, eh39⟩ := hQ39
  have N39_ := Fr.app N38_ N39q
  refine Gl.via (fun _ k => st39.trans k) ?_
  show Gl p.tables e below T39 (mkF m 131 #[.val (.int p0), .val (.int p1), .val (.int p2), .val (.int p3), .val (.long p4), .second, .val (.int p5), .val (.float (own_t p0)), .val (.float (own_t p1)), .val (.ref b3), .val (.ref b_22), .val (.int (1 : Int32))] [(.int p5)]) G
  refine Gl.via (fun _ k => XS.iload X39.here hx rfl (hb hby at_131) rfl k) ?_
  show Gl p.tables e below T39 (mkF m 133 #[.val (.int p0), .val (.int p1), .val (.int p2), .val (.int p3), .val (.long p4), .second, .val (.int p5), .val (.float (own_t p0)), .val (.float (own_t p1)), .val (.ref b3), .val (.ref b_22), .val (.int (1 : Int32))] [(.int p5), (.int p5)]) G
  refine Gl.via (fun _ k => XS.icmpNo X39.here hx rfl (hb hby at_133) rfl (teq rfl).2 k) ?_
  show Gl p.tables e below T39 (mkF m 136 #[.val (.int p0), .val (.int p1), .val (.int p2), .val (.int p3), .val (.long p4), .second, .val (.int p5), .val (.float (own_t p0)), .val (.float (own_t p1)), .val (.ref b3), .val (.ref b_22), .val (.int (1 : Int32))] []) G
  refine Gl.via (fun _ k => XS.iconst X39.here hx rfl (hb hby at_136) k) ?_
  show Gl p.tables e below T39 (mkF m 137 #[.val (.int p0), .val (.int p1), .val (.int p2), .val (.int p3), .val (.long p4), .second, .val (.int p5), .val (.float (own_t p0)), .val (.float (own_t p1)), .val (.ref b3), .val (.ref b_22), .val (.int (1 : Int32))] [(.int (1 : Int32))]) G
  refine Gl.via (fun _ k => XS.goto X39.here hx rfl (pc0 := 137) (pc' := 141) rfl (hb hby at_137) (by decide) (by decide) k) ?_
  show Gl p.tables e below T39 (mkF m 141 #[.val (.int p0), .val (.int p1), .val (.int p2), .val (.int p3), .val (.long p4), .second, .val (.int p5), .val (.float (own_t p0)), .val (.float (own_t p1)), .val (.ref b3), .val (.ref b_22), .val (.int (1 : Int32))] [(.int (1 : Int32))]) G
  refine Gl.via (fun _ k => XS.istore X39.here hx rfl (hb hby at_141) rfl (l' := #[.val (.int p0), .val (.int p1), .val (.int p2), .val (.int p3), .val (.long p4), .second, .val (.int p5), .val (.float (own_t p0)), .val (.float (own_t p1)), .val (.ref b3), .val (.ref b_22), .val (.int (1 : Int32))]) rfl k) ?_
  show Gl p.tables e below T39 (mkF m 143 #[.val (.int p0), .val (.int p1), .val (.int p2), .val (.int p3), .val (.long p4), .second, .val (.int p5), .val (.float (own_t p0)), .val (.float (own_t p1)), .val (.ref b3), .val (.ref b_22), .val (.int (1 : Int32))] []) G
  refine Gl.via (fun _ k => XS.iload X39.here hx rfl (hb hby at_143) rfl k) ?_
  show Gl p.tables e below T39 (mkF m 145 #[.val (.int p0), .val (.int p1), .val (.int p2), .val (.int p3), .val (.long p4), .second, .val (.int p5), .val (.float (own_t p0)), .val (.float (own_t p1)), .val (.ref b3), .val (.ref b_22), .val (.int (1 : Int32))] [(.int (1 : Int32))]) G
  refine Gl.via (fun _ k => XS.ifNo X39.here hx rfl (hb hby at_145) rfl ((if0 _ _).trans (feq (by decide)).1) k) ?_
  show Gl p.tables e below T39 (mkF m 148 #[.val (.int p0), .val (.int p1), .val (.int p2), .val (.int p3), .val (.long p4), .second, .val (.int p5), .val (.float (own_t p0)), .val (.float (own_t p1)), .val (.ref b3), .val (.ref b_22), .val (.int (1 : Int32))] []) G
  refine Gl.via (fun _ k => XS.aload X39.here hx rfl (hb hby at_148) rfl rfl k) ?_
  show Gl p.tables e below T39 (mkF m 150 #[.val (.int p0), .val (.int p1), .val (.int p2), .val (.int p3), .val (.long p4), .second, .val (.int p5), .val (.float (own_t p0)), .val (.float (own_t p1)), .val (.ref b3), .val (.ref b_22), .val (.int (1 : Int32))] [(.ref b3)]) G
  have G41 : Fld Z T22.heap b3 "com/example/fail_to_forward/failtoforward/CircuitBreakerSettings" "failureRateThreshold" "F" (.float (own_t p0)) := (P15.keep K22 nin0)
  have G42 : Exa Z T22.heap b3 "com/example/fail_to_forward/failtoforward/CircuitBreakerSettings" := (P14.keep K22)
  obtain ⟨cq40, kq40, q40a, q40b, q40c⟩ := isOf hZ eh39 G42
  obtain ⟨_, _, ⟨T40, L40, k40, n40⟩, -, X40, ⟨Lc40, hQ40, l40, y40, z40⟩, st40⟩ := X39.virtualBack hx (y := (⟨"com/example/fail_to_forward/failtoforward/CircuitBreakerSettings", "failureRateThreshold", "()F"⟩ : MethodName)) (z := (⟨"com/example/fail_to_forward/failtoforward/CircuitBreakerSettings", "failureRateThreshold", "()F"⟩ : MethodName)) hown (mvT hZ (hw _ (List.mem_of_getElem? (i := 37) rfl))) (mvT hZ (hw _ (List.mem_of_getElem? (i := 38) rfl))) (notFace_of_selects (args := #[]) (mvT hZ (hw _ (List.mem_of_getElem? (i := 40) rfl)))) (mvT hZ (hw _ (List.mem_of_getElem? (i := 40) rfl))) (mvT hZ (hw _ (List.mem_of_getElem? (i := 39) rfl))) (by decide) (backOf (W := 0) (g_0 l Z a0 hw [] b3 (own_t p0) T22.heap n0 Z33 G41) hZ (hw _ (List.mem_of_getElem? (i := 41) rfl)) (hw _ (List.mem_of_getElem? (i := 8) rfl)) (by decide) (by decide)) q40a q40c (g := (mkF m 150 #[.val (.int p0), .val (.int p1), .val (.int p2), .val (.int p3), .val (.long p4), .second, .val (.int p5), .val (.float (own_t p0)), .val (.float (own_t p1)), .val (.ref b3), .val (.ref b_22), .val (.int (1 : Int32))] [(.ref b3)])) rfl (by rw [hml]; rfl) (Steps.refl _) (argsL := []) (rest := []) (lenOf pd_4 rfl) rfl (by show 2 * 0 + _ ≤ _; exact Nat.le_of_eq rfl) (hb hby at_150) (fun _ _ => ⟨rfl, eh39, (by decide : 2 + 0 ≤ _), (by decide : 10 + 0 ≤ _)⟩)
  dsimp only [Pt.U, Pt.locs, Pt.cells, Pt.slots] at X40 l40 y40 z40 st40 hQ40
  subst l40 y40 z40
  obtain ⟨rfl, N40q, eh40⟩ := hQ40
  have N40_ := Fr.app N39_ N40q
  refine Gl.via (fun _ k => st40.trans k) ?_
  show Gl p.tables e below T40 (mkF m 153 #[.val (.int p0), .val (.int p1), .val (.int p2), .val (.int p3), .val (.long p4), .second, .val (.int p5), .val (.float (own_t p0)), .val (.float (own_t p1)), .val (.ref b3), .val (.ref b_22), .val (.int (1 : Int32))] [(.float (own_t p0))]) G
  refine Gl.via (fun _ k => XS.fload X40.here hx rfl (hb hby at_153) rfl k) ?_
  show Gl p.tables e below T40 (mkF m 155 #[.val (.int p0), .val (.int p1), .val (.int p2), .val (.int p3), .val (.long p4), .second, .val (.int p5), .val (.float (own_t p0)), .val (.float (own_t p1)), .val (.ref b3), .val (.ref b_22), .val (.int (1 : Int32))] [(.float (own_t p0)), (.float (own_t p0))]) G
  refine Gl.via (fun _ k => XS.fcmpS X40.here hx rfl (v := (0 : Int32)) (hb hby at_155) rfl (fcmpV_self (own_thr _) _) k) ?_
  show Gl p.tables e below T40 (mkF m 156 #[.val (.int p0), .val (.int p1), .val (.int p2), .val (.int p3), .val (.long p4), .second, .val (.int p5), .val (.float (own_t p0)), .val (.float (own_t p1)), .val (.ref b3), .val (.ref b_22), .val (.int (1 : Int32))] [(.int (0 : Int32))]) G
  refine Gl.via (fun _ k => XS.ifNo X40.here hx rfl (hb hby at_156) rfl ((if0 _ _).trans (teq (by decide)).2) k) ?_
  show Gl p.tables e below T40 (mkF m 159 #[.val (.int p0), .val (.int p1), .val (.int p2), .val (.int p3), .val (.long p4), .second, .val (.int p5), .val (.float (own_t p0)), .val (.float (own_t p1)), .val (.ref b3), .val (.ref b_22), .val (.int (1 : Int32))] []) G
  refine Gl.via (fun _ k => XS.iconst X40.here hx rfl (hb hby at_159) k) ?_
  show Gl p.tables e below T40 (mkF m 160 #[.val (.int p0), .val (.int p1), .val (.int p2), .val (.int p3), .val (.long p4), .second, .val (.int p5), .val (.float (own_t p0)), .val (.float (own_t p1)), .val (.ref b3), .val (.ref b_22), .val (.int (1 : Int32))] [(.int (1 : Int32))]) G
  refine Gl.via (fun _ k => XS.goto X40.here hx rfl (pc0 := 160) (pc' := 164) rfl (hb hby at_160) (by decide) (by decide) k) ?_
  show Gl p.tables e below T40 (mkF m 164 #[.val (.int p0), .val (.int p1), .val (.int p2), .val (.int p3), .val (.long p4), .second, .val (.int p5), .val (.float (own_t p0)), .val (.float (own_t p1)), .val (.ref b3), .val (.ref b_22), .val (.int (1 : Int32))] [(.int (1 : Int32))]) G
  refine Gl.via (fun _ k => XS.istore X40.here hx rfl (hb hby at_164) rfl (l' := #[.val (.int p0), .val (.int p1), .val (.int p2), .val (.int p3), .val (.long p4), .second, .val (.int p5), .val (.float (own_t p0)), .val (.float (own_t p1)), .val (.ref b3), .val (.ref b_22), .val (.int (1 : Int32))]) rfl k) ?_
  show Gl p.tables e below T40 (mkF m 166 #[.val (.int p0), .val (.int p1), .val (.int p2), .val (.int p3), .val (.long p4), .second, .val (.int p5), .val (.float (own_t p0)), .val (.float (own_t p1)), .val (.ref b3), .val (.ref b_22), .val (.int (1 : Int32))] []) G
  refine Gl.via (fun _ k => XS.iload X40.here hx rfl (hb hby at_166) rfl k) ?_
  show Gl p.tables e below T40 (mkF m 168 #[.val (.int p0), .val (.int p1), .val (.int p2), .val (.int p3), .val (.long p4), .second, .val (.int p5), .val (.float (own_t p0)), .val (.float (own_t p1)), .val (.ref b3), .val (.ref b_22), .val (.int (1 : Int32))] [(.int (1 : Int32))]) G
  obtain ⟨fs, hr, hrun, hended, hW, hsame⟩ := X40.leave (v := some (.int (1 : Int32))) (fun h => by rw [Bd.returns] at h; cases h)
  have hq : ∀ L, Fr n0 L → Q_rm0 Z p0 p1 p2 p3 p4 p5 h0 n0 (some (.int (1 : Int32))) T40.heap L := by
    intro L hN
    rw [eh40]
    exact ⟨rfl, hN⟩
  rw [hG]
  exact Gl.fin (retN X40 hx (t := .boolean) Bd.returns (by simp) (hb hby at_168) hr) ⟨_, hrun, hended, _, _, rfl, hq _ N40_, ⟨_, rfl⟩, hW, hsame.mono (by decide) (by decide)⟩
set_option maxRecDepth 65536 in
set_option maxHeartbeats 40000000 in
theorem comes_1 {Post : Tables → Env → Array Value → State → Outcome → State → Prop} (hpost : ∀ tb e args s v u, (limb_1_1.after args s (.returned v) u = true ∧ limb_1_2.after args s (.returned v) u = true ∧ True) → FrameEnd s (.returned v) u (Jvm.fieldLocs frame_1_writes args s ++ Jvm.arrayLocs frame_1_arrays args s ++ Jvm.staticLocs frame_1_statics s) 16 128 → Post tb e args s (.returned v) u) :
    ArmFor flags0 classFile x code maxLocals ret World_1 tables_1 room_1 Calls_1 rest_1 Pre_1 Post := by
  intro l hfl _ _ p e ha hc hk s m args below hf hA hF happ hP
  obtain ⟨hcalls, hrest, hpre⟩ := hP
  obtain ⟨-, -, -, hnamed, -, -, -, hat⟩ := (Spec.applies_iff hf).mp happ
  obtain ⟨hg, hn⟩ := and_e (Cond.before_iff.mp (show (Jvm.Cond.and given_1 narrow_1).before args s = true from hpre))
  obtain ⟨g1, g2⟩ := and_e hg
  obtain ⟨g3, g4⟩ := and_e g2
  obtain ⟨g5, g6⟩ := and_e g4
  obtain ⟨g7, g8⟩ := and_e g6
  obtain ⟨g9, g10⟩ := and_e g8
  obtain ⟨g11, g12⟩ := and_e g10
  obtain ⟨w0, w1, w2, w3, w4, w5, rfl⟩ : ∃ w0 w1 w2 w3 w4 w5 : Value, args = #[w0, w1, w2, w3, w4, w5] := by
    have hs : args.size = 6 := by simpa [Cond.value, given_1] using g1
    obtain ⟨L⟩ := args
    match L, hs with
    | [w0, w1, w2, w3, w4, w5], _ => exact ⟨w0, w1, w2, w3, w4, w5, rfl⟩
  have hw := fun d (hd : d ∈ tables_1) => atoms_spec (ws := Jvm.Cond.code x code maxLocals ret :: tables_1) hat d (List.mem_cons_of_mem _ hd)
  have hfit : Fit s := fun {y c} hc i hi => by
    obtain ⟨ha, rfl⟩ := Array.getElem?_eq_some_iff.mp hc
    have q := List.all_eq_true.mp ((Array.all_eq_true_iff_forall_mem.mp hF) _ (Array.getElem_mem ha)) i (List.mem_range.mpr hi)
    simpa [Array.getElem?_eq_getElem hi] using q
  obtain ⟨i0, ei0⟩ := is_v g3
  obtain rfl : w0 = (.int i0) := Option.some.inj ei0
  obtain ⟨i1, ei1⟩ := is_v g5
  obtain rfl : w1 = (.int i1) := Option.some.inj ei1
  obtain ⟨i2, ei2⟩ := is_v g7
  obtain rfl : w2 = (.int i2) := Option.some.inj ei2
  obtain ⟨i3, ei3⟩ := is_v g9
  obtain rfl : w3 = (.int i3) := Option.some.inj ei3
  obtain ⟨i4, ei4⟩ := isL_v g11
  obtain rfl : w4 = (.long i4) := Option.some.inj ei4
  obtain ⟨i5, ei5⟩ := is_v g12
  obtain rfl : w5 = (.int i5) := Option.some.inj ei5
  obtain ⟨n, o, h1, h2, h3, _, L, rfl, ⟨rfl, N⟩, hq⟩ := rm0 l s _ hw tables_1 i0 i1 i2 i3 i4 i5 s.heap s.heap.size (Nat.le_refl _)  p e ha hc hk s m _ below hf ((Spec.applies_iff_loose hf).mp happ).1 ⟨rfl, State.Warmed39.refl s, rfl⟩ trivial
  refine ⟨n, _, h1, h2, h3, hpost _ _ _ _ _ _ ⟨Cond.after_iff.mpr rfl, Cond.after_iff.mpr (eq_i res_at (Term.int_eval (1)) rfl), trivial⟩ ⟨hq.1, hq.2.1, (hq.2.2.sift fun y hy => Or.inr (N y hy)).mono (by decide) (by decide)⟩⟩
theorem main_1_1 : Claimed_1_1 := comes_1 fun _ _ _ _ _ _ h hF => ⟨h.1, hF⟩
theorem main_1_2 : Claimed_1_2 := comes_1 fun _ _ _ _ _ _ h hF => ⟨h.2.1, hF⟩
end Jvm.Pilot.@@N@@
namespace Jvm.Pilot.@@N@@
open Jvm Jvm.ClassFile Sem Op Lib Jvm.Free Jvm.Stand Jvm.Pilot.@@N@@.Jvm.D
/-! MADE BY PROGRAM (witnessworld.py) out of the Statement's table words and the real class files: 10 classes; the members and pool entries that the words name. The judged class is class 1, her method 2. -/
namespace start1
open Jvm.ClassFile
def u (s : String) : CpInfo := .utf8 (stringToUtf16 s)
/-- a pool by its gaps: so many unusable entries, then the entry; so many at the end -/
def gap : Nat → List CpInfo → List CpInfo
  | 0, r => r
  | n + 1, r => .unusable :: gap n r
def poolList (es : List (Nat × CpInfo)) (last : Nat) : List CpInfo := es.foldr (fun e r => gap e.1 (e.2 :: r)) (gap last [])
def pool (es : List (Nat × CpInfo)) (last : Nat) : Array CpInfo := ⟨poolList es last⟩
def fileOf (pool : Array CpInfo) (this : Nat) (attrs : Array Attribute := #[]) (ms : Array MethodInfo := #[]) (fl : Nat := 33) (sup : Nat := 0) (ifs : Array Nat := #[]) (fds : Array FieldInfo := #[]) : ClassFile where
  minorVersion := 0
  majorVersion := 65
  constantPool := pool
  accessFlags := fl
  thisClass := this
  superClass := sup
  interfaces := ifs
  fields := fds
  methods := ms
  attributes := attrs
def plain (name : String) (sup : Option ClassId) : Class where
  name := name
  kind := .ordinary
  loader := none
  accessFlags := 33
  super := sup
  interfaces := #[]
  cf := none
  fields := #[]
  methods := #[]
  instanceTypes := #[]
  staticTypes := #[]
  resolved := #[]
  callSites := []
  init := .initialized
  statics := none
  mirror := none

def pool0 : Array CpInfo := pool [(5, u "<init>"), (0, u "()V"), (1, .class_ 10), (1, u "java/lang/Object")] 113

def k0c0 : Code := { maxStack := 0, maxLocals := 1, code := object_method_1_code, exceptionTable := #[], attributes := #[] }
def k0m0 : Method := { name := "<init>", desc := "()V", sig := { parameters := [], returnType := none }, accessFlags := 1, code := some k0c0 }
/-- java/lang/Object -/
def k0 : Class := { plain "java/lang/Object" none with
  accessFlags := 33
  interfaces := #[]
  cf := some (fileOf pool0 8 #[] #[{ accessFlags := 1, nameIndex := 5, descriptorIndex := 6, attributes := #[] }] 33 0 #[] #[])
  fields := #[]
  methods := #[k0m0]
  instanceTypes := #[]
  staticTypes := #[]
  resolved := Array.replicate 124 none
  statics := none }

def pool1 : Array CpInfo := pool [(2, .class_ 4), (1, u "java/lang/Object"), (0, u "<init>"), (0, u "()V"), (0, .integer 2147483647), (0, .float 1082130432), (0, .methodref 10 11), (0, .class_ 12), (0, .nameAndType 13 14), (0, u "com/example/fail_to_forward/failtoforward/CircuitBreakerSettingsWithFailureRateThresholdPinLaw"), (0, u "threshold"), (0, u "(I)F"), (0, .class_ 16), (0, u "com/example/fail_to_forward/failtoforward/CircuitBreakerSettings"), (0, .methodref 15 18), (0, .nameAndType 5 19), (0, u "(FIIJI)V"), (0, .methodref 15 21), (0, .nameAndType 22 23), (0, u "withFailureRateThreshold"), (0, u "(F)Lcom/example/fail_to_forward/failtoforward/CircuitBreakerSettings;"), (0, .methodref 15 25), (0, .nameAndType 26 27), (0, u "failureRateThreshold"), (0, u "()F"), (0, .methodref 15 29), (0, .nameAndType 30 31), (0, u "slidingWindowSize"), (0, u "()I"), (0, .methodref 15 33), (0, .nameAndType 34 31), (0, u "minimumNumberOfCalls"), (0, .methodref 15 36), (0, .nameAndType 37 38), (0, u "waitDurationInOpenStateMs"), (0, u "()J"), (0, .methodref 15 40), (0, .nameAndType 41 31), (0, u "permittedNumberOfCallsInHalfOpenState"), (2, u "law"), (0, u "(IIIIJI)Z")] 3

def k1m0 : Method := { name := "<init>", desc := "()V", sig := { parameters := [], returnType := none }, accessFlags := 1, code := none }
def k1c1 : Code := { maxStack := 2, maxLocals := 1, code := method_2_code, exceptionTable := #[], attributes := #[] }
def k1m1 : Method := { name := "threshold", desc := "(I)F", sig := { parameters := [.int], returnType := some .float }, accessFlags := 10, code := some k1c1 }
def k1c2 : Code := { maxStack := 8, maxLocals := 12, code := code, exceptionTable := #[], attributes := #[] }
def k1m2 : Method := { name := "law", desc := "(IIIIJI)Z", sig := { parameters := [.int, .int, .int, .int, .long, .int], returnType := some .boolean }, accessFlags := 9, code := some k1c2 }
/-- com/example/fail_to_forward/failtoforward/CircuitBreakerSettingsWithFailureRateThresholdPinLaw -/
def k1 : Class := { plain "com/example/fail_to_forward/failtoforward/CircuitBreakerSettingsWithFailureRateThresholdPinLaw" (some 0) with
  accessFlags := 49
  interfaces := #[]
  cf := some (fileOf pool1 10 #[] #[{ accessFlags := 1, nameIndex := 5, descriptorIndex := 6, attributes := #[] }, { accessFlags := 10, nameIndex := 13, descriptorIndex := 14, attributes := #[] }, { accessFlags := 9, nameIndex := 44, descriptorIndex := 45, attributes := #[] }] 49 2 #[] #[])
  fields := #[]
  methods := #[k1m0, k1m1, k1m2]
  instanceTypes := #[]
  staticTypes := #[]
  resolved := Array.replicate 49 none
  statics := none }

def pool2 : Array CpInfo := pool [(1, .methodref 2 3), (0, .class_ 4), (0, .nameAndType 5 6), (0, u "java/lang/Object"), (0, u "<init>"), (0, u "()V"), (0, .class_ 8), (0, u "java/lang/Record")] 13

def k2c0 : Code := { maxStack := 1, maxLocals := 1, code := jdk_30_method_1_code, exceptionTable := #[], attributes := #[] }
def k2m0 : Method := { name := "<init>", desc := "()V", sig := { parameters := [], returnType := none }, accessFlags := 4, code := some k2c0 }
/-- java/lang/Record -/
def k2 : Class := { plain "java/lang/Record" (some 0) with
  accessFlags := 1057
  interfaces := #[]
  cf := some (fileOf pool2 7 #[] #[{ accessFlags := 4, nameIndex := 5, descriptorIndex := 6, attributes := #[] }] 1057 2 #[] #[])
  fields := #[]
  methods := #[k2m0]
  instanceTypes := #[]
  staticTypes := #[]
  resolved := Array.replicate 22 none
  statics := none }

def pool3 : Array CpInfo := pool [(1, .methodref 2 3), (0, .class_ 4), (0, .nameAndType 5 6), (0, u "java/lang/Record"), (0, u "<init>"), (0, u "()V"), (0, .fieldref 8 9), (0, .class_ 10), (0, .nameAndType 11 12), (0, u "com/example/fail_to_forward/failtoforward/CircuitBreakerSettings"), (0, u "failureRateThreshold"), (0, u "F"), (0, .fieldref 8 14), (0, .nameAndType 15 16), (0, u "slidingWindowSize"), (0, u "I"), (0, .fieldref 8 18), (0, .nameAndType 19 16), (0, u "minimumNumberOfCalls"), (0, .fieldref 8 21), (0, .nameAndType 22 23), (0, u "waitDurationInOpenStateMs"), (0, u "J"), (0, .fieldref 8 25), (0, .nameAndType 26 16), (0, u "permittedNumberOfCallsInHalfOpenState"), (3, .methodref 8 31), (0, .nameAndType 5 32), (0, u "(FIIJI)V"), (17, u "withFailureRateThreshold"), (0, u "(F)Lcom/example/fail_to_forward/failtoforward/CircuitBreakerSettings;"), (7, u "()I"), (1, u "()F"), (0, u "()J")] 24

def k3c0 : Code := { maxStack := 3, maxLocals := 7, code := prog_4_method_1_code, exceptionTable := #[], attributes := #[] }
def k3m0 : Method := { name := "<init>", desc := "(FIIJI)V", sig := { parameters := [.float, .int, .int, .long, .int], returnType := none }, accessFlags := 1, code := some k3c0 }
def k3c1 : Code := { maxStack := 8, maxLocals := 2, code := prog_4_method_3_code, exceptionTable := #[], attributes := #[] }
def k3m1 : Method := { name := "withFailureRateThreshold", desc := "(F)Lcom/example/fail_to_forward/failtoforward/CircuitBreakerSettings;", sig := { parameters := [.float], returnType := some (.object "com/example/fail_to_forward/failtoforward/CircuitBreakerSettings") }, accessFlags := 1, code := some k3c1 }
def k3c2 : Code := { maxStack := 1, maxLocals := 1, code := prog_4_method_11_code, exceptionTable := #[], attributes := #[] }
def k3m2 : Method := { name := "failureRateThreshold", desc := "()F", sig := { parameters := [], returnType := some .float }, accessFlags := 1, code := some k3c2 }
def k3c3 : Code := { maxStack := 1, maxLocals := 1, code := prog_4_method_12_code, exceptionTable := #[], attributes := #[] }
def k3m3 : Method := { name := "slidingWindowSize", desc := "()I", sig := { parameters := [], returnType := some .int }, accessFlags := 1, code := some k3c3 }
def k3c4 : Code := { maxStack := 1, maxLocals := 1, code := prog_4_method_13_code, exceptionTable := #[], attributes := #[] }
def k3m4 : Method := { name := "minimumNumberOfCalls", desc := "()I", sig := { parameters := [], returnType := some .int }, accessFlags := 1, code := some k3c4 }
def k3c5 : Code := { maxStack := 2, maxLocals := 1, code := prog_4_method_14_code, exceptionTable := #[], attributes := #[] }
def k3m5 : Method := { name := "waitDurationInOpenStateMs", desc := "()J", sig := { parameters := [], returnType := some .long }, accessFlags := 1, code := some k3c5 }
def k3c6 : Code := { maxStack := 1, maxLocals := 1, code := prog_4_method_15_code, exceptionTable := #[], attributes := #[] }
def k3m6 : Method := { name := "permittedNumberOfCallsInHalfOpenState", desc := "()I", sig := { parameters := [], returnType := some .int }, accessFlags := 1, code := some k3c6 }
/-- com/example/fail_to_forward/failtoforward/CircuitBreakerSettings -/
def k3 : Class := { plain "com/example/fail_to_forward/failtoforward/CircuitBreakerSettings" (some 2) with
  accessFlags := 49
  interfaces := #[]
  cf := some (fileOf pool3 8 #[] #[{ accessFlags := 1, nameIndex := 5, descriptorIndex := 32, attributes := #[] }, { accessFlags := 1, nameIndex := 50, descriptorIndex := 51, attributes := #[] }, { accessFlags := 1, nameIndex := 11, descriptorIndex := 61, attributes := #[] }, { accessFlags := 1, nameIndex := 15, descriptorIndex := 59, attributes := #[] }, { accessFlags := 1, nameIndex := 19, descriptorIndex := 59, attributes := #[] }, { accessFlags := 1, nameIndex := 22, descriptorIndex := 62, attributes := #[] }, { accessFlags := 1, nameIndex := 26, descriptorIndex := 59, attributes := #[] }] 49 2 #[] #[{ accessFlags := 18, nameIndex := 11, descriptorIndex := 12, attributes := #[] }, { accessFlags := 18, nameIndex := 15, descriptorIndex := 16, attributes := #[] }, { accessFlags := 18, nameIndex := 19, descriptorIndex := 16, attributes := #[] }, { accessFlags := 18, nameIndex := 22, descriptorIndex := 23, attributes := #[] }, { accessFlags := 18, nameIndex := 26, descriptorIndex := 16, attributes := #[] }])
  fields := #[{ name := "failureRateThreshold", type := .float, accessFlags := 18, slot := 0, constantValue := 0 }, { name := "slidingWindowSize", type := .int, accessFlags := 18, slot := 1, constantValue := 0 }, { name := "minimumNumberOfCalls", type := .int, accessFlags := 18, slot := 2, constantValue := 0 }, { name := "waitDurationInOpenStateMs", type := .long, accessFlags := 18, slot := 3, constantValue := 0 }, { name := "permittedNumberOfCallsInHalfOpenState", type := .int, accessFlags := 18, slot := 4, constantValue := 0 }]
  methods := #[k3m0, k3m1, k3m2, k3m3, k3m4, k3m5, k3m6]
  instanceTypes := #[.float, .int, .int, .long, .int]
  staticTypes := #[]
  resolved := Array.replicate 87 none
  statics := none }

def pool4 : Array CpInfo := pool [(1, u "java/lang/Cloneable"), (0, .class_ 1), (0, u "java/lang/Object"), (0, .class_ 3)] 3

/-- java/lang/Cloneable -/
def k4 : Class := { plain "java/lang/Cloneable" (some 0) with
  accessFlags := 1537
  interfaces := #[]
  cf := some (fileOf pool4 2 #[] #[] 1537 4 #[] #[])
  fields := #[]
  methods := #[]
  instanceTypes := #[]
  staticTypes := #[]
  resolved := Array.replicate 8 none
  statics := none }

def pool5 : Array CpInfo := pool [(1, u "java/io/Serializable"), (0, .class_ 1), (0, u "java/lang/Object"), (0, .class_ 3)] 3

/-- java/io/Serializable -/
def k5 : Class := { plain "java/io/Serializable" (some 0) with
  accessFlags := 1537
  interfaces := #[]
  cf := some (fileOf pool5 2 #[] #[] 1537 4 #[] #[])
  fields := #[]
  methods := #[]
  instanceTypes := #[]
  staticTypes := #[]
  resolved := Array.replicate 8 none
  statics := none }

/-- the primitive byte -/
def k6 : Class := { plain "byte" none with kind := .primitive 'B', accessFlags := 0x411 }
/-- [B -/
def k7 : Class := { plain "[B" (some 0) with kind := .array 6 .byte, interfaces := #[4, 5], accessFlags := 1041 }

/-- the primitive int -/
def k8 : Class := { plain "int" none with kind := .primitive 'I', accessFlags := 0x411 }
/-- [I -/
def k9 : Class := { plain "[I" (some 0) with kind := .array 8 .int, interfaces := #[4, 5], accessFlags := 1041 }

def heap : Heap := #[]
def classes : Array Class := #[k0, k1, k2, k3, k4, k5, k6, k7, k8, k9]
def interned : List (Array UInt16 × Addr) := []
def slotsUsed : Nat := 0
def theMethod : MethodId := ⟨1, 2⟩
def args0 : Array Value := #[.int 5, .int 7, .int 2, .int 4, .long 9, .int 3]
def aboutOver (below : List Frame) : State where
  vm := { classes := classes, interned := interned.toArray }
  heap := heap
  slotsUsed := slotsUsed
  threads := #[{ frames := .invoking theMethod args0 :: below }]
def below0 : List Frame := [.native { method := ⟨0, 0⟩, args := #[] }]
def about1 : State := aboutOver below0
def p0 : Program := .bare "" "" ""
def e0 : Env := launch0.env 0 0 0
theorem w_frames : about1.frames = Frame.invoking theMethod args0 :: below0 := rfl
set_option maxRecDepth 65536 in
theorem w_args : argsFit about1.vm theMethod args0 = true := by decide +kernel
set_option maxRecDepth 65536 in
theorem w_heap : heapFits about1 = true := by decide +kernel
set_option maxRecDepth 65536 in
theorem w_runnable : about1.curStatus? = some .runnable := by decide +kernel
set_option maxRecDepth 65536 in
theorem w_alone : about1.alone = true := by decide +kernel
set_option maxRecDepth 65536 in
theorem w_named : about1.methodNamed? x = some theMethod := by decide +kernel
set_option maxRecDepth 65536 in
theorem w_hears : about1.hears theMethod below0 = true := by decide +kernel
set_option maxRecDepth 65536 in
theorem w_ripe : about1.ripe theMethod args0 below0 = true := by decide +kernel
theorem w_running : about1.status = .running := rfl
set_option maxRecDepth 65536 in
theorem w_room : about1.hasRoom e0.platform room_1 = true :=
  launch0.hasRoom_least _ room_1 (by decide +kernel) (by decide +kernel) (by decide +kernel) (by decide +kernel) (by decide +kernel) (by decide +kernel)
theorem allAtoms_all (ts : List Jvm.Cond) (a : Array Jvm.Value) (st : Jvm.State) : (allAtoms ts).before a st = ts.all (fun c => c.before a st) := by
  induction ts with
  | nil => rfl
  | cons c t ih =>
    show (Jvm.Cond.and c (allAtoms t)).before a st = _
    rw [Jvm.Cond.before_and, ih, List.all_cons]
def words1 : List Jvm.Cond := Jvm.Cond.code x code maxLocals ret :: tables_1
/-- a 'code' word, met by the world's own term for the bytes: nothing is compared byte by byte -/
theorem code_word {y : MethodName} {bytes : ByteArray} {mx : Nat} {rt : Option FieldType} {a : Array Value} {s : State} {m : MethodId} {meth : Method} {c : Code} (h1 : s.methodNamed? y = some m) (h2 : s.vm.method? m = some meth) (h3 : meth.code = some c) (h4 : c.code = bytes)
    (h5 : (c.maxLocals == mx && c.exceptionTable.isEmpty && decide (c.maxStack ≤ mostOperands) && decide (meth.sig.returnType = rt) && !meth.locks && decide (parseMethodDescriptor y.desc = some meth.sig)) = true) : (Jvm.Cond.code y bytes mx rt).before a s = true := by
  simp only [Bool.and_eq_true, beq_iff_eq, Bool.not_eq_true', decide_eq_true_eq] at h5
  obtain ⟨⟨⟨⟨⟨g1, g2⟩, g3⟩, g4⟩, g5⟩, g6⟩ := h5
  simp [Cond.before, Cond.holds, Cond.value, h1, h2, h3, h4, g1, g2, g3, g4, g5, g6]
def isCode : Jvm.Cond → Bool
  | .code _ _ _ _ => true
  | _ => false
theorem all_split {L : List Jvm.Cond} {P : Jvm.Cond → Bool} (h1 : L.all (fun c => isCode c || P c) = true) (h2 : ∀ c ∈ L.filter isCode, P c = true) : L.all P = true := by
  refine List.all_eq_true.mpr fun c hc => ?_
  have h := List.all_eq_true.mp h1 c hc
  rcases Bool.eq_false_or_eq_true (isCode c) with hi | hi
  · exact h2 c (List.mem_filter.mpr ⟨hc, hi⟩)
  · simpa [hi] using h
set_option maxRecDepth 65536 in
theorem w_c0 : (Jvm.Cond.code x code maxLocals ret).before args0 about1 = true := code_word (m := ⟨1, 2⟩) (meth := k1m2) (c := k1c2) (by decide +kernel) rfl rfl rfl (by decide +kernel)
set_option maxRecDepth 65536 in
theorem w_c1 : (Jvm.Cond.code ({ cls := "com/example/fail_to_forward/failtoforward/CircuitBreakerSettingsWithFailureRateThresholdPinLaw", name := "threshold", desc := "(I)F" } : Jvm.MethodName) method_2_code (1 : Nat) (Option.some Jvm.ClassFile.FieldType.float)).before args0 about1 = true := code_word (m := ⟨1, 1⟩) (meth := k1m1) (c := k1c1) (by decide +kernel) rfl rfl rfl (by decide +kernel)
set_option maxRecDepth 65536 in
theorem w_c2 : (Jvm.Cond.code ({ cls := "com/example/fail_to_forward/failtoforward/CircuitBreakerSettings", name := "<init>", desc := "(FIIJI)V" } : Jvm.MethodName) prog_4_method_1_code (7 : Nat) (Option.none : Option Jvm.ClassFile.FieldType)).before args0 about1 = true := code_word (m := ⟨3, 0⟩) (meth := k3m0) (c := k3c0) (by decide +kernel) rfl rfl rfl (by decide +kernel)
set_option maxRecDepth 65536 in
theorem w_c3 : (Jvm.Cond.code ({ cls := "java/lang/Record", name := "<init>", desc := "()V" } : Jvm.MethodName) jdk_30_method_1_code (1 : Nat) (Option.none : Option Jvm.ClassFile.FieldType)).before args0 about1 = true := code_word (m := ⟨2, 0⟩) (meth := k2m0) (c := k2c0) (by decide +kernel) rfl rfl rfl (by decide +kernel)
set_option maxRecDepth 65536 in
theorem w_c4 : (Jvm.Cond.code ({ cls := "java/lang/Object", name := "<init>", desc := "()V" } : Jvm.MethodName) object_method_1_code (1 : Nat) (Option.none : Option Jvm.ClassFile.FieldType)).before args0 about1 = true := code_word (m := ⟨0, 0⟩) (meth := k0m0) (c := k0c0) (by decide +kernel) rfl rfl rfl (by decide +kernel)
set_option maxRecDepth 65536 in
theorem w_c5 : (Jvm.Cond.code ({ cls := "com/example/fail_to_forward/failtoforward/CircuitBreakerSettings", name := "withFailureRateThreshold", desc := "(F)Lcom/example/fail_to_forward/failtoforward/CircuitBreakerSettings;" } : Jvm.MethodName) prog_4_method_3_code (2 : Nat) (Option.some (Jvm.ClassFile.FieldType.object "com/example/fail_to_forward/failtoforward/CircuitBreakerSettings"))).before args0 about1 = true := code_word (m := ⟨3, 1⟩) (meth := k3m1) (c := k3c1) (by decide +kernel) rfl rfl rfl (by decide +kernel)
set_option maxRecDepth 65536 in
theorem w_c6 : (Jvm.Cond.code ({ cls := "com/example/fail_to_forward/failtoforward/CircuitBreakerSettings", name := "failureRateThreshold", desc := "()F" } : Jvm.MethodName) prog_4_method_11_code (1 : Nat) (Option.some Jvm.ClassFile.FieldType.float)).before args0 about1 = true := code_word (m := ⟨3, 2⟩) (meth := k3m2) (c := k3c2) (by decide +kernel) rfl rfl rfl (by decide +kernel)
set_option maxRecDepth 65536 in
theorem w_c7 : (Jvm.Cond.code ({ cls := "com/example/fail_to_forward/failtoforward/CircuitBreakerSettings", name := "slidingWindowSize", desc := "()I" } : Jvm.MethodName) prog_4_method_12_code (1 : Nat) (Option.some Jvm.ClassFile.FieldType.int)).before args0 about1 = true := code_word (m := ⟨3, 3⟩) (meth := k3m3) (c := k3c3) (by decide +kernel) rfl rfl rfl (by decide +kernel)
set_option maxRecDepth 65536 in
theorem w_c8 : (Jvm.Cond.code ({ cls := "com/example/fail_to_forward/failtoforward/CircuitBreakerSettings", name := "minimumNumberOfCalls", desc := "()I" } : Jvm.MethodName) prog_4_method_13_code (1 : Nat) (Option.some Jvm.ClassFile.FieldType.int)).before args0 about1 = true := code_word (m := ⟨3, 4⟩) (meth := k3m4) (c := k3c4) (by decide +kernel) rfl rfl rfl (by decide +kernel)
set_option maxRecDepth 65536 in
theorem w_c9 : (Jvm.Cond.code ({ cls := "com/example/fail_to_forward/failtoforward/CircuitBreakerSettings", name := "waitDurationInOpenStateMs", desc := "()J" } : Jvm.MethodName) prog_4_method_14_code (1 : Nat) (Option.some Jvm.ClassFile.FieldType.long)).before args0 about1 = true := code_word (m := ⟨3, 5⟩) (meth := k3m5) (c := k3c5) (by decide +kernel) rfl rfl rfl (by decide +kernel)
set_option maxRecDepth 65536 in
theorem w_c10 : (Jvm.Cond.code ({ cls := "com/example/fail_to_forward/failtoforward/CircuitBreakerSettings", name := "permittedNumberOfCallsInHalfOpenState", desc := "()I" } : Jvm.MethodName) prog_4_method_15_code (1 : Nat) (Option.some Jvm.ClassFile.FieldType.int)).before args0 about1 = true := code_word (m := ⟨3, 6⟩) (meth := k3m6) (c := k3c6) (by decide +kernel) rfl rfl rfl (by decide +kernel)
def codes1 : List Jvm.Cond := [Jvm.Cond.code x code maxLocals ret, Jvm.Cond.code ({ cls := "com/example/fail_to_forward/failtoforward/CircuitBreakerSettingsWithFailureRateThresholdPinLaw", name := "threshold", desc := "(I)F" } : Jvm.MethodName) method_2_code (1 : Nat) (Option.some Jvm.ClassFile.FieldType.float), Jvm.Cond.code ({ cls := "com/example/fail_to_forward/failtoforward/CircuitBreakerSettings", name := "<init>", desc := "(FIIJI)V" } : Jvm.MethodName) prog_4_method_1_code (7 : Nat) (Option.none : Option Jvm.ClassFile.FieldType), Jvm.Cond.code ({ cls := "java/lang/Record", name := "<init>", desc := "()V" } : Jvm.MethodName) jdk_30_method_1_code (1 : Nat) (Option.none : Option Jvm.ClassFile.FieldType), Jvm.Cond.code ({ cls := "java/lang/Object", name := "<init>", desc := "()V" } : Jvm.MethodName) object_method_1_code (1 : Nat) (Option.none : Option Jvm.ClassFile.FieldType), Jvm.Cond.code ({ cls := "com/example/fail_to_forward/failtoforward/CircuitBreakerSettings", name := "withFailureRateThreshold", desc := "(F)Lcom/example/fail_to_forward/failtoforward/CircuitBreakerSettings;" } : Jvm.MethodName) prog_4_method_3_code (2 : Nat) (Option.some (Jvm.ClassFile.FieldType.object "com/example/fail_to_forward/failtoforward/CircuitBreakerSettings")), Jvm.Cond.code ({ cls := "com/example/fail_to_forward/failtoforward/CircuitBreakerSettings", name := "failureRateThreshold", desc := "()F" } : Jvm.MethodName) prog_4_method_11_code (1 : Nat) (Option.some Jvm.ClassFile.FieldType.float), Jvm.Cond.code ({ cls := "com/example/fail_to_forward/failtoforward/CircuitBreakerSettings", name := "slidingWindowSize", desc := "()I" } : Jvm.MethodName) prog_4_method_12_code (1 : Nat) (Option.some Jvm.ClassFile.FieldType.int), Jvm.Cond.code ({ cls := "com/example/fail_to_forward/failtoforward/CircuitBreakerSettings", name := "minimumNumberOfCalls", desc := "()I" } : Jvm.MethodName) prog_4_method_13_code (1 : Nat) (Option.some Jvm.ClassFile.FieldType.int), Jvm.Cond.code ({ cls := "com/example/fail_to_forward/failtoforward/CircuitBreakerSettings", name := "waitDurationInOpenStateMs", desc := "()J" } : Jvm.MethodName) prog_4_method_14_code (1 : Nat) (Option.some Jvm.ClassFile.FieldType.long), Jvm.Cond.code ({ cls := "com/example/fail_to_forward/failtoforward/CircuitBreakerSettings", name := "permittedNumberOfCallsInHalfOpenState", desc := "()I" } : Jvm.MethodName) prog_4_method_15_code (1 : Nat) (Option.some Jvm.ClassFile.FieldType.int)]
set_option maxRecDepth 65536 in
theorem codes_eq : words1.filter isCode = codes1 := rfl
theorem w_codes : ∀ c ∈ words1.filter isCode, c.before args0 about1 = true := by
  rw [codes_eq]
  intro c hc
  simp only [codes1, List.mem_cons, List.not_mem_nil, or_false] at hc
  rcases hc with rfl | rfl | rfl | rfl | rfl | rfl | rfl | rfl | rfl | rfl | rfl
  · exact w_c0
  · exact w_c1
  · exact w_c2
  · exact w_c3
  · exact w_c4
  · exact w_c5
  · exact w_c6
  · exact w_c7
  · exact w_c8
  · exact w_c9
  · exact w_c10
set_option maxRecDepth 65536 in
theorem w_t1 : (words1.take 24).all (fun c => isCode c || c.before args0 about1) = true := by decide +kernel
set_option maxRecDepth 65536 in
theorem w_t2 : ((words1.drop 24).take 24).all (fun c => isCode c || c.before args0 about1) = true := by decide +kernel
set_option maxRecDepth 65536 in
theorem w_t3 : ((words1.drop 24).drop 24).all (fun c => isCode c || c.before args0 about1) = true := by decide +kernel
theorem w_tables : (allAtoms (Jvm.Cond.code x code maxLocals ret :: tables_1)).before args0 about1 = true := by
  rw [allAtoms_all]
  show words1.all (fun c => c.before args0 about1) = true
  refine all_split ?_ w_codes
  rw [← List.take_append_drop 24 words1, List.all_append, w_t1, ← List.take_append_drop 24 (words1.drop 24), List.all_append, w_t2, w_t3]
  rfl
set_option maxRecDepth 65536 in
theorem w_case : (Jvm.Cond.and given_1 narrow_1).before args0 about1 = true := by decide +kernel
theorem w_applies : (headSpec (Jvm.Cond.code x code maxLocals ret :: tables_1) room_1).applies x e0.platform about1 = true :=
  (Spec.applies_iff w_frames).mpr ⟨w_running, w_runnable, w_alone, w_named, w_hears, w_ripe, w_room, w_tables⟩
theorem atStart : AtStart classFile x code maxLocals ret World_1 tables_1 room_1 Calls_1 rest_1 Pre_1 launch0 p0 e0 about1 theMethod args0 below0 :=
  ⟨lists_1, trivial, launch0.admits_env _ _ _, launch0.least_env, fairChoices_fair.cas, fairChoices_fair.clock, w_frames, w_args, w_heap, w_applies, trivial, trivial, w_case⟩
end start1
theorem witness_1 : WitnessClaimed_1 := ⟨start1.p0, start1.e0, start1.about1, start1.theMethod, start1.args0, start1.below0, start1.atStart⟩
end Jvm.Pilot.@@N@@
