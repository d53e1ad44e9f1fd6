import JvmDerived
import JvmDerived.Pilot.@@N@@Statement
import JvmDerived.Pilot.@@N@@Code
set_option linter.unusedVariables false
set_option linter.unusedSimpArgs false
namespace Jvm.Pilot.@@N@@
open Jvm Jvm.ClassFile Sem Op Lib Jvm.Free Jvm.Stand Jvm.LawKit Jvm.RoadKit Jvm.Free.Fl Bundle Jvm.Pilot.@@N@@.Jvm.D
/-- from here the run comes to some end at which G holds -/
def Gl (tb : Tables) (e : Env) (below : List Frame) (T : State) (g : JFrame) (G : State → Prop) : Prop := ∃ s₂, Steps tb e below (T.setTop g) s₂ ∧ G s₂
theorem Gl.via {tb : Tables} {e : Env} {below : List Frame} {T T' : State} {g g' : JFrame} {G : State → Prop} (st : ∀ t, Steps tb e below (T'.setTop g') t → Steps tb e below (T.setTop g) t) (k : Gl tb e below T' g' G) : Gl tb e below T g G := by
  obtain ⟨s₂, h1, h2⟩ := k
  exact ⟨s₂, st _ h1, h2⟩
theorem Gl.fin {tb : Tables} {e : Env} {below : List Frame} {T U : State} {g : JFrame} {G : State → Prop} (st : Steps tb e below (T.setTop g) U) (k : G U) : Gl tb e below T g G := ⟨U, st, k⟩
theorem own_b53 (x : Int32) : B53 x.toInt64 := by
  have h := rng32 x
  unfold B53
  rw [c_i2l]
  omega
theorem pn_0 : plainName "java/lang/Record" = true := by first | (simp [plainName, overriddenIn]; done) | decide +kernel
theorem d2_0 : decode jdk_30_method_1_code 0 = .ok (.aload_n 0, 1) := by decide +kernel
theorem d2_1 : decode jdk_30_method_1_code 1 = .ok (.invokespecial 1, 3) := by decide +kernel
theorem d2_4 : decode jdk_30_method_1_code 4 = .ok (.return_, 1) := by decide +kernel
theorem ef_rec_init (m : MethodId) (x0 : Addr) : entryFrame m #[(.ref x0)] 1 = mkF m 0 #[.val (.ref x0)] [] := by first | (simp [entryFrame, mkF, argsToLocals, Value.category]; done) | rfl | (simp [entryFrame, mkF, argsToLocals, *]; done)
def Q_rec_init (Z : State) (ra : Addr) (h0 : Heap) (n0 : Nat) (v : Option Value) (h : Heap) (L : List Loc) : Prop := v = none ∧ Fr n0 L ∧ h = h0
set_option maxRecDepth 65536 in
set_option maxHeartbeats 40000000 in
theorem rec_init (l : Launch) (Z : State) (a0 : Array Value) (hw : ∀ d ∈ tables_1, d.before a0 Z = true) (ws : List Jvm.Cond) (ra : Addr) (h0 : Heap) (n0 : Nat) (Z0 : n0 ≤ h0.size) :
    MetFree l (⟨"java/lang/Record", "<init>", "()V"⟩ : MethodName) (head1 (Jvm.Cond.code (⟨"java/lang/Record", "<init>", "()V"⟩ : MethodName) jdk_30_method_1_code 1 none :: ws) ({ frames := 1, cells := 0, slots := 0, locals := 12 } : Room)) (fun a U => a = #[(.ref ra)] ∧ Z.Warmed39 U.vm ∧ U.heap = h0) (fun _ _ _ _ _ => True) (fun _ U o U' => ∃ v L, o = .returned v ∧ Q_rec_init Z ra h0 n0 v U'.heap L ∧ FrameEnd U o U' L ({ frames := 1, cells := 0, slots := 0, locals := 12 } : Room).cells ({ frames := 1, cells := 0, slots := 0, locals := 12 } : Room).slots) := by
  refine MetFree.of_bodySF (plainFor_of_name pn_0) hisR ?_
  intro p e s m args below meth c s₁ Bd hml0 hP hK
  obtain ⟨rfl, hZ, hh⟩ := hP
  have hx := Bd.exec
  have hby := Bd.bytes
  have hml : c.maxLocals = 1 := hml0
  have hown : s.vm.findClass "java/lang/Record" = some m.cls := findClass_of_methodNamed Bd.named
  have hnm := (name_of_methodNamed Bd.named Bd.method).1
  have X0 : Stand p l e ({ frames := 1, cells := 0, slots := 0, locals := 12 } : Room) s m #[(.ref ra)] below meth c s₁ [] 0 0 := Stand.of_body Bd
  have e0 : s₁.heap = h0 := by rw [← hh, Bd.state]; rfl
  have N0 := Fr.nil n0
  obtain ⟨G, hG⟩ : ∃ G : State → Prop, G = (fun U' => ∃ o, U'.status = .running ∧ Ended U' below o ∧ ∃ v L, o = .returned v ∧ Q_rec_init Z ra h0 n0 v U'.heap L ∧ FrameEnd s o U' L ({ frames := 1, cells := 0, slots := 0, locals := 12 } : Room).cells ({ frames := 1, cells := 0, slots := 0, locals := 12 } : Room).slots) := ⟨_, rfl⟩
  suffices key : Gl p.tables e below s₁ (mkF m 0 #[.val (.ref ra)] []) G by
    obtain ⟨s₂, k1, k2⟩ := key
    rw [hG] at k2
    obtain ⟨o, k3, k4, k5⟩ := k2
    exact ⟨s₂, o, castTop (ef_rec_init m ra) k1, k3, k4, k5⟩
  show Gl p.tables e below s₁ (mkF m 0 #[.val (.ref ra)] []) G
  refine Gl.via (fun _ k => XS.aloadN X0.here hx rfl (hb hby d2_0) rfl rfl k) ?_
  show Gl p.tables e below s₁ (mkF m 1 #[.val (.ref ra)] [(.ref ra)]) G
  obtain ⟨T1, X1, e1, st1⟩ := initO X0 hx hZ hown (hw _ (List.mem_of_getElem? (i := 11) rfl)) (hw _ (List.mem_of_getElem? (i := 12) rfl)) (hw _ (List.mem_of_getElem? (i := 13) rfl)) e0 (g := (mkF m 1 #[.val (.ref ra)] [(.ref ra)])) rfl (by rw [hml]; rfl) rfl (hb hby d2_1) (by decide) (W := 0) (by show 2 * 0 + _ ≤ _; exact Nat.le_of_eq rfl) (by decide)
  refine Gl.via st1 ?_
  show Gl p.tables e below T1 (mkF m 4 #[.val (.ref ra)] []) G
  obtain ⟨fs, hr, hrun, hended, hW, hsame⟩ := X1.leave (v := none) (fun _ => rfl)
  have hq : ∀ L, Fr n0 L → Q_rec_init Z ra h0 n0 (none) T1.heap L := by
    intro L hN
    rw [e1]
    exact ⟨rfl, hN, rfl⟩
  rw [hG]
  exact Gl.fin (X1.returnOut hx Bd.returns (hb hby d2_4) hr) ⟨_, hrun, hended, _, _, rfl, hq _ N0, ⟨_, rfl⟩, hW, hsame.mono (by decide) (by decide)⟩
theorem pn_1 : plainName "com/example/sortie/sortie/solver/Cost" = true := by first | (simp [plainName, overriddenIn]; done) | decide +kernel
theorem d1_0 : decode prog_45_method_1_code 0 = .ok (.aload_n 0, 1) := by decide +kernel
theorem d1_1 : decode prog_45_method_1_code 1 = .ok (.invokespecial 1, 3) := by decide +kernel
theorem pd_0 : parseMethodDescriptor "()V" = some ⟨[], none⟩ := by decide +kernel
theorem d1_4 : decode prog_45_method_1_code 4 = .ok (.aload_n 0, 1) := by decide +kernel
theorem d1_5 : decode prog_45_method_1_code 5 = .ok (.dload_n 1, 1) := by decide +kernel
theorem d1_6 : decode prog_45_method_1_code 6 = .ok (.putfield 7, 3) := by decide +kernel
theorem d1_9 : decode prog_45_method_1_code 9 = .ok (.aload_n 0, 1) := by decide +kernel
theorem d1_10 : decode prog_45_method_1_code 10 = .ok (.dload_n 3, 1) := by decide +kernel
theorem d1_11 : decode prog_45_method_1_code 11 = .ok (.putfield 13, 3) := by decide +kernel
theorem d1_14 : decode prog_45_method_1_code 14 = .ok (.return_, 1) := by decide +kernel
theorem ef_c_init (m : MethodId) (x0 : Addr) (x1 : UInt64) (x2 : UInt64) : entryFrame m #[(.ref x0), (.double x1), (.double x2)] 5 = mkF m 0 #[.val (.ref x0), .val (.double x1), .second, .val (.double x2), .second] [] := by first | (simp [entryFrame, mkF, argsToLocals, Value.category]; done) | rfl | (simp [entryFrame, mkF, argsToLocals, *]; done)
def Q_c_init (Z : State) (ca : Addr) (cx : UInt64) (cy : UInt64) (cu : Value) (cw : Value) (h0 : Heap) (n0 : Nat) (v : Option Value) (h : Heap) (L : List Loc) : Prop := v = none ∧ Fr n0 L ∧ Keep h0 h [ca] ∧ Exa Z h ca "com/example/sortie/sortie/solver/Cost" ∧ Fld Z h ca "com/example/sortie/sortie/solver/Cost" "value" "D" (.double cx) ∧ Fld Z h ca "com/example/sortie/sortie/solver/Cost" "tieBreak" "D" (.double cy)
set_option maxRecDepth 65536 in
set_option maxHeartbeats 40000000 in
theorem c_init (l : Launch) (Z : State) (a0 : Array Value) (hw : ∀ d ∈ tables_1, d.before a0 Z = true) (ws : List Jvm.Cond) (ca : Addr) (cx : UInt64) (cy : UInt64) (cu : Value) (cw : Value) (h0 : Heap) (n0 : Nat) (Z0 : n0 ≤ h0.size) (F0_ca : Exa Z h0 ca "com/example/sortie/sortie/solver/Cost") (F1_ca_value : Fld Z h0 ca "com/example/sortie/sortie/solver/Cost" "value" "D" cu) (F2_ca_tieBreak : Fld Z h0 ca "com/example/sortie/sortie/solver/Cost" "tieBreak" "D" cw) (hp0 : n0 ≤ ca) :
    MetFree l (⟨"com/example/sortie/sortie/solver/Cost", "<init>", "(DD)V"⟩ : MethodName) (head1 (Jvm.Cond.code (⟨"com/example/sortie/sortie/solver/Cost", "<init>", "(DD)V"⟩ : MethodName) prog_45_method_1_code 5 none :: ws) ({ frames := 2, cells := 0, slots := 0, locals := 24 } : Room)) (fun a U => a = #[(.ref ca), (.double cx), (.double cy)] ∧ Z.Warmed39 U.vm ∧ U.heap = h0) (fun _ _ _ _ _ => True) (fun _ U o U' => ∃ v L, o = .returned v ∧ Q_c_init Z ca cx cy cu cw h0 n0 v U'.heap L ∧ FrameEnd U o U' L ({ frames := 2, cells := 0, slots := 0, locals := 24 } : Room).cells ({ frames := 2, cells := 0, slots := 0, locals := 24 } : Room).slots) := by
  refine MetFree.of_bodySF (plainFor_of_name pn_1) hisR ?_
  intro p e s m args below meth c s₁ Bd hml0 hP hK
  obtain ⟨rfl, hZ, hh⟩ := hP
  have hx := Bd.exec
  have hby := Bd.bytes
  have hml : c.maxLocals = 5 := hml0
  have hown : s.vm.findClass "com/example/sortie/sortie/solver/Cost" = some m.cls := findClass_of_methodNamed Bd.named
  have hnm := (name_of_methodNamed Bd.named Bd.method).1
  have X0 : Stand p l e ({ frames := 2, cells := 0, slots := 0, locals := 24 } : Room) s m #[(.ref ca), (.double cx), (.double cy)] below meth c s₁ [] 0 0 := Stand.of_body Bd
  have e0 : s₁.heap = h0 := by rw [← hh, Bd.state]; rfl
  have N0 := Fr.nil n0
  obtain ⟨G, hG⟩ : ∃ G : State → Prop, G = (fun U' => ∃ o, U'.status = .running ∧ Ended U' below o ∧ ∃ v L, o = .returned v ∧ Q_c_init Z ca cx cy cu cw h0 n0 v U'.heap L ∧ FrameEnd s o U' L ({ frames := 2, cells := 0, slots := 0, locals := 24 } : Room).cells ({ frames := 2, cells := 0, slots := 0, locals := 24 } : Room).slots) := ⟨_, rfl⟩
  suffices key : Gl p.tables e below s₁ (mkF m 0 #[.val (.ref ca), .val (.double cx), .second, .val (.double cy), .second] []) G by
    obtain ⟨s₂, k1, k2⟩ := key
    rw [hG] at k2
    obtain ⟨o, k3, k4, k5⟩ := k2
    exact ⟨s₂, o, castTop (ef_c_init m ca cx cy) k1, k3, k4, k5⟩
  show Gl p.tables e below s₁ (mkF m 0 #[.val (.ref ca), .val (.double cx), .second, .val (.double cy), .second] []) G
  refine Gl.via (fun _ k => XS.aloadN X0.here hx rfl (hb hby d1_0) rfl rfl k) ?_
  show Gl p.tables e below s₁ (mkF m 1 #[.val (.ref ca), .val (.double cx), .second, .val (.double cy), .second] [(.ref ca)]) G
  obtain ⟨_, _, ⟨T1, L1, k1, n1⟩, -, X1, ⟨Lc1, hQ1, l1, y1, z1⟩, st1⟩ := X0.specialBack hx (y := (⟨"java/lang/Record", "<init>", "()V"⟩ : MethodName)) rfl hown (mvT hZ (hw _ (List.mem_of_getElem? (i := 6) rfl))) (mvT hZ (hw _ (List.mem_of_getElem? (i := 7) rfl))) (mvT hZ (hw _ (List.mem_of_getElem? (i := 10) rfl))) (by decide) (backOf (W := 0) (rec_init l Z a0 hw [] ca h0 n0 Z0 ) hZ (hw _ (List.mem_of_getElem? (i := 10) rfl)) (hw _ (List.mem_of_getElem? (i := 9) rfl)) (by decide) (by decide)) (g := (mkF m 1 #[.val (.ref ca), .val (.double cx), .second, .val (.double cy), .second] [(.ref ca)])) rfl (by rw [hml]; rfl) (Steps.refl _) (a := ca) (argsL := []) (rest := []) (lenOf pd_0 rfl) rfl (by show 2 * 0 + _ ≤ _; exact Nat.le_of_eq rfl) (hb hby d1_1) (fun _ _ => ⟨rfl, e0, (by decide : 0 + 0 ≤ _), (by decide : 0 + 0 ≤ _)⟩)
  dsimp only [Pt.U, Pt.locs, Pt.cells, Pt.slots] at X1 l1 y1 z1 st1 hQ1
  subst l1 y1 z1
  obtain ⟨rfl, N1q, eh1⟩ := hQ1
  have N1_ := Fr.app N0 N1q
  refine Gl.via (fun _ k => st1.trans k) ?_
  show Gl p.tables e below T1 (mkF m 4 #[.val (.ref ca), .val (.double cx), .second, .val (.double cy), .second] []) G
  refine Gl.via (fun _ k => XS.aloadN X1.here hx rfl (hb hby d1_4) rfl rfl k) ?_
  show Gl p.tables e below T1 (mkF m 5 #[.val (.ref ca), .val (.double cx), .second, .val (.double cy), .second] [(.ref ca)]) G
  refine Gl.via (fun _ k => XS.dloadN X1.here hx rfl (hb hby d1_5) rfl k) ?_
  show Gl p.tables e below T1 (mkF m 6 #[.val (.ref ca), .val (.double cx), .second, .val (.double cy), .second] [(.double cx), (.ref ca)]) G
  obtain ⟨T2, h2, X2, e2, W2, st2⟩ := putF X1 hx hZ hown (host := "") (Or.inl (hw _ (List.mem_of_getElem? (i := 14) rfl))) Via.refl eh1 F1_ca_value F0_ca (Or.inr ⟨(hw _ (List.mem_of_getElem? (i := 15) rfl)), rfl, hnm⟩) (hw _ (List.mem_of_getElem? (i := 1) rfl)) (ty := .double) (by decide) rfl rfl (g := (mkF m 6 #[.val (.ref ca), .val (.double cx), .second, .val (.double cy), .second] [(.double cx), (.ref ca)])) rfl rfl (hb hby d1_6)
  refine Gl.via st2 ?_
  have N2_ := Fr.snoc X2 N1_ hp0
  have Z3 : n0 ≤ h2.size := Nat.le_trans Z0 (Keep.of_wr W2).1
  have Y4 : h0.size ≤ h2.size := Nat.le_trans (Nat.le_refl h0.size) (Keep.of_wr W2).1
  show Gl p.tables e below T2 (mkF m 9 #[.val (.ref ca), .val (.double cx), .second, .val (.double cy), .second] []) G
  refine Gl.via (fun _ k => XS.aloadN X2.here hx rfl (hb hby d1_9) rfl rfl k) ?_
  show Gl p.tables e below T2 (mkF m 10 #[.val (.ref ca), .val (.double cx), .second, .val (.double cy), .second] [(.ref ca)]) G
  refine Gl.via (fun _ k => XS.dloadN X2.here hx rfl (hb hby d1_10) rfl k) ?_
  show Gl p.tables e below T2 (mkF m 11 #[.val (.ref ca), .val (.double cx), .second, .val (.double cy), .second] [(.double cy), (.ref ca)]) G
  have G5 : Fld Z h2 ca "com/example/sortie/sortie/solver/Cost" "tieBreak" "D" cw := (F2_ca_tieBreak.other W2 (Or.inr (slot_ne (Or.inr (hw _ (List.mem_of_getElem? (i := 17) rfl))) (Or.inr (hw _ (List.mem_of_getElem? (i := 15) rfl))) (by decide) (t := .double) (t' := .double) (by decide) (by decide))))
  have G6 : Exa Z h2 ca "com/example/sortie/sortie/solver/Cost" := (F0_ca.wr W2)
  obtain ⟨T7, h7, X7, e7, W7, st7⟩ := putF X2 hx hZ hown (host := "") (Or.inl (hw _ (List.mem_of_getElem? (i := 16) rfl))) Via.refl e2 G5 G6 (Or.inr ⟨(hw _ (List.mem_of_getElem? (i := 17) rfl)), rfl, hnm⟩) (hw _ (List.mem_of_getElem? (i := 1) rfl)) (ty := .double) (by decide) rfl rfl (g := (mkF m 11 #[.val (.ref ca), .val (.double cx), .second, .val (.double cy), .second] [(.double cy), (.ref ca)])) rfl rfl (hb hby d1_11)
  refine Gl.via st7 ?_
  have N7_ := Fr.snoc X7 N2_ hp0
  have Z8 : n0 ≤ h7.size := Nat.le_trans Z3 (Keep.of_wr W7).1
  have Y9 : h0.size ≤ h7.size := Nat.le_trans Y4 (Keep.of_wr W7).1
  show Gl p.tables e below T7 (mkF m 14 #[.val (.ref ca), .val (.double cx), .second, .val (.double cy), .second] []) G
  obtain ⟨fs, hr, hrun, hended, hW, hsame⟩ := X7.leave (v := none) (fun _ => rfl)
  have G10 : Exa Z h7 ca "com/example/sortie/sortie/solver/Cost" := (G6.wr W7)
  have G11 : Fld Z h7 ca "com/example/sortie/sortie/solver/Cost" "value" "D" (.double cx) := ((Fld.same W2 F1_ca_value).other W7 (Or.inr (slot_ne (Or.inr (hw _ (List.mem_of_getElem? (i := 15) rfl))) (Or.inr (hw _ (List.mem_of_getElem? (i := 17) rfl))) (by decide) (t := .double) (t' := .double) (by decide) (by decide))))
  have hq : ∀ L, Fr n0 L → Q_c_init Z ca cx cy cu cw h0 n0 (none) T7.heap L := by
    intro L hN
    rw [e7]
    exact ⟨rfl, hN, (((Keep.refl h0 [ca]).wr W2 (Or.inl (List.mem_of_getElem? (i := 0) rfl))).wr W7 (Or.inl (List.mem_of_getElem? (i := 0) rfl))), G10, G11, (Fld.same W7 G5)⟩
  rw [hG]
  exact Gl.fin (X7.returnOut hx Bd.returns (hb hby d1_14) hr) ⟨_, hrun, hended, _, _, rfl, hq _ N7_, ⟨_, rfl⟩, hW, hsame.mono (by decide) (by decide)⟩
theorem d4_0 : decode prog_45_method_3_code 0 = .ok (.new 8, 3) := by decide +kernel
theorem d4_3 : decode prog_45_method_3_code 3 = .ok (.dup, 1) := by decide +kernel
theorem d4_4 : decode prog_45_method_3_code 4 = .ok (.aload_n 0, 1) := by decide +kernel
theorem d4_5 : decode prog_45_method_3_code 5 = .ok (.getfield 7, 3) := by decide +kernel
theorem d4_8 : decode prog_45_method_3_code 8 = .ok (.aload_n 1, 1) := by decide +kernel
theorem d4_9 : decode prog_45_method_3_code 9 = .ok (.getfield 7, 3) := by decide +kernel
theorem d4_12 : decode prog_45_method_3_code 12 = .ok (.dsub, 1) := by decide +kernel
theorem d4_13 : decode prog_45_method_3_code 13 = .ok (.aload_n 0, 1) := by decide +kernel
theorem d4_14 : decode prog_45_method_3_code 14 = .ok (.getfield 13, 3) := by decide +kernel
theorem d4_17 : decode prog_45_method_3_code 17 = .ok (.aload_n 1, 1) := by decide +kernel
theorem d4_18 : decode prog_45_method_3_code 18 = .ok (.getfield 13, 3) := by decide +kernel
theorem d4_21 : decode prog_45_method_3_code 21 = .ok (.dsub, 1) := by decide +kernel
theorem d4_22 : decode prog_45_method_3_code 22 = .ok (.invokespecial 16, 3) := by decide +kernel
theorem pd_1 : parseMethodDescriptor "(DD)V" = some ⟨[.double, .double], none⟩ := by decide +kernel
theorem d4_25 : decode prog_45_method_3_code 25 = .ok (.areturn, 1) := by decide +kernel
theorem ef_c_minus (m : MethodId) (x0 : Addr) (x1 : Addr) : entryFrame m #[(.ref x0), (.ref x1)] 2 = mkF m 0 #[.val (.ref x0), .val (.ref x1)] [] := by first | (simp [entryFrame, mkF, argsToLocals, Value.category]; done) | rfl | (simp [entryFrame, mkF, argsToLocals, *]; done)
def Q_c_minus (Z : State) (ma : Addr) (mb : Addr) (mx : UInt64) (my : UInt64) (mz : UInt64) (mw : UInt64) (h0 : Heap) (n0 : Nat) (v : Option Value) (h : Heap) (L : List Loc) : Prop := ∃ (b : Addr), v = some (.ref b) ∧ Fr n0 L ∧ Keep h0 h [] ∧ Exa Z h b "com/example/sortie/sortie/solver/Cost" ∧ Fld Z h b "com/example/sortie/sortie/solver/Cost" "value" "D" (.double (FP.dsub mx mz)) ∧ Fld Z h b "com/example/sortie/sortie/solver/Cost" "tieBreak" "D" (.double (FP.dsub my mw)) ∧ (h0.size ≤ b)
set_option maxRecDepth 65536 in
set_option maxHeartbeats 40000000 in
theorem c_minus (l : Launch) (Z : State) (a0 : Array Value) (hw : ∀ d ∈ tables_1, d.before a0 Z = true) (ws : List Jvm.Cond) (ma : Addr) (mb : Addr) (mx : UInt64) (my : UInt64) (mz : UInt64) (mw : UInt64) (h0 : Heap) (n0 : Nat) (Z0 : n0 ≤ h0.size) (F0_ma_value : Fld Z h0 ma "com/example/sortie/sortie/solver/Cost" "value" "D" (.double mx)) (F1_ma_tieBreak : Fld Z h0 ma "com/example/sortie/sortie/solver/Cost" "tieBreak" "D" (.double my)) (F2_mb_value : Fld Z h0 mb "com/example/sortie/sortie/solver/Cost" "value" "D" (.double mz)) (F3_mb_tieBreak : Fld Z h0 mb "com/example/sortie/sortie/solver/Cost" "tieBreak" "D" (.double mw)) (hn1 : NoNaN64 (FP.dsub mx mz)) (hn2 : NoNaN64 (FP.dsub my mw)) :
    MetFree l (⟨"com/example/sortie/sortie/solver/Cost", "minus", "(Lcom/example/sortie/sortie/solver/Cost;)Lcom/example/sortie/sortie/solver/Cost;"⟩ : MethodName) (head1 (Jvm.Cond.code (⟨"com/example/sortie/sortie/solver/Cost", "minus", "(Lcom/example/sortie/sortie/solver/Cost;)Lcom/example/sortie/sortie/solver/Cost;"⟩ : MethodName) prog_45_method_3_code 2 (some (.object "com/example/sortie/sortie/solver/Cost")) :: ws) ({ frames := 3, cells := 1, slots := 2, locals := 41 } : Room)) (fun a U => a = #[(.ref ma), (.ref mb)] ∧ Z.Warmed39 U.vm ∧ U.heap = h0) (fun _ _ _ _ _ => True) (fun _ U o U' => ∃ v L, o = .returned v ∧ Q_c_minus Z ma mb mx my mz mw h0 n0 v U'.heap L ∧ FrameEnd U o U' L ({ frames := 3, cells := 1, slots := 2, locals := 41 } : Room).cells ({ frames := 3, cells := 1, slots := 2, locals := 41 } : Room).slots) := by
  refine MetFree.of_bodySF (plainFor_of_name pn_1) hisR ?_
  intro p e s m args below meth c s₁ Bd hml0 hP hK
  obtain ⟨rfl, hZ, hh⟩ := hP
  have hx := Bd.exec
  have hby := Bd.bytes
  have hml : c.maxLocals = 2 := hml0
  have hown : s.vm.findClass "com/example/sortie/sortie/solver/Cost" = some m.cls := findClass_of_methodNamed Bd.named
  have hnm := (name_of_methodNamed Bd.named Bd.method).1
  have X0 : Stand p l e ({ frames := 3, cells := 1, slots := 2, locals := 41 } : Room) s m #[(.ref ma), (.ref mb)] below meth c s₁ [] 0 0 := Stand.of_body Bd
  have e0 : s₁.heap = h0 := by rw [← hh, Bd.state]; rfl
  have N0 := Fr.nil n0
  obtain ⟨G, hG⟩ : ∃ G : State → Prop, G = (fun U' => ∃ o, U'.status = .running ∧ Ended U' below o ∧ ∃ v L, o = .returned v ∧ Q_c_minus Z ma mb mx my mz mw h0 n0 v U'.heap L ∧ FrameEnd s o U' L ({ frames := 3, cells := 1, slots := 2, locals := 41 } : Room).cells ({ frames := 3, cells := 1, slots := 2, locals := 41 } : Room).slots) := ⟨_, rfl⟩
  suffices key : Gl p.tables e below s₁ (mkF m 0 #[.val (.ref ma), .val (.ref mb)] []) G by
    obtain ⟨s₂, k1, k2⟩ := key
    rw [hG] at k2
    obtain ⟨o, k3, k4, k5⟩ := k2
    exact ⟨s₂, o, castTop (ef_c_minus m ma mb) k1, k3, k4, k5⟩
  show Gl p.tables e below s₁ (mkF m 0 #[.val (.ref ma), .val (.ref mb)] []) G
  obtain ⟨T1, h1, X1, e1, E1, A1, D1, -, st1⟩ := newO X0 hx hZ hown (hw _ (List.mem_of_getElem? (i := 23) rfl)) (hw _ (List.mem_of_getElem? (i := 1) rfl)) (hw _ (List.mem_of_getElem? (i := 2) rfl)) e0 (g := (mkF m 0 #[.val (.ref ma), .val (.ref mb)] [])) rfl (hb hby d4_0) (by decide) (by decide)
  obtain ⟨b1, g1⟩ : ∃ z, z = h0.size := ⟨_, rfl⟩
  rw [← g1] at A1 D1 st1
  have ne2 : ma ≠ b1 := Nat.ne_of_lt (Nat.lt_of_lt_of_le F0_ma_value.lt (Nat.le_of_eq g1.symm))
  have ne3 : mb ≠ b1 := Nat.ne_of_lt (Nat.lt_of_lt_of_le F2_mb_value.lt (Nat.le_of_eq g1.symm))
  have ge4 : n0 ≤ b1 := Nat.le_trans Z0 (Nat.le_of_eq g1.symm)
  have gz5 : h0.size ≤ b1 := Nat.le_trans (Nat.le_refl h0.size) (Nat.le_of_eq g1.symm)
  refine Gl.via st1 ?_
  have Z6 : n0 ≤ h1.size := Nat.le_trans Z0 E1.1
  have Y7 : h0.size ≤ h1.size := Nat.le_trans (Nat.le_refl h0.size) E1.1
  have F8 : Fld Z h1 b1 "com/example/sortie/sortie/solver/Cost" "value" "D" (.double (0 : UInt64)) := D1 (Or.inr (hw _ (List.mem_of_getElem? (i := 15) rfl))) (ty := .double) (by decide)
  have F9 : Fld Z h1 b1 "com/example/sortie/sortie/solver/Cost" "tieBreak" "D" (.double (0 : UInt64)) := D1 (Or.inr (hw _ (List.mem_of_getElem? (i := 17) rfl))) (ty := .double) (by decide)
  show Gl p.tables e below T1 (mkF m 3 #[.val (.ref ma), .val (.ref mb)] [(.ref b1)]) G
  refine Gl.via (fun _ k => XS.dup X1.here hx rfl (hb hby d4_3) rfl rfl k) ?_
  show Gl p.tables e below T1 (mkF m 4 #[.val (.ref ma), .val (.ref mb)] [(.ref b1), (.ref b1)]) G
  refine Gl.via (fun _ k => XS.aloadN X1.here hx rfl (hb hby d4_4) rfl rfl k) ?_
  show Gl p.tables e below T1 (mkF m 5 #[.val (.ref ma), .val (.ref mb)] [(.ref ma), (.ref b1), (.ref b1)]) G
  have G10 : Fld Z h1 ma "com/example/sortie/sortie/solver/Cost" "value" "D" (.double mx) := (F0_ma_value.ext E1)
  obtain ⟨T11, X11, e11, st11⟩ := getF X1 hx hZ hown (host := "") (Or.inl (hw _ (List.mem_of_getElem? (i := 14) rfl))) Via.refl e1 G10 (g := (mkF m 5 #[.val (.ref ma), .val (.ref mb)] [(.ref ma), (.ref b1), (.ref b1)])) rfl rfl (hb hby d4_5)
  refine Gl.via st11 ?_
  show Gl p.tables e below T11 (mkF m 8 #[.val (.ref ma), .val (.ref mb)] [(.double mx), (.ref b1), (.ref b1)]) G
  refine Gl.via (fun _ k => XS.aloadN X11.here hx rfl (hb hby d4_8) rfl rfl k) ?_
  show Gl p.tables e below T11 (mkF m 9 #[.val (.ref ma), .val (.ref mb)] [(.ref mb), (.double mx), (.ref b1), (.ref b1)]) G
  have G12 : Fld Z h1 mb "com/example/sortie/sortie/solver/Cost" "value" "D" (.double mz) := (F2_mb_value.ext E1)
  obtain ⟨T13, X13, e13, st13⟩ := getF X11 hx hZ hown (host := "") (Or.inl (hw _ (List.mem_of_getElem? (i := 14) rfl))) Via.refl e11 G12 (g := (mkF m 9 #[.val (.ref ma), .val (.ref mb)] [(.ref mb), (.double mx), (.ref b1), (.ref b1)])) rfl rfl (hb hby d4_9)
  refine Gl.via st13 ?_
  show Gl p.tables e below T13 (mkF m 12 #[.val (.ref ma), .val (.ref mb)] [(.double mz), (.double mx), (.ref b1), (.ref b1)]) G
  refine Gl.via (fun _ k => XS.dsubS X13.here hx rfl (hb hby d4_12) rfl hn1 rfl k) ?_
  show Gl p.tables e below T13 (mkF m 13 #[.val (.ref ma), .val (.ref mb)] [(.double (FP.dsub mx mz)), (.ref b1), (.ref b1)]) G
  refine Gl.via (fun _ k => XS.aloadN X13.here hx rfl (hb hby d4_13) rfl rfl k) ?_
  show Gl p.tables e below T13 (mkF m 14 #[.val (.ref ma), .val (.ref mb)] [(.ref ma), (.double (FP.dsub mx mz)), (.ref b1), (.ref b1)]) G
  have G14 : Fld Z h1 ma "com/example/sortie/sortie/solver/Cost" "tieBreak" "D" (.double my) := (F1_ma_tieBreak.ext E1)
  obtain ⟨T15, X15, e15, st15⟩ := getF X13 hx hZ hown (host := "") (Or.inl (hw _ (List.mem_of_getElem? (i := 16) rfl))) Via.refl e13 G14 (g := (mkF m 14 #[.val (.ref ma), .val (.ref mb)] [(.ref ma), (.double (FP.dsub mx mz)), (.ref b1), (.ref b1)])) rfl rfl (hb hby d4_14)
  refine Gl.via st15 ?_
  show Gl p.tables e below T15 (mkF m 17 #[.val (.ref ma), .val (.ref mb)] [(.double my), (.double (FP.dsub mx mz)), (.ref b1), (.ref b1)]) G
  refine Gl.via (fun _ k => XS.aloadN X15.here hx rfl (hb hby d4_17) rfl rfl k) ?_
  show Gl p.tables e below T15 (mkF m 18 #[.val (.ref ma), .val (.ref mb)] [(.ref mb), (.double my), (.double (FP.dsub mx mz)), (.ref b1), (.ref b1)]) G
  have G16 : Fld Z h1 mb "com/example/sortie/sortie/solver/Cost" "tieBreak" "D" (.double mw) := (F3_mb_tieBreak.ext E1)
  obtain ⟨T17, X17, e17, st17⟩ := getF X15 hx hZ hown (host := "") (Or.inl (hw _ (List.mem_of_getElem? (i := 16) rfl))) Via.refl e15 G16 (g := (mkF m 18 #[.val (.ref ma), .val (.ref mb)] [(.ref mb), (.double my), (.double (FP.dsub mx mz)), (.ref b1), (.ref b1)])) rfl rfl (hb hby d4_18)
  refine Gl.via st17 ?_
  show Gl p.tables e below T17 (mkF m 21 #[.val (.ref ma), .val (.ref mb)] [(.double mw), (.double my), (.double (FP.dsub mx mz)), (.ref b1), (.ref b1)]) G
  refine Gl.via (fun _ k => XS.dsubS X17.here hx rfl (hb hby d4_21) rfl hn2 rfl k) ?_
  show Gl p.tables e below T17 (mkF m 22 #[.val (.ref ma), .val (.ref mb)] [(.double (FP.dsub my mw)), (.double (FP.dsub mx mz)), (.ref b1), (.ref b1)]) G
  obtain ⟨_, _, ⟨T18, L18, k18, n18⟩, -, X18, ⟨Lc18, hQ18, l18, y18, z18⟩, st18⟩ := X17.specialBack hx (y := (⟨"com/example/sortie/sortie/solver/Cost", "<init>", "(DD)V"⟩ : MethodName)) rfl hown (mvT hZ (hw _ (List.mem_of_getElem? (i := 24) rfl))) (mvT hZ (hw _ (List.mem_of_getElem? (i := 4) rfl))) (mvT hZ (hw _ (List.mem_of_getElem? (i := 5) rfl))) (by decide) (backOf (W := 1) (c_init l Z a0 hw [] b1 (FP.dsub mx mz) (FP.dsub my mw) (.double (0 : UInt64)) (.double (0 : UInt64)) h1 n0 Z6 A1 F8 F9 ge4) hZ (hw _ (List.mem_of_getElem? (i := 5) rfl)) (hw _ (List.mem_of_getElem? (i := 2) rfl)) (by decide) (by decide)) (g := (mkF m 22 #[.val (.ref ma), .val (.ref mb)] [(.double (FP.dsub my mw)), (.double (FP.dsub mx mz)), (.ref b1), (.ref b1)])) rfl (by rw [hml]; rfl) (Steps.refl _) (a := b1) (argsL := [(.double (FP.dsub mx mz)), (.double (FP.dsub my mw))]) (rest := [(.ref b1)]) (lenOf pd_1 rfl) rfl (by show 2 * 0 + _ ≤ _; exact Nat.le_of_eq rfl) (hb hby d4_22) (fun _ _ => ⟨rfl, e17, (by decide : 1 + 0 ≤ _), (by decide : 2 + 0 ≤ _)⟩)
  dsimp only [Pt.U, Pt.locs, Pt.cells, Pt.slots] at X18 l18 y18 z18 st18 hQ18
  subst l18 y18 z18
  obtain ⟨rfl, N18q, K18, P19, P20, P21⟩ := hQ18
  have N18_ := Fr.app N0 N18q
  refine Gl.via (fun _ k => st18.trans k) ?_
  have Z22 : n0 ≤ T18.heap.size := Nat.le_trans Z6 K18.1
  have Y23 : h0.size ≤ T18.heap.size := Nat.le_trans Y7 K18.1
  show Gl p.tables e below T18 (mkF m 25 #[.val (.ref ma), .val (.ref mb)] [(.ref b1)]) G
  obtain ⟨fs, hr, hrun, hended, hW, hsame⟩ := X18.leave (v := some (.ref b1)) (fun h => by rw [Bd.returns] at h; cases h)
  have hq : ∀ L, Fr n0 L → Q_c_minus Z ma mb mx my mz mw h0 n0 (some (.ref b1)) T18.heap L := by
    intro L hN
    exact ⟨b1, rfl, hN, (((Keep.refl h0 []).ext E1).trans K18 (allS (Or.inr gz5) all0)), P19, P20, P21, gz5⟩
  rw [hG]
  exact Gl.fin (retOut X18 hx Bd.returns rfl (Or.inr (Or.inr (Or.inr (Or.inr ⟨rfl, rfl, rfl⟩)))) (hb hby d4_25) hr) ⟨_, hrun, hended, _, _, rfl, hq _ N18_, ⟨_, rfl⟩, hW, hsame.mono (by decide) (by decide)⟩
theorem d5_0 : decode prog_45_method_8_code 0 = .ok (.aload_n 0, 1) := by decide +kernel
theorem d5_1 : decode prog_45_method_8_code 1 = .ok (.getfield 7, 3) := by decide +kernel
theorem d5_4 : decode prog_45_method_8_code 4 = .ok (.dreturn, 1) := by decide +kernel
theorem ef_c_value (m : MethodId) (x0 : Addr) : entryFrame m #[(.ref x0)] 1 = mkF m 0 #[.val (.ref x0)] [] := by first | (simp [entryFrame, mkF, argsToLocals, Value.category]; done) | rfl | (simp [entryFrame, mkF, argsToLocals, *]; done)
def Q_c_value (Z : State) (ga : Addr) (gx : UInt64) (h0 : Heap) (n0 : Nat) (v : Option Value) (h : Heap) (L : List Loc) : Prop := v = some (.double gx) ∧ Fr n0 L ∧ h = h0
set_option maxRecDepth 65536 in
set_option maxHeartbeats 40000000 in
theorem c_value (l : Launch) (Z : State) (a0 : Array Value) (hw : ∀ d ∈ tables_1, d.before a0 Z = true) (ws : List Jvm.Cond) (ga : Addr) (gx : UInt64) (h0 : Heap) (n0 : Nat) (Z0 : n0 ≤ h0.size) (F0_ga_value : Fld Z h0 ga "com/example/sortie/sortie/solver/Cost" "value" "D" (.double gx)) :
    MetFree l (⟨"com/example/sortie/sortie/solver/Cost", "value", "()D"⟩ : MethodName) (head1 (Jvm.Cond.code (⟨"com/example/sortie/sortie/solver/Cost", "value", "()D"⟩ : MethodName) prog_45_method_8_code 1 (some .double) :: ws) ({ frames := 0, cells := 0, slots := 0, locals := 0 } : Room)) (fun a U => a = #[(.ref ga)] ∧ Z.Warmed39 U.vm ∧ U.heap = h0) (fun _ _ _ _ _ => True) (fun _ U o U' => ∃ v L, o = .returned v ∧ Q_c_value Z ga gx h0 n0 v U'.heap L ∧ FrameEnd U o U' L ({ frames := 0, cells := 0, slots := 0, locals := 0 } : Room).cells ({ frames := 0, cells := 0, slots := 0, locals := 0 } : Room).slots) := by
  refine MetFree.of_bodySF (plainFor_of_name pn_1) hisR ?_
  intro p e s m args below meth c s₁ Bd hml0 hP hK
  obtain ⟨rfl, hZ, hh⟩ := hP
  have hx := Bd.exec
  have hby := Bd.bytes
  have hml : c.maxLocals = 1 := hml0
  have hown : s.vm.findClass "com/example/sortie/sortie/solver/Cost" = some m.cls := findClass_of_methodNamed Bd.named
  have hnm := (name_of_methodNamed Bd.named Bd.method).1
  have X0 : Stand p l e ({ frames := 0, cells := 0, slots := 0, locals := 0 } : Room) s m #[(.ref ga)] below meth c s₁ [] 0 0 := Stand.of_body Bd
  have e0 : s₁.heap = h0 := by rw [← hh, Bd.state]; rfl
  have N0 := Fr.nil n0
  obtain ⟨G, hG⟩ : ∃ G : State → Prop, G = (fun U' => ∃ o, U'.status = .running ∧ Ended U' below o ∧ ∃ v L, o = .returned v ∧ Q_c_value Z ga gx h0 n0 v U'.heap L ∧ FrameEnd s o U' L ({ frames := 0, cells := 0, slots := 0, locals := 0 } : Room).cells ({ frames := 0, cells := 0, slots := 0, locals := 0 } : Room).slots) := ⟨_, rfl⟩
  suffices key : Gl p.tables e below s₁ (mkF m 0 #[.val (.ref ga)] []) G by
    obtain ⟨s₂, k1, k2⟩ := key
    rw [hG] at k2
    obtain ⟨o, k3, k4, k5⟩ := k2
    exact ⟨s₂, o, castTop (ef_c_value m ga) k1, k3, k4, k5⟩
  show Gl p.tables e below s₁ (mkF m 0 #[.val (.ref ga)] []) G
  refine Gl.via (fun _ k => XS.aloadN X0.here hx rfl (hb hby d5_0) rfl rfl k) ?_
  show Gl p.tables e below s₁ (mkF m 1 #[.val (.ref ga)] [(.ref ga)]) G
  obtain ⟨T1, X1, e1, st1⟩ := getF X0 hx hZ hown (host := "") (Or.inl (hw _ (List.mem_of_getElem? (i := 14) rfl))) Via.refl e0 F0_ga_value (g := (mkF m 1 #[.val (.ref ga)] [(.ref ga)])) rfl rfl (hb hby d5_1)
  refine Gl.via st1 ?_
  show Gl p.tables e below T1 (mkF m 4 #[.val (.ref ga)] [(.double gx)]) G
  obtain ⟨fs, hr, hrun, hended, hW, hsame⟩ := X1.leave (v := some (.double gx)) (fun h => by rw [Bd.returns] at h; cases h)
  have hq : ∀ L, Fr n0 L → Q_c_value Z ga gx h0 n0 (some (.double gx)) T1.heap L := by
    intro L hN
    rw [e1]
    exact ⟨rfl, hN, rfl⟩
  rw [hG]
  exact Gl.fin (retOut X1 hx Bd.returns rfl (Or.inr (Or.inr (Or.inl ⟨rfl, rfl, _, rfl⟩))) (hb hby d5_4) hr) ⟨_, hrun, hended, _, _, rfl, hq _ N0, ⟨_, rfl⟩, hW, hsame.mono (by decide) (by decide)⟩
theorem d6_0 : decode prog_45_method_9_code 0 = .ok (.aload_n 0, 1) := by decide +kernel
theorem d6_1 : decode prog_45_method_9_code 1 = .ok (.getfield 13, 3) := by decide +kernel
theorem d6_4 : decode prog_45_method_9_code 4 = .ok (.dreturn, 1) := by decide +kernel
theorem ef_c_tieBreak (m : MethodId) (x0 : Addr) : entryFrame m #[(.ref x0)] 1 = mkF m 0 #[.val (.ref x0)] [] := by first | (simp [entryFrame, mkF, argsToLocals, Value.category]; done) | rfl | (simp [entryFrame, mkF, argsToLocals, *]; done)
def Q_c_tieBreak (Z : State) (ga : Addr) (gx : UInt64) (h0 : Heap) (n0 : Nat) (v : Option Value) (h : Heap) (L : List Loc) : Prop := v = some (.double gx) ∧ Fr n0 L ∧ h = h0
set_option maxRecDepth 65536 in
set_option maxHeartbeats 40000000 in
theorem c_tieBreak (l : Launch) (Z : State) (a0 : Array Value) (hw : ∀ d ∈ tables_1, d.before a0 Z = true) (ws : List Jvm.Cond) (ga : Addr) (gx : UInt64) (h0 : Heap) (n0 : Nat) (Z0 : n0 ≤ h0.size) (F0_ga_tieBreak : Fld Z h0 ga "com/example/sortie/sortie/solver/Cost" "tieBreak" "D" (.double gx)) :
    MetFree l (⟨"com/example/sortie/sortie/solver/Cost", "tieBreak", "()D"⟩ : MethodName) (head1 (Jvm.Cond.code (⟨"com/example/sortie/sortie/solver/Cost", "tieBreak", "()D"⟩ : MethodName) prog_45_method_9_code 1 (some .double) :: ws) ({ frames := 0, cells := 0, slots := 0, locals := 0 } : Room)) (fun a U => a = #[(.ref ga)] ∧ Z.Warmed39 U.vm ∧ U.heap = h0) (fun _ _ _ _ _ => True) (fun _ U o U' => ∃ v L, o = .returned v ∧ Q_c_tieBreak Z ga gx h0 n0 v U'.heap L ∧ FrameEnd U o U' L ({ frames := 0, cells := 0, slots := 0, locals := 0 } : Room).cells ({ frames := 0, cells := 0, slots := 0, locals := 0 } : Room).slots) := by
  refine MetFree.of_bodySF (plainFor_of_name pn_1) hisR ?_
  intro p e s m args below meth c s₁ Bd hml0 hP hK
  obtain ⟨rfl, hZ, hh⟩ := hP
  have hx := Bd.exec
  have hby := Bd.bytes
  have hml : c.maxLocals = 1 := hml0
  have hown : s.vm.findClass "com/example/sortie/sortie/solver/Cost" = some m.cls := findClass_of_methodNamed Bd.named
  have hnm := (name_of_methodNamed Bd.named Bd.method).1
  have X0 : Stand p l e ({ frames := 0, cells := 0, slots := 0, locals := 0 } : Room) s m #[(.ref ga)] below meth c s₁ [] 0 0 := Stand.of_body Bd
  have e0 : s₁.heap = h0 := by rw [← hh, Bd.state]; rfl
  have N0 := Fr.nil n0
  obtain ⟨G, hG⟩ : ∃ G : State → Prop, G = (fun U' => ∃ o, U'.status = .running ∧ Ended U' below o ∧ ∃ v L, o = .returned v ∧ Q_c_tieBreak Z ga gx h0 n0 v U'.heap L ∧ FrameEnd s o U' L ({ frames := 0, cells := 0, slots := 0, locals := 0 } : Room).cells ({ frames := 0, cells := 0, slots := 0, locals := 0 } : Room).slots) := ⟨_, rfl⟩
  suffices key : Gl p.tables e below s₁ (mkF m 0 #[.val (.ref ga)] []) G by
    obtain ⟨s₂, k1, k2⟩ := key
    rw [hG] at k2
    obtain ⟨o, k3, k4, k5⟩ := k2
    exact ⟨s₂, o, castTop (ef_c_tieBreak m ga) k1, k3, k4, k5⟩
  show Gl p.tables e below s₁ (mkF m 0 #[.val (.ref ga)] []) G
  refine Gl.via (fun _ k => XS.aloadN X0.here hx rfl (hb hby d6_0) rfl rfl k) ?_
  show Gl p.tables e below s₁ (mkF m 1 #[.val (.ref ga)] [(.ref ga)]) G
  obtain ⟨T1, X1, e1, st1⟩ := getF X0 hx hZ hown (host := "") (Or.inl (hw _ (List.mem_of_getElem? (i := 16) rfl))) Via.refl e0 F0_ga_tieBreak (g := (mkF m 1 #[.val (.ref ga)] [(.ref ga)])) rfl rfl (hb hby d6_1)
  refine Gl.via st1 ?_
  show Gl p.tables e below T1 (mkF m 4 #[.val (.ref ga)] [(.double gx)]) G
  obtain ⟨fs, hr, hrun, hended, hW, hsame⟩ := X1.leave (v := some (.double gx)) (fun h => by rw [Bd.returns] at h; cases h)
  have hq : ∀ L, Fr n0 L → Q_c_tieBreak Z ga gx h0 n0 (some (.double gx)) T1.heap L := by
    intro L hN
    rw [e1]
    exact ⟨rfl, hN, rfl⟩
  rw [hG]
  exact Gl.fin (retOut X1 hx Bd.returns rfl (Or.inr (Or.inr (Or.inl ⟨rfl, rfl, _, rfl⟩))) (hb hby d6_4) hr) ⟨_, hrun, hended, _, _, rfl, hq _ N0, ⟨_, rfl⟩, hW, hsame.mono (by decide) (by decide)⟩
theorem pn_2 : plainName "com/example/sortie/sortie/solver/CostMinusPinLaw" = true := by first | (simp [plainName, overriddenIn]; done) | decide +kernel
theorem pd_2 : parseMethodDescriptor "(Lcom/example/sortie/sortie/solver/Cost;)Lcom/example/sortie/sortie/solver/Cost;" = some ⟨[(.object "com/example/sortie/sortie/solver/Cost")], some (.object "com/example/sortie/sortie/solver/Cost")⟩ := by decide +kernel
theorem pd_3 : parseMethodDescriptor "()D" = some ⟨[], some .double⟩ := by decide +kernel
theorem ef_rm0 (m : MethodId) (x0 : Int32) (x1 : Int32) (x2 : Int32) (x3 : Int32) : entryFrame m #[(.int x0), (.int x1), (.int x2), (.int x3)] maxLocals = mkF m 0 #[.val (.int x0), .val (.int x1), .val (.int x2), .val (.int x3), .unset, .unset, .unset, .unset, .unset, .unset, .unset] [] := by first | (simp [entryFrame, mkF, argsToLocals, Value.category, maxLocals]; done) | rfl | (simp [entryFrame, mkF, argsToLocals, *]; done)
def Q_rm0 (Z : State) (p0 : Int32) (p1 : Int32) (p2 : Int32) (p3 : Int32) (h0 : Heap) (n0 : Nat) (v : Option Value) (h : Heap) (L : List Loc) : Prop := v = some (.int (1 : Int32)) ∧ Fr n0 L
set_option maxRecDepth 65536 in
set_option maxHeartbeats 40000000 in
theorem rm0 (l : Launch) (Z : State) (a0 : Array Value) (hw : ∀ d ∈ tables_1, d.before a0 Z = true) (ws : List Jvm.Cond) (p0 : Int32) (p1 : Int32) (p2 : Int32) (p3 : Int32) (h0 : Heap) (n0 : Nat) (Z0 : n0 ≤ h0.size) :
    MetFree l x (head1 (Jvm.Cond.code x code maxLocals ret :: ws) room_1) (fun a U => a = #[(.int p0), (.int p1), (.int p2), (.int p3)] ∧ Z.Warmed39 U.vm ∧ U.heap = h0) (fun _ _ _ _ _ => True) (fun _ U o U' => ∃ v L, o = .returned v ∧ Q_rm0 Z p0 p1 p2 p3 h0 n0 v U'.heap L ∧ FrameEnd U o U' L 3 6) := by
  refine MetFree.of_bodySF (plainFor_of_name pn_2) hisR ?_
  intro p e s m args below meth c s₁ Bd hml0 hP hK
  obtain ⟨rfl, hZ, hh⟩ := hP
  have hx := Bd.exec
  have hby := Bd.bytes
  have hml : c.maxLocals = 11 := hml0
  have hown : s.vm.findClass "com/example/sortie/sortie/solver/CostMinusPinLaw" = some m.cls := findClass_of_methodNamed Bd.named
  have hnm := (name_of_methodNamed Bd.named Bd.method).1
  have X0 : Stand p l e room_1 s m #[(.int p0), (.int p1), (.int p2), (.int p3)] below meth c s₁ [] 0 0 := Stand.of_body Bd
  have e0 : s₁.heap = h0 := by rw [← hh, Bd.state]; rfl
  have N0 := Fr.nil n0
  obtain ⟨G, hG⟩ : ∃ G : State → Prop, G = (fun U' => ∃ o, U'.status = .running ∧ Ended U' below o ∧ ∃ v L, o = .returned v ∧ Q_rm0 Z p0 p1 p2 p3 h0 n0 v U'.heap L ∧ FrameEnd s o U' L 3 6) := ⟨_, rfl⟩
  suffices key : Gl p.tables e below s₁ (mkF m 0 #[.val (.int p0), .val (.int p1), .val (.int p2), .val (.int p3), .unset, .unset, .unset, .unset, .unset, .unset, .unset] []) G by
    obtain ⟨s₂, k1, k2⟩ := key
    rw [hG] at k2
    obtain ⟨o, k3, k4, k5⟩ := k2
    exact ⟨s₂, o, castTop (ef_rm0 m p0 p1 p2 p3) k1, k3, k4, k5⟩
  show Gl p.tables e below s₁ (mkF m 0 #[.val (.int p0), .val (.int p1), .val (.int p2), .val (.int p3), .unset, .unset, .unset, .unset, .unset, .unset, .unset] []) G
  obtain ⟨T1, h1, X1, e1, E1, A1, D1, -, st1⟩ := newO X0 hx hZ hown (hw _ (List.mem_of_getElem? (i := 0) rfl)) (hw _ (List.mem_of_getElem? (i := 1) rfl)) (hw _ (List.mem_of_getElem? (i := 2) rfl)) e0 (g := (mkF m 0 #[.val (.int p0), .val (.int p1), .val (.int p2), .val (.int p3), .unset, .unset, .unset, .unset, .unset, .unset, .unset] [])) rfl (hb hby at_0) (by decide) (by decide)
  obtain ⟨b1, g1⟩ : ∃ z, z = h0.size := ⟨_, rfl⟩
  rw [← g1] at A1 D1 st1
  have ge2 : n0 ≤ b1 := Nat.le_trans Z0 (Nat.le_of_eq g1.symm)
  have gz3 : h0.size ≤ b1 := Nat.le_trans (Nat.le_refl h0.size) (Nat.le_of_eq g1.symm)
  refine Gl.via st1 ?_
  have Z4 : n0 ≤ h1.size := Nat.le_trans Z0 E1.1
  have Y5 : h0.size ≤ h1.size := Nat.le_trans (Nat.le_refl h0.size) E1.1
  have F6 : Fld Z h1 b1 "com/example/sortie/sortie/solver/Cost" "value" "D" (.double (0 : UInt64)) := D1 (Or.inr (hw _ (List.mem_of_getElem? (i := 15) rfl))) (ty := .double) (by decide)
  have F7 : Fld Z h1 b1 "com/example/sortie/sortie/solver/Cost" "tieBreak" "D" (.double (0 : UInt64)) := D1 (Or.inr (hw _ (List.mem_of_getElem? (i := 17) rfl))) (ty := .double) (by decide)
  show Gl p.tables e below T1 (mkF m 3 #[.val (.int p0), .val (.int p1), .val (.int p2), .val (.int p3), .unset, .unset, .unset, .unset, .unset, .unset, .unset] [(.ref b1)]) G
  refine Gl.via (fun _ k => XS.dup X1.here hx rfl (hb hby at_3) rfl rfl k) ?_
  show Gl p.tables e below T1 (mkF m 4 #[.val (.int p0), .val (.int p1), .val (.int p2), .val (.int p3), .unset, .unset, .unset, .unset, .unset, .unset, .unset] [(.ref b1), (.ref b1)]) G
  refine Gl.via (fun _ k => XS.iloadN X1.here hx rfl (hb hby at_4) rfl k) ?_
  show Gl p.tables e below T1 (mkF m 5 #[.val (.int p0), .val (.int p1), .val (.int p2), .val (.int p3), .unset, .unset, .unset, .unset, .unset, .unset, .unset] [(.int p0), (.ref b1), (.ref b1)]) G
  refine Gl.via (fun _ k => XS.i2dS X1.here hx rfl (hb hby at_5) rfl (i2d_w _) k) ?_
  show Gl p.tables e below T1 (mkF m 6 #[.val (.int p0), .val (.int p1), .val (.int p2), .val (.int p3), .unset, .unset, .unset, .unset, .unset, .unset, .unset] [(.double (FP.l2d p0.toInt64)), (.ref b1), (.ref b1)]) G
  refine Gl.via (fun _ k => XS.iloadN X1.here hx rfl (hb hby at_6) rfl k) ?_
  show Gl p.tables e below T1 (mkF m 7 #[.val (.int p0), .val (.int p1), .val (.int p2), .val (.int p3), .unset, .unset, .unset, .unset, .unset, .unset, .unset] [(.int p1), (.double (FP.l2d p0.toInt64)), (.ref b1), (.ref b1)]) G
  refine Gl.via (fun _ k => XS.i2dS X1.here hx rfl (hb hby at_7) rfl (i2d_w _) k) ?_
  show Gl p.tables e below T1 (mkF m 8 #[.val (.int p0), .val (.int p1), .val (.int p2), .val (.int p3), .unset, .unset, .unset, .unset, .unset, .unset, .unset] [(.double (FP.l2d p1.toInt64)), (.double (FP.l2d p0.toInt64)), (.ref b1), (.ref b1)]) G
  obtain ⟨_, _, ⟨T8, L8, k8, n8⟩, -, X8, ⟨Lc8, hQ8, l8, y8, z8⟩, st8⟩ := X1.specialBack hx (y := (⟨"com/example/sortie/sortie/solver/Cost", "<init>", "(DD)V"⟩ : MethodName)) rfl hown (mvT hZ (hw _ (List.mem_of_getElem? (i := 3) rfl))) (mvT hZ (hw _ (List.mem_of_getElem? (i := 4) rfl))) (mvT hZ (hw _ (List.mem_of_getElem? (i := 5) rfl))) (by decide) (backOf (W := 1) (c_init l Z a0 hw [] b1 (FP.l2d p0.toInt64) (FP.l2d p1.toInt64) (.double (0 : UInt64)) (.double (0 : UInt64)) h1 n0 Z4 A1 F6 F7 ge2) hZ (hw _ (List.mem_of_getElem? (i := 5) rfl)) (hw _ (List.mem_of_getElem? (i := 2) rfl)) (by decide) (by decide)) (g := (mkF m 8 #[.val (.int p0), .val (.int p1), .val (.int p2), .val (.int p3), .unset, .unset, .unset, .unset, .unset, .unset, .unset] [(.double (FP.l2d p1.toInt64)), (.double (FP.l2d p0.toInt64)), (.ref b1), (.ref b1)])) rfl (by rw [hml]; rfl) (Steps.refl _) (a := b1) (argsL := [(.double (FP.l2d p0.toInt64)), (.double (FP.l2d p1.toInt64))]) (rest := [(.ref b1)]) (lenOf pd_1 rfl) rfl (by show 2 * 0 + _ ≤ _; exact Nat.le_of_eq rfl) (hb hby at_8) (fun _ _ => ⟨rfl, e1, (by decide : 1 + 0 ≤ _), (by decide : 2 + 0 ≤ _)⟩)
  dsimp only [Pt.U, Pt.locs, Pt.cells, Pt.slots] at X8 l8 y8 z8 st8 hQ8
  subst l8 y8 z8
  obtain ⟨rfl, N8q, K8, P9, P10, P11⟩ := hQ8
  have N8_ := Fr.app N0 N8q
  refine Gl.via (fun _ k => st8.trans k) ?_
  have Z12 : n0 ≤ T8.heap.size := Nat.le_trans Z4 K8.1
  have Y13 : h0.size ≤ T8.heap.size := Nat.le_trans Y5 K8.1
  show Gl p.tables e below T8 (mkF m 11 #[.val (.int p0), .val (.int p1), .val (.int p2), .val (.int p3), .unset, .unset, .unset, .unset, .unset, .unset, .unset] [(.ref b1)]) G
  refine Gl.via (fun _ k => XS.astore X8.here hx rfl (hb hby at_11) rfl rfl (l' := #[.val (.int p0), .val (.int p1), .val (.int p2), .val (.int p3), .val (.ref b1), .unset, .unset, .unset, .unset, .unset, .unset]) rfl k) ?_
  show Gl p.tables e below T8 (mkF m 13 #[.val (.int p0), .val (.int p1), .val (.int p2), .val (.int p3), .val (.ref b1), .unset, .unset, .unset, .unset, .unset, .unset] []) G
  obtain ⟨T14, h14, X14, e14, E14, A14, D14, -, st14⟩ := newO X8 hx hZ hown (hw _ (List.mem_of_getElem? (i := 0) rfl)) (hw _ (List.mem_of_getElem? (i := 1) rfl)) (hw _ (List.mem_of_getElem? (i := 2) rfl)) rfl (g := (mkF m 13 #[.val (.int p0), .val (.int p1), .val (.int p2), .val (.int p3), .val (.ref b1), .unset, .unset, .unset, .unset, .unset, .unset] [])) rfl (hb hby at_13) (by decide) (by decide)
  obtain ⟨b14, g14⟩ : ∃ z, z = T8.heap.size := ⟨_, rfl⟩
  rw [← g14] at A14 D14 st14
  have ne15 : b1 ≠ b14 := Nat.ne_of_lt (Nat.lt_of_lt_of_le P9.lt (Nat.le_of_eq g14.symm))
  have ge16 : n0 ≤ b14 := Nat.le_trans Z12 (Nat.le_of_eq g14.symm)
  have gz17 : h0.size ≤ b14 := Nat.le_trans Y13 (Nat.le_of_eq g14.symm)
  refine Gl.via st14 ?_
  have Z18 : n0 ≤ h14.size := Nat.le_trans Z12 E14.1
  have Y19 : h0.size ≤ h14.size := Nat.le_trans Y13 E14.1
  have F20 : Fld Z h14 b14 "com/example/sortie/sortie/solver/Cost" "value" "D" (.double (0 : UInt64)) := D14 (Or.inr (hw _ (List.mem_of_getElem? (i := 15) rfl))) (ty := .double) (by decide)
  have F21 : Fld Z h14 b14 "com/example/sortie/sortie/solver/Cost" "tieBreak" "D" (.double (0 : UInt64)) := D14 (Or.inr (hw _ (List.mem_of_getElem? (i := 17) rfl))) (ty := .double) (by decide)
  show Gl p.tables e below T14 (mkF m 16 #[.val (.int p0), .val (.int p1), .val (.int p2), .val (.int p3), .val (.ref b1), .unset, .unset, .unset, .unset, .unset, .unset] [(.ref b14)]) G
  refine Gl.via (fun _ k => XS.dup X14.here hx rfl (hb hby at_16) rfl rfl k) ?_
  show Gl p.tables e below T14 (mkF m 17 #[.val (.int p0), .val (.int p1), .val (.int p2), .val (.int p3), .val (.ref b1), .unset, .unset, .unset, .unset, .unset, .unset] [(.ref b14), (.ref b14)]) G
  refine Gl.via (fun _ k => XS.iloadN X14.here hx rfl (hb hby at_17) rfl k) ?_
  show Gl p.tables e below T14 (mkF m 18 #[.val (.int p0), .val (.int p1), .val (.int p2), .val (.int p3), .val (.ref b1), .unset, .unset, .unset, .unset, .unset, .unset] [(.int p2), (.ref b14), (.ref b14)]) G
  refine Gl.via (fun _ k => XS.i2dS X14.here hx rfl (hb hby at_18) rfl (i2d_w _) k) ?_
  show Gl p.tables e below T14 (mkF m 19 #[.val (.int p0), .val (.int p1), .val (.int p2), .val (.int p3), .val (.ref b1), .unset, .unset, .unset, .unset, .unset, .unset] [(.double (FP.l2d p2.toInt64)), (.ref b14), (.ref b14)]) G
  refine Gl.via (fun _ k => XS.iloadN X14.here hx rfl (hb hby at_19) rfl k) ?_
  show Gl p.tables e below T14 (mkF m 20 #[.val (.int p0), .val (.int p1), .val (.int p2), .val (.int p3), .val (.ref b1), .unset, .unset, .unset, .unset, .unset, .unset] [(.int p3), (.double (FP.l2d p2.toInt64)), (.ref b14), (.ref b14)]) G
  refine Gl.via (fun _ k => XS.i2dS X14.here hx rfl (hb hby at_20) rfl (i2d_w _) k) ?_
  show Gl p.tables e below T14 (mkF m 21 #[.val (.int p0), .val (.int p1), .val (.int p2), .val (.int p3), .val (.ref b1), .unset, .unset, .unset, .unset, .unset, .unset] [(.double (FP.l2d p3.toInt64)), (.double (FP.l2d p2.toInt64)), (.ref b14), (.ref b14)]) G
  obtain ⟨_, _, ⟨T22, L22, k22, n22⟩, -, X22, ⟨Lc22, hQ22, l22, y22, z22⟩, st22⟩ := X14.specialBack hx (y := (⟨"com/example/sortie/sortie/solver/Cost", "<init>", "(DD)V"⟩ : MethodName)) rfl hown (mvT hZ (hw _ (List.mem_of_getElem? (i := 3) rfl))) (mvT hZ (hw _ (List.mem_of_getElem? (i := 4) rfl))) (mvT hZ (hw _ (List.mem_of_getElem? (i := 5) rfl))) (by decide) (backOf (W := 1) (c_init l Z a0 hw [] b14 (FP.l2d p2.toInt64) (FP.l2d p3.toInt64) (.double (0 : UInt64)) (.double (0 : UInt64)) h14 n0 Z18 A14 F20 F21 ge16) hZ (hw _ (List.mem_of_getElem? (i := 5) rfl)) (hw _ (List.mem_of_getElem? (i := 2) rfl)) (by decide) (by decide)) (g := (mkF m 21 #[.val (.int p0), .val (.int p1), .val (.int p2), .val (.int p3), .val (.ref b1), .unset, .unset, .unset, .unset, .unset, .unset] [(.double (FP.l2d p3.toInt64)), (.double (FP.l2d p2.toInt64)), (.ref b14), (.ref b14)])) rfl (by rw [hml]; rfl) (Steps.refl _) (a := b14) (argsL := [(.double (FP.l2d p2.toInt64)), (.double (FP.l2d p3.toInt64))]) (rest := [(.ref b14)]) (lenOf pd_1 rfl) rfl (by show 2 * 0 + _ ≤ _; exact Nat.le_of_eq rfl) (hb hby at_21) (fun _ _ => ⟨rfl, e14, (by decide : 2 + 0 ≤ _), (by decide : 4 + 0 ≤ _)⟩)
  dsimp only [Pt.U, Pt.locs, Pt.cells, Pt.slots] at X22 l22 y22 z22 st22 hQ22
  subst l22 y22 z22
  obtain ⟨rfl, N22q, K22, P23, P24, P25⟩ := hQ22
  have N22_ := Fr.app N8_ N22q
  refine Gl.via (fun _ k => st22.trans k) ?_
  have Z26 : n0 ≤ T22.heap.size := Nat.le_trans Z18 K22.1
  have Y27 : h0.size ≤ T22.heap.size := Nat.le_trans Y19 K22.1
  show Gl p.tables e below T22 (mkF m 24 #[.val (.int p0), .val (.int p1), .val (.int p2), .val (.int p3), .val (.ref b1), .unset, .unset, .unset, .unset, .unset, .unset] [(.ref b14)]) G
  refine Gl.via (fun _ k => XS.astore X22.here hx rfl (hb hby at_24) rfl rfl (l' := #[.val (.int p0), .val (.int p1), .val (.int p2), .val (.int p3), .val (.ref b1), .val (.ref b14), .unset, .unset, .unset, .unset, .unset]) rfl k) ?_
  show Gl p.tables e below T22 (mkF m 26 #[.val (.int p0), .val (.int p1), .val (.int p2), .val (.int p3), .val (.ref b1), .val (.ref b14), .unset, .unset, .unset, .unset, .unset] []) G
  refine Gl.via (fun _ k => XS.aload X22.here hx rfl (hb hby at_26) rfl rfl k) ?_
  show Gl p.tables e below T22 (mkF m 28 #[.val (.int p0), .val (.int p1), .val (.int p2), .val (.int p3), .val (.ref b1), .val (.ref b14), .unset, .unset, .unset, .unset, .unset] [(.ref b1)]) G
  refine Gl.via (fun _ k => XS.aload X22.here hx rfl (hb hby at_28) rfl rfl k) ?_
  show Gl p.tables e below T22 (mkF m 30 #[.val (.int p0), .val (.int p1), .val (.int p2), .val (.int p3), .val (.ref b1), .val (.ref b14), .unset, .unset, .unset, .unset, .unset] [(.ref b14), (.ref b1)]) G
  have G29 : Fld Z T22.heap b1 "com/example/sortie/sortie/solver/Cost" "value" "D" (.double (FP.l2d p0.toInt64)) := ((P10.ext E14).keep K22 (ninS ne15 nin0))
  have G30 : Fld Z T22.heap b1 "com/example/sortie/sortie/solver/Cost" "tieBreak" "D" (.double (FP.l2d p1.toInt64)) := ((P11.ext E14).keep K22 (ninS ne15 nin0))
  have G31 : Exa Z T22.heap b1 "com/example/sortie/sortie/solver/Cost" := ((P9.ext E14).keep K22)
  obtain ⟨cq28, kq28, q28a, q28b, q28c⟩ := isOf hZ rfl G31
  obtain ⟨_, _, ⟨T28, L28, k28, n28⟩, -, X28, ⟨Lc28, hQ28, l28, y28, z28⟩, st28⟩ := X22.virtualBack hx (y := (⟨"com/example/sortie/sortie/solver/Cost", "minus", "(Lcom/example/sortie/sortie/solver/Cost;)Lcom/example/sortie/sortie/solver/Cost;"⟩ : MethodName)) (z := (⟨"com/example/sortie/sortie/solver/Cost", "minus", "(Lcom/example/sortie/sortie/solver/Cost;)Lcom/example/sortie/sortie/solver/Cost;"⟩ : MethodName)) hown (mvT hZ (hw _ (List.mem_of_getElem? (i := 18) rfl))) (mvT hZ (hw _ (List.mem_of_getElem? (i := 19) rfl))) (notFace_of_selects (args := #[]) (mvT hZ (hw _ (List.mem_of_getElem? (i := 21) rfl)))) (mvT hZ (hw _ (List.mem_of_getElem? (i := 21) rfl))) (mvT hZ (hw _ (List.mem_of_getElem? (i := 20) rfl))) (by decide) (backOf (W := 0) (c_minus l Z a0 hw [] b1 b14 (FP.l2d p0.toInt64) (FP.l2d p1.toInt64) (FP.l2d p2.toInt64) (FP.l2d p3.toInt64) T22.heap n0 Z26 G29 G30 P24 P25 (by rw [dsub_w (own_b53 _) (own_b53 _)]; exact (l2d_fin _).noNaN) (by rw [dsub_w (own_b53 _) (own_b53 _)]; exact (l2d_fin _).noNaN)) hZ (hw _ (List.mem_of_getElem? (i := 22) rfl)) (hw _ (List.mem_of_getElem? (i := 2) rfl)) (by decide) (by decide)) q28a q28c (g := (mkF m 30 #[.val (.int p0), .val (.int p1), .val (.int p2), .val (.int p3), .val (.ref b1), .val (.ref b14), .unset, .unset, .unset, .unset, .unset] [(.ref b14), (.ref b1)])) rfl (by rw [hml]; rfl) (Steps.refl _) (argsL := [(.ref b14)]) (rest := []) (lenOf pd_2 rfl) rfl (by show 2 * 0 + _ ≤ _; exact Nat.le_of_eq rfl) (hb hby at_30) (fun _ _ => ⟨rfl, rfl, (by decide : 2 + 1 ≤ _), (by decide : 4 + 2 ≤ _)⟩)
  dsimp only [Pt.U, Pt.locs, Pt.cells, Pt.slots] at X28 l28 y28 z28 st28 hQ28
  subst l28 y28 z28
  obtain ⟨b_28, rfl, N28q, K28, P32, P33, P34, R35⟩ := hQ28
  have N28_ := Fr.app N22_ N28q
  refine Gl.via (fun _ k => st28.trans k) ?_
  have ne36 : b1 ≠ b_28 := Nat.ne_of_lt (Nat.lt_of_lt_of_le G31.lt R35)
  have ne37 : b14 ≠ b_28 := Nat.ne_of_lt (Nat.lt_of_lt_of_le P23.lt R35)
  have ge38 : n0 ≤ b_28 := Nat.le_trans Z26 R35
  have gz39 : h0.size ≤ b_28 := Nat.le_trans Y27 R35
  have Z40 : n0 ≤ T28.heap.size := Nat.le_trans Z26 K28.1
  have Y41 : h0.size ≤ T28.heap.size := Nat.le_trans Y27 K28.1
  show Gl p.tables e below T28 (mkF m 33 #[.val (.int p0), .val (.int p1), .val (.int p2), .val (.int p3), .val (.ref b1), .val (.ref b14), .unset, .unset, .unset, .unset, .unset] [(.ref b_28)]) G
  refine Gl.via (fun _ k => XS.astore X28.here hx rfl (hb hby at_33) rfl rfl (l' := #[.val (.int p0), .val (.int p1), .val (.int p2), .val (.int p3), .val (.ref b1), .val (.ref b14), .val (.ref b_28), .unset, .unset, .unset, .unset]) rfl k) ?_
  show Gl p.tables e below T28 (mkF m 35 #[.val (.int p0), .val (.int p1), .val (.int p2), .val (.int p3), .val (.ref b1), .val (.ref b14), .val (.ref b_28), .unset, .unset, .unset, .unset] []) G
  refine Gl.via (fun _ k => XS.iloadN X28.here hx rfl (hb hby at_35) rfl k) ?_
  show Gl p.tables e below T28 (mkF m 36 #[.val (.int p0), .val (.int p1), .val (.int p2), .val (.int p3), .val (.ref b1), .val (.ref b14), .val (.ref b_28), .unset, .unset, .unset, .unset] [(.int p0)]) G
  refine Gl.via (fun _ k => XS.i2l X28.here hx rfl (hb hby at_36) rfl k) ?_
  show Gl p.tables e below T28 (mkF m 37 #[.val (.int p0), .val (.int p1), .val (.int p2), .val (.int p3), .val (.ref b1), .val (.ref b14), .val (.ref b_28), .unset, .unset, .unset, .unset] [(.long (p0.toInt64))]) G
  refine Gl.via (fun _ k => XS.iloadN X28.here hx rfl (hb hby at_37) rfl k) ?_
  show Gl p.tables e below T28 (mkF m 38 #[.val (.int p0), .val (.int p1), .val (.int p2), .val (.int p3), .val (.ref b1), .val (.ref b14), .val (.ref b_28), .unset, .unset, .unset, .unset] [(.int p2), (.long (p0.toInt64))]) G
  refine Gl.via (fun _ k => XS.i2l X28.here hx rfl (hb hby at_38) rfl k) ?_
  show Gl p.tables e below T28 (mkF m 39 #[.val (.int p0), .val (.int p1), .val (.int p2), .val (.int p3), .val (.ref b1), .val (.ref b14), .val (.ref b_28), .unset, .unset, .unset, .unset] [(.long (p2.toInt64)), (.long (p0.toInt64))]) G
  refine Gl.via (fun _ k => XS.lsub X28.here hx rfl (hb hby at_39) rfl k) ?_
  show Gl p.tables e below T28 (mkF m 40 #[.val (.int p0), .val (.int p1), .val (.int p2), .val (.int p3), .val (.ref b1), .val (.ref b14), .val (.ref b_28), .unset, .unset, .unset, .unset] [(.long ((p0.toInt64) - (p2.toInt64)))]) G
  refine Gl.via (fun _ k => XS.l2dS X28.here hx rfl (hb hby at_40) rfl rfl k) ?_
  show Gl p.tables e below T28 (mkF m 41 #[.val (.int p0), .val (.int p1), .val (.int p2), .val (.int p3), .val (.ref b1), .val (.ref b14), .val (.ref b_28), .unset, .unset, .unset, .unset] [(.double (FP.l2d ((p0.toInt64) - (p2.toInt64))))]) G
  refine Gl.via (fun _ k => XS.dstore X28.here hx rfl (hb hby at_41) rfl (l' := #[.val (.int p0), .val (.int p1), .val (.int p2), .val (.int p3), .val (.ref b1), .val (.ref b14), .val (.ref b_28), .val (.double (FP.l2d ((p0.toInt64) - (p2.toInt64)))), .second, .unset, .unset]) rfl k) ?_
  show Gl p.tables e below T28 (mkF m 43 #[.val (.int p0), .val (.int p1), .val (.int p2), .val (.int p3), .val (.ref b1), .val (.ref b14), .val (.ref b_28), .val (.double (FP.l2d ((p0.toInt64) - (p2.toInt64)))), .second, .unset, .unset] []) G
  refine Gl.via (fun _ k => XS.iloadN X28.here hx rfl (hb hby at_43) rfl k) ?_
  show Gl p.tables e below T28 (mkF m 44 #[.val (.int p0), .val (.int p1), .val (.int p2), .val (.int p3), .val (.ref b1), .val (.ref b14), .val (.ref b_28), .val (.double (FP.l2d ((p0.toInt64) - (p2.toInt64)))), .second, .unset, .unset] [(.int p1)]) G
  refine Gl.via (fun _ k => XS.i2l X28.here hx rfl (hb hby at_44) rfl k) ?_
  show Gl p.tables e below T28 (mkF m 45 #[.val (.int p0), .val (.int p1), .val (.int p2), .val (.int p3), .val (.ref b1), .val (.ref b14), .val (.ref b_28), .val (.double (FP.l2d ((p0.toInt64) - (p2.toInt64)))), .second, .unset, .unset] [(.long (p1.toInt64))]) G
  refine Gl.via (fun _ k => XS.iloadN X28.here hx rfl (hb hby at_45) rfl k) ?_
  show Gl p.tables e below T28 (mkF m 46 #[.val (.int p0), .val (.int p1), .val (.int p2), .val (.int p3), .val (.ref b1), .val (.ref b14), .val (.ref b_28), .val (.double (FP.l2d ((p0.toInt64) - (p2.toInt64)))), .second, .unset, .unset] [(.int p3), (.long (p1.toInt64))]) G
  refine Gl.via (fun _ k => XS.i2l X28.here hx rfl (hb hby at_46) rfl k) ?_
  show Gl p.tables e below T28 (mkF m 47 #[.val (.int p0), .val (.int p1), .val (.int p2), .val (.int p3), .val (.ref b1), .val (.ref b14), .val (.ref b_28), .val (.double (FP.l2d ((p0.toInt64) - (p2.toInt64)))), .second, .unset, .unset] [(.long (p3.toInt64)), (.long (p1.toInt64))]) G
  refine Gl.via (fun _ k => XS.lsub X28.here hx rfl (hb hby at_47) rfl k) ?_
  show Gl p.tables e below T28 (mkF m 48 #[.val (.int p0), .val (.int p1), .val (.int p2), .val (.int p3), .val (.ref b1), .val (.ref b14), .val (.ref b_28), .val (.double (FP.l2d ((p0.toInt64) - (p2.toInt64)))), .second, .unset, .unset] [(.long ((p1.toInt64) - (p3.toInt64)))]) G
  refine Gl.via (fun _ k => XS.l2dS X28.here hx rfl (hb hby at_48) rfl rfl k) ?_
  show Gl p.tables e below T28 (mkF m 49 #[.val (.int p0), .val (.int p1), .val (.int p2), .val (.int p3), .val (.ref b1), .val (.ref b14), .val (.ref b_28), .val (.double (FP.l2d ((p0.toInt64) - (p2.toInt64)))), .second, .unset, .unset] [(.double (FP.l2d ((p1.toInt64) - (p3.toInt64))))]) G
  refine Gl.via (fun _ k => XS.dstore X28.here hx rfl (hb hby at_49) rfl (l' := #[.val (.int p0), .val (.int p1), .val (.int p2), .val (.int p3), .val (.ref b1), .val (.ref b14), .val (.ref b_28), .val (.double (FP.l2d ((p0.toInt64) - (p2.toInt64)))), .second, .val (.double (FP.l2d ((p1.toInt64) - (p3.toInt64)))), .second]) rfl k) ?_
  show Gl p.tables e below T28 (mkF m 51 #[.val (.int p0), .val (.int p1), .val (.int p2), .val (.int p3), .val (.ref b1), .val (.ref b14), .val (.ref b_28), .val (.double (FP.l2d ((p0.toInt64) - (p2.toInt64)))), .second, .val (.double (FP.l2d ((p1.toInt64) - (p3.toInt64)))), .second] []) G
  refine Gl.via (fun _ k => XS.aload X28.here hx rfl (hb hby at_51) rfl rfl k) ?_
  show Gl p.tables e below T28 (mkF m 53 #[.val (.int p0), .val (.int p1), .val (.int p2), .val (.int p3), .val (.ref b1), .val (.ref b14), .val (.ref b_28), .val (.double (FP.l2d ((p0.toInt64) - (p2.toInt64)))), .second, .val (.double (FP.l2d ((p1.toInt64) - (p3.toInt64)))), .second] [(.ref b_28)]) G
  obtain ⟨cq42, kq42, q42a, q42b, q42c⟩ := isOf hZ rfl P32
  obtain ⟨_, _, ⟨T42, L42, k42, n42⟩, -, X42, ⟨Lc42, hQ42, l42, y42, z42⟩, st42⟩ := X28.virtualBack hx (y := (⟨"com/example/sortie/sortie/solver/Cost", "value", "()D"⟩ : MethodName)) (z := (⟨"com/example/sortie/sortie/solver/Cost", "value", "()D"⟩ : MethodName)) hown (mvT hZ (hw _ (List.mem_of_getElem? (i := 25) rfl))) (mvT hZ (hw _ (List.mem_of_getElem? (i := 26) rfl))) (notFace_of_selects (args := #[]) (mvT hZ (hw _ (List.mem_of_getElem? (i := 28) rfl)))) (mvT hZ (hw _ (List.mem_of_getElem? (i := 28) rfl))) (mvT hZ (hw _ (List.mem_of_getElem? (i := 27) rfl))) (by decide) (backOf (W := 0) (c_value l Z a0 hw [] b_28 (FP.dsub (FP.l2d p0.toInt64) (FP.l2d p2.toInt64)) T28.heap n0 Z40 P33) hZ (hw _ (List.mem_of_getElem? (i := 29) rfl)) (hw _ (List.mem_of_getElem? (i := 2) rfl)) (by decide) (by decide)) q42a q42c (g := (mkF m 53 #[.val (.int p0), .val (.int p1), .val (.int p2), .val (.int p3), .val (.ref b1), .val (.ref b14), .val (.ref b_28), .val (.double (FP.l2d ((p0.toInt64) - (p2.toInt64)))), .second, .val (.double (FP.l2d ((p1.toInt64) - (p3.toInt64)))), .second] [(.ref b_28)])) rfl (by rw [hml]; rfl) (Steps.refl _) (argsL := []) (rest := []) (lenOf pd_3 rfl) rfl (by show 2 * 0 + _ ≤ _; exact Nat.le_of_eq rfl) (hb hby at_53) (fun _ _ => ⟨rfl, rfl, (by decide : 3 + 0 ≤ _), (by decide : 6 + 0 ≤ _)⟩)
  dsimp only [Pt.U, Pt.locs, Pt.cells, Pt.slots] at X42 l42 y42 z42 st42 hQ42
  subst l42 y42 z42
  obtain ⟨rfl, N42q, eh42⟩ := hQ42
  have N42_ := Fr.app N28_ N42q
  refine Gl.via (fun _ k => st42.trans k) ?_
  show Gl p.tables e below T42 (mkF m 56 #[.val (.int p0), .val (.int p1), .val (.int p2), .val (.int p3), .val (.ref b1), .val (.ref b14), .val (.ref b_28), .val (.double (FP.l2d ((p0.toInt64) - (p2.toInt64)))), .second, .val (.double (FP.l2d ((p1.toInt64) - (p3.toInt64)))), .second] [(.double (FP.dsub (FP.l2d p0.toInt64) (FP.l2d p2.toInt64)))]) G
  refine Gl.via (fun _ k => XS.dload X42.here hx rfl (hb hby at_56) rfl k) ?_
  show Gl p.tables e below T42 (mkF m 58 #[.val (.int p0), .val (.int p1), .val (.int p2), .val (.int p3), .val (.ref b1), .val (.ref b14), .val (.ref b_28), .val (.double (FP.l2d ((p0.toInt64) - (p2.toInt64)))), .second, .val (.double (FP.l2d ((p1.toInt64) - (p3.toInt64)))), .second] [(.double (FP.l2d ((p0.toInt64) - (p2.toInt64)))), (.double (FP.dsub (FP.l2d p0.toInt64) (FP.l2d p2.toInt64)))]) G
  refine Gl.via (fun _ k => XS.dcmpS X42.here hx rfl (v := (0 : Int32)) (hb hby at_58) rfl (by rw [dsub_w (own_b53 _) (own_b53 _)]; exact dcmpV_self (l2d_fin _).noNaN _) k) ?_
  show Gl p.tables e below T42 (mkF m 59 #[.val (.int p0), .val (.int p1), .val (.int p2), .val (.int p3), .val (.ref b1), .val (.ref b14), .val (.ref b_28), .val (.double (FP.l2d ((p0.toInt64) - (p2.toInt64)))), .second, .val (.double (FP.l2d ((p1.toInt64) - (p3.toInt64)))), .second] [(.int (0 : Int32))]) G
  refine Gl.via (fun _ k => XS.ifNo X42.here hx rfl (hb hby at_59) rfl ((if0 _ _).trans (teq (by decide)).2) k) ?_
  show Gl p.tables e below T42 (mkF m 62 #[.val (.int p0), .val (.int p1), .val (.int p2), .val (.int p3), .val (.ref b1), .val (.ref b14), .val (.ref b_28), .val (.double (FP.l2d ((p0.toInt64) - (p2.toInt64)))), .second, .val (.double (FP.l2d ((p1.toInt64) - (p3.toInt64)))), .second] []) G
  refine Gl.via (fun _ k => XS.aload X42.here hx rfl (hb hby at_62) rfl rfl k) ?_
  show Gl p.tables e below T42 (mkF m 64 #[.val (.int p0), .val (.int p1), .val (.int p2), .val (.int p3), .val (.ref b1), .val (.ref b14), .val (.ref b_28), .val (.double (FP.l2d ((p0.toInt64) - (p2.toInt64)))), .second, .val (.double (FP.l2d ((p1.toInt64) - (p3.toInt64)))), .second] [(.ref b_28)]) G
  obtain ⟨cq43, kq43, q43a, q43b, q43c⟩ := isOf hZ eh42 P32
  obtain ⟨_, _, ⟨T43, L43, k43, n43⟩, -, X43, ⟨Lc43, hQ43, l43, y43, z43⟩, st43⟩ := X42.virtualBack hx (y := (⟨"com/example/sortie/sortie/solver/Cost", "tieBreak", "()D"⟩ : MethodName)) (z := (⟨"com/example/sortie/sortie/solver/Cost", "tieBreak", "()D"⟩ : MethodName)) hown (mvT hZ (hw _ (List.mem_of_getElem? (i := 30) rfl))) (mvT hZ (hw _ (List.mem_of_getElem? (i := 31) rfl))) (notFace_of_selects (args := #[]) (mvT hZ (hw _ (List.mem_of_getElem? (i := 33) rfl)))) (mvT hZ (hw _ (List.mem_of_getElem? (i := 33) rfl))) (mvT hZ (hw _ (List.mem_of_getElem? (i := 32) rfl))) (by decide) (backOf (W := 0) (c_tieBreak l Z a0 hw [] b_28 (FP.dsub (FP.l2d p1.toInt64) (FP.l2d p3.toInt64)) T28.heap n0 Z40 P34) hZ (hw _ (List.mem_of_getElem? (i := 34) rfl)) (hw _ (List.mem_of_getElem? (i := 2) rfl)) (by decide) (by decide)) q43a q43c (g := (mkF m 64 #[.val (.int p0), .val (.int p1), .val (.int p2), .val (.int p3), .val (.ref b1), .val (.ref b14), .val (.ref b_28), .val (.double (FP.l2d ((p0.toInt64) - (p2.toInt64)))), .second, .val (.double (FP.l2d ((p1.toInt64) - (p3.toInt64)))), .second] [(.ref b_28)])) rfl (by rw [hml]; rfl) (Steps.refl _) (argsL := []) (rest := []) (lenOf pd_3 rfl) rfl (by show 2 * 0 + _ ≤ _; exact Nat.le_of_eq rfl) (hb hby at_64) (fun _ _ => ⟨rfl, eh42, (by decide : 3 + 0 ≤ _), (by decide : 6 + 0 ≤ _)⟩)
  dsimp only [Pt.U, Pt.locs, Pt.cells, Pt.slots] at X43 l43 y43 z43 st43 hQ43
  subst l43 y43 z43
  obtain ⟨rfl, N43q, eh43⟩ := hQ43
  have N43_ := Fr.app N42_ N43q
  refine Gl.via (fun _ k => st43.trans k) ?_
  show Gl p.tables e below T43 (mkF m 67 #[.val (.int p0), .val (.int p1), .val (.int p2), .val (.int p3), .val (.ref b1), .val (.ref b14), .val (.ref b_28), .val (.double (FP.l2d ((p0.toInt64) - (p2.toInt64)))), .second, .val (.double (FP.l2d ((p1.toInt64) - (p3.toInt64)))), .second] [(.double (FP.dsub (FP.l2d p1.toInt64) (FP.l2d p3.toInt64)))]) G
  refine Gl.via (fun _ k => XS.dload X43.here hx rfl (hb hby at_67) rfl k) ?_
  show Gl p.tables e below T43 (mkF m 69 #[.val (.int p0), .val (.int p1), .val (.int p2), .val (.int p3), .val (.ref b1), .val (.ref b14), .val (.ref b_28), .val (.double (FP.l2d ((p0.toInt64) - (p2.toInt64)))), .second, .val (.double (FP.l2d ((p1.toInt64) - (p3.toInt64)))), .second] [(.double (FP.l2d ((p1.toInt64) - (p3.toInt64)))), (.double (FP.dsub (FP.l2d p1.toInt64) (FP.l2d p3.toInt64)))]) G
  refine Gl.via (fun _ k => XS.dcmpS X43.here hx rfl (v := (0 : Int32)) (hb hby at_69) rfl (by rw [dsub_w (own_b53 _) (own_b53 _)]; exact dcmpV_self (l2d_fin _).noNaN _) k) ?_
  show Gl p.tables e below T43 (mkF m 70 #[.val (.int p0), .val (.int p1), .val (.int p2), .val (.int p3), .val (.ref b1), .val (.ref b14), .val (.ref b_28), .val (.double (FP.l2d ((p0.toInt64) - (p2.toInt64)))), .second, .val (.double (FP.l2d ((p1.toInt64) - (p3.toInt64)))), .second] [(.int (0 : Int32))]) G
  refine Gl.via (fun _ k => XS.ifNo X43.here hx rfl (hb hby at_70) rfl ((if0 _ _).trans (teq (by decide)).2) k) ?_
  show Gl p.tables e below T43 (mkF m 73 #[.val (.int p0), .val (.int p1), .val (.int p2), .val (.int p3), .val (.ref b1), .val (.ref b14), .val (.ref b_28), .val (.double (FP.l2d ((p0.toInt64) - (p2.toInt64)))), .second, .val (.double (FP.l2d ((p1.toInt64) - (p3.toInt64)))), .second] []) G
  refine Gl.via (fun _ k => XS.iconst X43.here hx rfl (hb hby at_73) k) ?_
  show Gl p.tables e below T43 (mkF m 74 #[.val (.int p0), .val (.int p1), .val (.int p2), .val (.int p3), .val (.ref b1), .val (.ref b14), .val (.ref b_28), .val (.double (FP.l2d ((p0.toInt64) - (p2.toInt64)))), .second, .val (.double (FP.l2d ((p1.toInt64) - (p3.toInt64)))), .second] [(.int (1 : Int32))]) G
  refine Gl.via (fun _ k => XS.goto X43.here hx rfl (pc0 := 74) (pc' := 78) rfl (hb hby at_74) (by decide) (by decide) k) ?_
  show Gl p.tables e below T43 (mkF m 78 #[.val (.int p0), .val (.int p1), .val (.int p2), .val (.int p3), .val (.ref b1), .val (.ref b14), .val (.ref b_28), .val (.double (FP.l2d ((p0.toInt64) - (p2.toInt64)))), .second, .val (.double (FP.l2d ((p1.toInt64) - (p3.toInt64)))), .second] [(.int (1 : Int32))]) G
  obtain ⟨fs, hr, hrun, hended, hW, hsame⟩ := X43.leave (v := some (.int (1 : Int32))) (fun h => by rw [Bd.returns] at h; cases h)
  have hq : ∀ L, Fr n0 L → Q_rm0 Z p0 p1 p2 p3 h0 n0 (some (.int (1 : Int32))) T43.heap L := by
    intro L hN
    rw [eh43]
    exact ⟨rfl, hN⟩
  rw [hG]
  exact Gl.fin (retN X43 hx (t := .boolean) Bd.returns (by simp) (hb hby at_78) hr) ⟨_, hrun, hended, _, _, rfl, hq _ N43_, ⟨_, rfl⟩, hW, hsame.mono (by decide) (by decide)⟩
set_option maxRecDepth 65536 in
set_option maxHeartbeats 40000000 in
theorem comes_1 {Post : Tables → Env → Array Value → State → Outcome → State → Prop} (hpost : ∀ tb e args s v u, (limb_1_1.after args s (.returned v) u = true ∧ limb_1_2.after args s (.returned v) u = true ∧ True) → FrameEnd s (.returned v) u (Jvm.fieldLocs frame_1_writes args s ++ Jvm.arrayLocs frame_1_arrays args s ++ Jvm.staticLocs frame_1_statics s) 16 128 → Post tb e args s (.returned v) u) :
    ArmFor flags0 classFile x code maxLocals ret World_1 tables_1 room_1 Calls_1 rest_1 Pre_1 Post := by
  intro l hfl _ _ p e ha hc hk s m args below hf hA hF happ hP
  obtain ⟨hcalls, hrest, hpre⟩ := hP
  obtain ⟨-, -, -, hnamed, -, -, -, hat⟩ := (Spec.applies_iff hf).mp happ
  obtain ⟨hg, hn⟩ := and_e (Cond.before_iff.mp (show (Jvm.Cond.and given_1 narrow_1).before args s = true from hpre))
  obtain ⟨g1, g2⟩ := and_e hg
  obtain ⟨g3, g4⟩ := and_e g2
  obtain ⟨g5, g6⟩ := and_e g4
  obtain ⟨g7, g8⟩ := and_e g6
  obtain ⟨w0, w1, w2, w3, rfl⟩ : ∃ w0 w1 w2 w3 : Value, args = #[w0, w1, w2, w3] := by
    have hs : args.size = 4 := by simpa [Cond.value, given_1] using g1
    obtain ⟨L⟩ := args
    match L, hs with
    | [w0, w1, w2, w3], _ => exact ⟨w0, w1, w2, w3, rfl⟩
  have hw := fun d (hd : d ∈ tables_1) => atoms_spec (ws := Jvm.Cond.code x code maxLocals ret :: tables_1) hat d (List.mem_cons_of_mem _ hd)
  have hfit : Fit s := fun {y c} hc i hi => by
    obtain ⟨ha, rfl⟩ := Array.getElem?_eq_some_iff.mp hc
    have q := List.all_eq_true.mp ((Array.all_eq_true_iff_forall_mem.mp hF) _ (Array.getElem_mem ha)) i (List.mem_range.mpr hi)
    simpa [Array.getElem?_eq_getElem hi] using q
  obtain ⟨i0, ei0⟩ := is_v g3
  obtain rfl : w0 = (.int i0) := Option.some.inj ei0
  obtain ⟨i1, ei1⟩ := is_v g5
  obtain rfl : w1 = (.int i1) := Option.some.inj ei1
  obtain ⟨i2, ei2⟩ := is_v g7
  obtain rfl : w2 = (.int i2) := Option.some.inj ei2
  obtain ⟨i3, ei3⟩ := is_v g8
  obtain rfl : w3 = (.int i3) := Option.some.inj ei3
  obtain ⟨n, o, h1, h2, h3, _, L, rfl, ⟨rfl, N⟩, hq⟩ := rm0 l s _ hw tables_1 i0 i1 i2 i3 s.heap s.heap.size (Nat.le_refl _)  p e ha hc hk s m _ below hf ((Spec.applies_iff_loose hf).mp happ).1 ⟨rfl, State.Warmed39.refl s, rfl⟩ trivial
  refine ⟨n, _, h1, h2, h3, hpost _ _ _ _ _ _ ⟨Cond.after_iff.mpr rfl, Cond.after_iff.mpr (eq_i res_at (Term.int_eval (1)) rfl), trivial⟩ ⟨hq.1, hq.2.1, (hq.2.2.sift fun y hy => Or.inr (N y hy)).mono (by decide) (by decide)⟩⟩
theorem main_1_1 : Claimed_1_1 := comes_1 fun _ _ _ _ _ _ h hF => ⟨h.1, hF⟩
theorem main_1_2 : Claimed_1_2 := comes_1 fun _ _ _ _ _ _ h hF => ⟨h.2.1, hF⟩
end Jvm.Pilot.@@N@@
namespace Jvm.Pilot.@@N@@
open Jvm Jvm.ClassFile Sem Op Lib Jvm.Free Jvm.Stand Jvm.Pilot.@@N@@.Jvm.D
/-! MADE BY PROGRAM (witnessworld.py) out of the Statement's table words and the real class files: 10 classes; the members and pool entries that the words name. The judged class is class 1, her method 1. -/
namespace start1
open Jvm.ClassFile
def u (s : String) : CpInfo := .utf8 (stringToUtf16 s)
/-- a pool by its gaps: so many unusable entries, then the entry; so many at the end -/
def gap : Nat → List CpInfo → List CpInfo
  | 0, r => r
  | n + 1, r => .unusable :: gap n r
def poolList (es : List (Nat × CpInfo)) (last : Nat) : List CpInfo := es.foldr (fun e r => gap e.1 (e.2 :: r)) (gap last [])
def pool (es : List (Nat × CpInfo)) (last : Nat) : Array CpInfo := ⟨poolList es last⟩
def fileOf (pool : Array CpInfo) (this : Nat) (attrs : Array Attribute := #[]) (ms : Array MethodInfo := #[]) (fl : Nat := 33) (sup : Nat := 0) (ifs : Array Nat := #[]) (fds : Array FieldInfo := #[]) : ClassFile where
  minorVersion := 0
  majorVersion := 65
  constantPool := pool
  accessFlags := fl
  thisClass := this
  superClass := sup
  interfaces := ifs
  fields := fds
  methods := ms
  attributes := attrs
def plain (name : String) (sup : Option ClassId) : Class where
  name := name
  kind := .ordinary
  loader := none
  accessFlags := 33
  super := sup
  interfaces := #[]
  cf := none
  fields := #[]
  methods := #[]
  instanceTypes := #[]
  staticTypes := #[]
  resolved := #[]
  callSites := []
  init := .initialized
  statics := none
  mirror := none

def pool0 : Array CpInfo := pool [(5, u "<init>"), (0, u "()V"), (1, .class_ 10), (1, u "java/lang/Object")] 113

def k0c0 : Code := { maxStack := 0, maxLocals := 1, code := object_method_1_code, exceptionTable := #[], attributes := #[] }
def k0m0 : Method := { name := "<init>", desc := "()V", sig := { parameters := [], returnType := none }, accessFlags := 1, code := some k0c0 }
/-- java/lang/Object -/
def k0 : Class := { plain "java/lang/Object" none with
  accessFlags := 33
  interfaces := #[]
  cf := some (fileOf pool0 8 #[] #[{ accessFlags := 1, nameIndex := 5, descriptorIndex := 6, attributes := #[] }] 33 0 #[] #[])
  fields := #[]
  methods := #[k0m0]
  instanceTypes := #[]
  staticTypes := #[]
  resolved := Array.replicate 124 none
  statics := none }

def pool1 : Array CpInfo := pool [(2, .class_ 4), (1, u "java/lang/Object"), (0, u "<init>"), (0, u "()V"), (0, .class_ 8), (0, u "com/example/sortie/sortie/solver/Cost"), (0, .methodref 7 10), (0, .nameAndType 5 11), (0, u "(DD)V"), (0, .methodref 7 13), (0, .nameAndType 14 15), (0, u "minus"), (0, u "(Lcom/example/sortie/sortie/solver/Cost;)Lcom/example/sortie/sortie/solver/Cost;"), (0, .methodref 7 17), (0, .nameAndType 18 19), (0, u "value"), (0, u "()D"), (0, .methodref 7 21), (0, .nameAndType 22 19), (0, u "tieBreak"), (0, .class_ 24), (0, u "com/example/sortie/sortie/solver/CostMinusPinLaw"), (2, u "law"), (0, u "(IIII)Z")] 3

def k1m0 : Method := { name := "<init>", desc := "()V", sig := { parameters := [], returnType := none }, accessFlags := 1, code := none }
def k1c1 : Code := { maxStack := 6, maxLocals := 11, code := code, exceptionTable := #[], attributes := #[] }
def k1m1 : Method := { name := "law", desc := "(IIII)Z", sig := { parameters := [.int, .int, .int, .int], returnType := some .boolean }, accessFlags := 9, code := some k1c1 }
/-- com/example/sortie/sortie/solver/CostMinusPinLaw -/
def k1 : Class := { plain "com/example/sortie/sortie/solver/CostMinusPinLaw" (some 0) with
  accessFlags := 49
  interfaces := #[]
  cf := some (fileOf pool1 23 #[] #[{ accessFlags := 1, nameIndex := 5, descriptorIndex := 6, attributes := #[] }, { accessFlags := 9, nameIndex := 27, descriptorIndex := 28, attributes := #[] }] 49 2 #[] #[])
  fields := #[]
  methods := #[k1m0, k1m1]
  instanceTypes := #[]
  staticTypes := #[]
  resolved := Array.replicate 32 none
  statics := none }

def pool2 : Array CpInfo := pool [(1, .methodref 2 3), (0, .class_ 4), (0, .nameAndType 5 6), (0, u "java/lang/Object"), (0, u "<init>"), (0, u "()V"), (0, .class_ 8), (0, u "java/lang/Record")] 13

def k2c0 : Code := { maxStack := 1, maxLocals := 1, code := jdk_30_method_1_code, exceptionTable := #[], attributes := #[] }
def k2m0 : Method := { name := "<init>", desc := "()V", sig := { parameters := [], returnType := none }, accessFlags := 4, code := some k2c0 }
/-- java/lang/Record -/
def k2 : Class := { plain "java/lang/Record" (some 0) with
  accessFlags := 1057
  interfaces := #[]
  cf := some (fileOf pool2 7 #[] #[{ accessFlags := 4, nameIndex := 5, descriptorIndex := 6, attributes := #[] }] 1057 2 #[] #[])
  fields := #[]
  methods := #[k2m0]
  instanceTypes := #[]
  staticTypes := #[]
  resolved := Array.replicate 22 none
  statics := none }

def pool3 : Array CpInfo := pool [(1, .methodref 2 3), (0, .class_ 4), (0, .nameAndType 5 6), (0, u "java/lang/Record"), (0, u "<init>"), (0, u "()V"), (0, .fieldref 8 9), (0, .class_ 10), (0, .nameAndType 11 12), (0, u "com/example/sortie/sortie/solver/Cost"), (0, u "value"), (0, u "D"), (0, .fieldref 8 14), (0, .nameAndType 15 12), (0, u "tieBreak"), (0, .methodref 8 17), (0, .nameAndType 5 18), (0, u "(DD)V"), (16, u "ZERO"), (0, u "Lcom/example/sortie/sortie/solver/Cost;"), (6, u "INFINITE"), (0, u "TIE"), (5, u "(Lcom/example/sortie/sortie/solver/Cost;)Lcom/example/sortie/sortie/solver/Cost;"), (0, u "minus"), (6, u "()D")] 22

def k3c0 : Code := { maxStack := 3, maxLocals := 5, code := prog_45_method_1_code, exceptionTable := #[], attributes := #[] }
def k3m0 : Method := { name := "<init>", desc := "(DD)V", sig := { parameters := [.double, .double], returnType := none }, accessFlags := 0, code := some k3c0 }
def k3c1 : Code := { maxStack := 8, maxLocals := 2, code := prog_45_method_3_code, exceptionTable := #[], attributes := #[] }
def k3m1 : Method := { name := "minus", desc := "(Lcom/example/sortie/sortie/solver/Cost;)Lcom/example/sortie/sortie/solver/Cost;", sig := { parameters := [(.object "com/example/sortie/sortie/solver/Cost")], returnType := some (.object "com/example/sortie/sortie/solver/Cost") }, accessFlags := 0, code := some k3c1 }
def k3c2 : Code := { maxStack := 2, maxLocals := 1, code := prog_45_method_8_code, exceptionTable := #[], attributes := #[] }
def k3m2 : Method := { name := "value", desc := "()D", sig := { parameters := [], returnType := some .double }, accessFlags := 1, code := some k3c2 }
def k3c3 : Code := { maxStack := 2, maxLocals := 1, code := prog_45_method_9_code, exceptionTable := #[], attributes := #[] }
def k3m3 : Method := { name := "tieBreak", desc := "()D", sig := { parameters := [], returnType := some .double }, accessFlags := 1, code := some k3c3 }
/-- com/example/sortie/sortie/solver/Cost -/
def k3 : Class := { plain "com/example/sortie/sortie/solver/Cost" (some 2) with
  accessFlags := 48
  interfaces := #[]
  cf := some (fileOf pool3 8 #[] #[{ accessFlags := 0, nameIndex := 5, descriptorIndex := 18, attributes := #[] }, { accessFlags := 0, nameIndex := 51, descriptorIndex := 50, attributes := #[] }, { accessFlags := 1, nameIndex := 11, descriptorIndex := 58, attributes := #[] }, { accessFlags := 1, nameIndex := 15, descriptorIndex := 58, attributes := #[] }] 48 2 #[] #[{ accessFlags := 18, nameIndex := 11, descriptorIndex := 12, attributes := #[] }, { accessFlags := 18, nameIndex := 15, descriptorIndex := 12, attributes := #[] }, { accessFlags := 24, nameIndex := 35, descriptorIndex := 36, attributes := #[] }, { accessFlags := 24, nameIndex := 43, descriptorIndex := 36, attributes := #[] }, { accessFlags := 26, nameIndex := 44, descriptorIndex := 12, attributes := #[] }])
  fields := #[{ name := "value", type := .double, accessFlags := 18, slot := 0, constantValue := 0 }, { name := "tieBreak", type := .double, accessFlags := 18, slot := 1, constantValue := 0 }, { name := "ZERO", type := (.object "com/example/sortie/sortie/solver/Cost"), accessFlags := 24, slot := 0, constantValue := 0 }, { name := "INFINITE", type := (.object "com/example/sortie/sortie/solver/Cost"), accessFlags := 24, slot := 1, constantValue := 0 }, { name := "TIE", type := .double, accessFlags := 26, slot := 2, constantValue := 0 }]
  methods := #[k3m0, k3m1, k3m2, k3m3]
  instanceTypes := #[.double, .double]
  staticTypes := #[(.object "com/example/sortie/sortie/solver/Cost"), (.object "com/example/sortie/sortie/solver/Cost"), .double]
  resolved := Array.replicate 81 none
  statics := none }

def pool4 : Array CpInfo := pool [(1, u "java/lang/Cloneable"), (0, .class_ 1), (0, u "java/lang/Object"), (0, .class_ 3)] 3

/-- java/lang/Cloneable -/
def k4 : Class := { plain "java/lang/Cloneable" (some 0) with
  accessFlags := 1537
  interfaces := #[]
  cf := some (fileOf pool4 2 #[] #[] 1537 4 #[] #[])
  fields := #[]
  methods := #[]
  instanceTypes := #[]
  staticTypes := #[]
  resolved := Array.replicate 8 none
  statics := none }

def pool5 : Array CpInfo := pool [(1, u "java/io/Serializable"), (0, .class_ 1), (0, u "java/lang/Object"), (0, .class_ 3)] 3

/-- java/io/Serializable -/
def k5 : Class := { plain "java/io/Serializable" (some 0) with
  accessFlags := 1537
  interfaces := #[]
  cf := some (fileOf pool5 2 #[] #[] 1537 4 #[] #[])
  fields := #[]
  methods := #[]
  instanceTypes := #[]
  staticTypes := #[]
  resolved := Array.replicate 8 none
  statics := none }

/-- the primitive byte -/
def k6 : Class := { plain "byte" none with kind := .primitive 'B', accessFlags := 0x411 }
/-- [B -/
def k7 : Class := { plain "[B" (some 0) with kind := .array 6 .byte, interfaces := #[4, 5], accessFlags := 1041 }

/-- the primitive int -/
def k8 : Class := { plain "int" none with kind := .primitive 'I', accessFlags := 0x411 }
/-- [I -/
def k9 : Class := { plain "[I" (some 0) with kind := .array 8 .int, interfaces := #[4, 5], accessFlags := 1041 }

def heap : Heap := #[]
def classes : Array Class := #[k0, k1, k2, k3, k4, k5, k6, k7, k8, k9]
def interned : List (Array UInt16 × Addr) := []
def slotsUsed : Nat := 0
def theMethod : MethodId := ⟨1, 1⟩
def args0 : Array Value := #[.int 5, .int 7, .int 2, .int 9]
def aboutOver (below : List Frame) : State where
  vm := { classes := classes, interned := interned.toArray }
  heap := heap
  slotsUsed := slotsUsed
  threads := #[{ frames := .invoking theMethod args0 :: below }]
def below0 : List Frame := [.native { method := ⟨0, 0⟩, args := #[] }]
def about1 : State := aboutOver below0
def p0 : Program := .bare "" "" ""
def e0 : Env := launch0.env 0 0 0
theorem w_frames : about1.frames = Frame.invoking theMethod args0 :: below0 := rfl
set_option maxRecDepth 65536 in
theorem w_args : argsFit about1.vm theMethod args0 = true := by decide +kernel
set_option maxRecDepth 65536 in
theorem w_heap : heapFits about1 = true := by decide +kernel
set_option maxRecDepth 65536 in
theorem w_runnable : about1.curStatus? = some .runnable := by decide +kernel
set_option maxRecDepth 65536 in
theorem w_alone : about1.alone = true := by decide +kernel
set_option maxRecDepth 65536 in
theorem w_named : about1.methodNamed? x = some theMethod := by decide +kernel
set_option maxRecDepth 65536 in
theorem w_hears : about1.hears theMethod below0 = true := by decide +kernel
set_option maxRecDepth 65536 in
theorem w_ripe : about1.ripe theMethod args0 below0 = true := by decide +kernel
theorem w_running : about1.status = .running := rfl
set_option maxRecDepth 65536 in
theorem w_room : about1.hasRoom e0.platform room_1 = true :=
  launch0.hasRoom_least _ room_1 (by decide +kernel) (by decide +kernel) (by decide +kernel) (by decide +kernel) (by decide +kernel) (by decide +kernel)
theorem allAtoms_all (ts : List Jvm.Cond) (a : Array Jvm.Value) (st : Jvm.State) : (allAtoms ts).before a st = ts.all (fun c => c.before a st) := by
  induction ts with
  | nil => rfl
  | cons c t ih =>
    show (Jvm.Cond.and c (allAtoms t)).before a st = _
    rw [Jvm.Cond.before_and, ih, List.all_cons]
def words1 : List Jvm.Cond := Jvm.Cond.code x code maxLocals ret :: tables_1
/-- a 'code' word, met by the world's own term for the bytes: nothing is compared byte by byte -/
theorem code_word {y : MethodName} {bytes : ByteArray} {mx : Nat} {rt : Option FieldType} {a : Array Value} {s : State} {m : MethodId} {meth : Method} {c : Code} (h1 : s.methodNamed? y = some m) (h2 : s.vm.method? m = some meth) (h3 : meth.code = some c) (h4 : c.code = bytes)
    (h5 : (c.maxLocals == mx && c.exceptionTable.isEmpty && decide (c.maxStack ≤ mostOperands) && decide (meth.sig.returnType = rt) && !meth.locks && decide (parseMethodDescriptor y.desc = some meth.sig)) = true) : (Jvm.Cond.code y bytes mx rt).before a s = true := by
  simp only [Bool.and_eq_true, beq_iff_eq, Bool.not_eq_true', decide_eq_true_eq] at h5
  obtain ⟨⟨⟨⟨⟨g1, g2⟩, g3⟩, g4⟩, g5⟩, g6⟩ := h5
  simp [Cond.before, Cond.holds, Cond.value, h1, h2, h3, h4, g1, g2, g3, g4, g5, g6]
def isCode : Jvm.Cond → Bool
  | .code _ _ _ _ => true
  | _ => false
theorem all_split {L : List Jvm.Cond} {P : Jvm.Cond → Bool} (h1 : L.all (fun c => isCode c || P c) = true) (h2 : ∀ c ∈ L.filter isCode, P c = true) : L.all P = true := by
  refine List.all_eq_true.mpr fun c hc => ?_
  have h := List.all_eq_true.mp h1 c hc
  rcases Bool.eq_false_or_eq_true (isCode c) with hi | hi
  · exact h2 c (List.mem_filter.mpr ⟨hc, hi⟩)
  · simpa [hi] using h
set_option maxRecDepth 65536 in
theorem w_c0 : (Jvm.Cond.code x code maxLocals ret).before args0 about1 = true := code_word (m := ⟨1, 1⟩) (meth := k1m1) (c := k1c1) (by decide +kernel) rfl rfl rfl (by decide +kernel)
set_option maxRecDepth 65536 in
theorem w_c1 : (Jvm.Cond.code ({ cls := "com/example/sortie/sortie/solver/Cost", name := "<init>", desc := "(DD)V" } : Jvm.MethodName) prog_45_method_1_code (5 : Nat) (Option.none : Option Jvm.ClassFile.FieldType)).before args0 about1 = true := code_word (m := ⟨3, 0⟩) (meth := k3m0) (c := k3c0) (by decide +kernel) rfl rfl rfl (by decide +kernel)
set_option maxRecDepth 65536 in
theorem w_c2 : (Jvm.Cond.code ({ cls := "java/lang/Record", name := "<init>", desc := "()V" } : Jvm.MethodName) jdk_30_method_1_code (1 : Nat) (Option.none : Option Jvm.ClassFile.FieldType)).before args0 about1 = true := code_word (m := ⟨2, 0⟩) (meth := k2m0) (c := k2c0) (by decide +kernel) rfl rfl rfl (by decide +kernel)
set_option maxRecDepth 65536 in
theorem w_c3 : (Jvm.Cond.code ({ cls := "java/lang/Object", name := "<init>", desc := "()V" } : Jvm.MethodName) object_method_1_code (1 : Nat) (Option.none : Option Jvm.ClassFile.FieldType)).before args0 about1 = true := code_word (m := ⟨0, 0⟩) (meth := k0m0) (c := k0c0) (by decide +kernel) rfl rfl rfl (by decide +kernel)
set_option maxRecDepth 65536 in
theorem w_c4 : (Jvm.Cond.code ({ cls := "com/example/sortie/sortie/solver/Cost", name := "minus", desc := "(Lcom/example/sortie/sortie/solver/Cost;)Lcom/example/sortie/sortie/solver/Cost;" } : Jvm.MethodName) prog_45_method_3_code (2 : Nat) (Option.some (Jvm.ClassFile.FieldType.object "com/example/sortie/sortie/solver/Cost"))).before args0 about1 = true := code_word (m := ⟨3, 1⟩) (meth := k3m1) (c := k3c1) (by decide +kernel) rfl rfl rfl (by decide +kernel)
set_option maxRecDepth 65536 in
theorem w_c5 : (Jvm.Cond.code ({ cls := "com/example/sortie/sortie/solver/Cost", name := "value", desc := "()D" } : Jvm.MethodName) prog_45_method_8_code (1 : Nat) (Option.some Jvm.ClassFile.FieldType.double)).before args0 about1 = true := code_word (m := ⟨3, 2⟩) (meth := k3m2) (c := k3c2) (by decide +kernel) rfl rfl rfl (by decide +kernel)
set_option maxRecDepth 65536 in
theorem w_c6 : (Jvm.Cond.code ({ cls := "com/example/sortie/sortie/solver/Cost", name := "tieBreak", desc := "()D" } : Jvm.MethodName) prog_45_method_9_code (1 : Nat) (Option.some Jvm.ClassFile.FieldType.double)).before args0 about1 = true := code_word (m := ⟨3, 3⟩) (meth := k3m3) (c := k3c3) (by decide +kernel) rfl rfl rfl (by decide +kernel)
def codes1 : List Jvm.Cond := [Jvm.Cond.code x code maxLocals ret, Jvm.Cond.code ({ cls := "com/example/sortie/sortie/solver/Cost", name := "<init>", desc := "(DD)V" } : Jvm.MethodName) prog_45_method_1_code (5 : Nat) (Option.none : Option Jvm.ClassFile.FieldType), Jvm.Cond.code ({ cls := "java/lang/Record", name := "<init>", desc := "()V" } : Jvm.MethodName) jdk_30_method_1_code (1 : Nat) (Option.none : Option Jvm.ClassFile.FieldType), Jvm.Cond.code ({ cls := "java/lang/Object", name := "<init>", desc := "()V" } : Jvm.MethodName) object_method_1_code (1 : Nat) (Option.none : Option Jvm.ClassFile.FieldType), Jvm.Cond.code ({ cls := "com/example/sortie/sortie/solver/Cost", name := "minus", desc := "(Lcom/example/sortie/sortie/solver/Cost;)Lcom/example/sortie/sortie/solver/Cost;" } : Jvm.MethodName) prog_45_method_3_code (2 : Nat) (Option.some (Jvm.ClassFile.FieldType.object "com/example/sortie/sortie/solver/Cost")), Jvm.Cond.code ({ cls := "com/example/sortie/sortie/solver/Cost", name := "value", desc := "()D" } : Jvm.MethodName) prog_45_method_8_code (1 : Nat) (Option.some Jvm.ClassFile.FieldType.double), Jvm.Cond.code ({ cls := "com/example/sortie/sortie/solver/Cost", name := "tieBreak", desc := "()D" } : Jvm.MethodName) prog_45_method_9_code (1 : Nat) (Option.some Jvm.ClassFile.FieldType.double)]
set_option maxRecDepth 65536 in
theorem codes_eq : words1.filter isCode = codes1 := rfl
theorem w_codes : ∀ c ∈ words1.filter isCode, c.before args0 about1 = true := by
  rw [codes_eq]
  intro c hc
  simp only [codes1, List.mem_cons, List.not_mem_nil, or_false] at hc
  rcases hc with rfl | rfl | rfl | rfl | rfl | rfl | rfl
  · exact w_c0
  · exact w_c1
  · exact w_c2
  · exact w_c3
  · exact w_c4
  · exact w_c5
  · exact w_c6
set_option maxRecDepth 65536 in
theorem w_t1 : (words1.take 24).all (fun c => isCode c || c.before args0 about1) = true := by decide +kernel
set_option maxRecDepth 65536 in
theorem w_t2 : (words1.drop 24).all (fun c => isCode c || c.before args0 about1) = true := by decide +kernel
theorem w_tables : (allAtoms (Jvm.Cond.code x code maxLocals ret :: tables_1)).before args0 about1 = true := by
  rw [allAtoms_all]
  show words1.all (fun c => c.before args0 about1) = true
  refine all_split ?_ w_codes
  rw [← List.take_append_drop 24 words1, List.all_append, w_t1, w_t2]
  rfl
set_option maxRecDepth 65536 in
theorem w_case : (Jvm.Cond.and given_1 narrow_1).before args0 about1 = true := by decide +kernel
theorem w_applies : (headSpec (Jvm.Cond.code x code maxLocals ret :: tables_1) room_1).applies x e0.platform about1 = true :=
  (Spec.applies_iff w_frames).mpr ⟨w_running, w_runnable, w_alone, w_named, w_hears, w_ripe, w_room, w_tables⟩
theorem atStart : AtStart classFile x code maxLocals ret World_1 tables_1 room_1 Calls_1 rest_1 Pre_1 launch0 p0 e0 about1 theMethod args0 below0 :=
  ⟨lists_1, trivial, launch0.admits_env _ _ _, launch0.least_env, fairChoices_fair.cas, fairChoices_fair.clock, w_frames, w_args, w_heap, w_applies, trivial, trivial, w_case⟩
end start1
theorem witness_1 : WitnessClaimed_1 := ⟨start1.p0, start1.e0, start1.about1, start1.theMethod, start1.args0, start1.below0, start1.atStart⟩
end Jvm.Pilot.@@N@@
