import JvmDerived
import JvmDerived.Pilot.@@N@@Statement
import JvmDerived.Pilot.@@N@@Code
set_option linter.unusedVariables false
set_option linter.unusedSimpArgs false
namespace Jvm.Pilot.@@N@@
open Jvm Jvm.ClassFile Sem Op Lib Jvm.Free Jvm.Stand Jvm.LawKit Jvm.RoadKit Jvm.Free.Fl Bundle Jvm.Pilot.@@N@@.Jvm.D
/-- from here the run comes to some end at which G holds -/
def Gl (tb : Tables) (e : Env) (below : List Frame) (T : State) (g : JFrame) (G : State → Prop) : Prop := ∃ s₂, Steps tb e below (T.setTop g) s₂ ∧ G s₂
theorem Gl.via {tb : Tables} {e : Env} {below : List Frame} {T T' : State} {g g' : JFrame} {G : State → Prop} (st : ∀ t, Steps tb e below (T'.setTop g') t → Steps tb e below (T.setTop g) t) (k : Gl tb e below T' g' G) : Gl tb e below T g G := by
  obtain ⟨s₂, h1, h2⟩ := k
  exact ⟨s₂, st _ h1, h2⟩
theorem Gl.fin {tb : Tables} {e : Env} {below : List Frame} {T U : State} {g : JFrame} {G : State → Prop} (st : Steps tb e below (T.setTop g) U) (k : G U) : Gl tb e below T g G := ⟨U, st, k⟩
theorem own_l (x : Int32) : ¬ ((x &&& (2147483647 : Int32)) - ((x &&& (2147483647 : Int32)) / (4 : Int32)) * (4 : Int32)) < 0 ∧ ((x &&& (2147483647 : Int32)) - ((x &&& (2147483647 : Int32)) / (4 : Int32)) * (4 : Int32)) < 4 := by
  rw [irem_eq_mod]
  have h1 := (c_and x 2147483647 (by decide)).1
  have h2 := (c_irem (x &&& 2147483647) 4 4 rfl).1 h1
  rw [Int32.lt_iff_toInt_lt, Int32.lt_iff_toInt_lt, h2]
  show ¬ _ < (0 : Int) ∧ _ < (4 : Int)
  omega
theorem own_three {l : Int32} (h : ¬ l < 0 ∧ l < 4) (h0 : ¬ (l = (0 : Int32))) (h1 : ¬ (l = (1 : Int32))) (h2 : ¬ (l = (2 : Int32))) : l = 3 := by
  have e0 : l.toInt ≠ 0 := fun q => h0 (Int32.toInt_inj.mp q)
  have e1 : l.toInt ≠ 1 := fun q => h1 (Int32.toInt_inj.mp q)
  have e2 : l.toInt ≠ 2 := fun q => h2 (Int32.toInt_inj.mp q)
  obtain ⟨a, b⟩ := h
  rw [Int32.lt_iff_toInt_lt] at a b
  have a' : ¬ l.toInt < 0 := a
  have b' : l.toInt < 4 := b
  exact Int32.toInt_inj.mp (show l.toInt = 3 by omega)
theorem pn_0 : plainName "java/lang/Record" = true := by first | (simp [plainName, overriddenIn]; done) | decide +kernel
theorem d2_0 : decode jdk_30_method_1_code 0 = .ok (.aload_n 0, 1) := by decide +kernel
theorem d2_1 : decode jdk_30_method_1_code 1 = .ok (.invokespecial 1, 3) := by decide +kernel
theorem d2_4 : decode jdk_30_method_1_code 4 = .ok (.return_, 1) := by decide +kernel
theorem ef_rec_init (m : MethodId) (x0 : Addr) : entryFrame m #[(.ref x0)] 1 = mkF m 0 #[.val (.ref x0)] [] := by first | (simp [entryFrame, mkF, argsToLocals, Value.category]; done) | rfl | (simp [entryFrame, mkF, argsToLocals, *]; done)
def Q_rec_init (Z : State) (ra : Addr) (h0 : Heap) (n0 : Nat) (v : Option Value) (h : Heap) (L : List Loc) : Prop := v = none ∧ Fr n0 L ∧ h = h0
set_option maxRecDepth 65536 in
set_option maxHeartbeats 40000000 in
theorem rec_init (l : Launch) (Z : State) (a0 : Array Value) (hw : ∀ d ∈ tables_1, d.before a0 Z = true) (ws : List Jvm.Cond) (ra : Addr) (h0 : Heap) (n0 : Nat) (Z0 : n0 ≤ h0.size) :
    MetFree l (⟨"java/lang/Record", "<init>", "()V"⟩ : MethodName) (head1 (Jvm.Cond.code (⟨"java/lang/Record", "<init>", "()V"⟩ : MethodName) jdk_30_method_1_code 1 none :: ws) ({ frames := 1, cells := 0, slots := 0, locals := 12 } : Room)) (fun a U => a = #[(.ref ra)] ∧ Z.Warmed39 U.vm ∧ U.heap = h0) (fun _ _ _ _ _ => True) (fun _ U o U' => ∃ v L, o = .returned v ∧ Q_rec_init Z ra h0 n0 v U'.heap L ∧ FrameEnd U o U' L ({ frames := 1, cells := 0, slots := 0, locals := 12 } : Room).cells ({ frames := 1, cells := 0, slots := 0, locals := 12 } : Room).slots) := by
  refine MetFree.of_bodySF (plainFor_of_name pn_0) hisR ?_
  intro p e s m args below meth c s₁ Bd hml0 hP hK
  obtain ⟨rfl, hZ, hh⟩ := hP
  have hx := Bd.exec
  have hby := Bd.bytes
  have hml : c.maxLocals = 1 := hml0
  have hown : s.vm.findClass "java/lang/Record" = some m.cls := findClass_of_methodNamed Bd.named
  have hnm := (name_of_methodNamed Bd.named Bd.method).1
  have X0 : Stand p l e ({ frames := 1, cells := 0, slots := 0, locals := 12 } : Room) s m #[(.ref ra)] below meth c s₁ [] 0 0 := Stand.of_body Bd
  have e0 : s₁.heap = h0 := by rw [← hh, Bd.state]; rfl
  have N0 := Fr.nil n0
  obtain ⟨G, hG⟩ : ∃ G : State → Prop, G = (fun U' => ∃ o, U'.status = .running ∧ Ended U' below o ∧ ∃ v L, o = .returned v ∧ Q_rec_init Z ra h0 n0 v U'.heap L ∧ FrameEnd s o U' L ({ frames := 1, cells := 0, slots := 0, locals := 12 } : Room).cells ({ frames := 1, cells := 0, slots := 0, locals := 12 } : Room).slots) := ⟨_, rfl⟩
  suffices key : Gl p.tables e below s₁ (mkF m 0 #[.val (.ref ra)] []) G by
    obtain ⟨s₂, k1, k2⟩ := key
    rw [hG] at k2
    obtain ⟨o, k3, k4, k5⟩ := k2
    exact ⟨s₂, o, castTop (ef_rec_init m ra) k1, k3, k4, k5⟩
  show Gl p.tables e below s₁ (mkF m 0 #[.val (.ref ra)] []) G
  refine Gl.via (fun _ k => XS.aloadN X0.here hx rfl (hb hby d2_0) rfl rfl k) ?_
  show Gl p.tables e below s₁ (mkF m 1 #[.val (.ref ra)] [(.ref ra)]) G
  obtain ⟨T1, X1, e1, st1⟩ := initO X0 hx hZ hown (hw _ (List.mem_of_getElem? (i := 12) rfl)) (hw _ (List.mem_of_getElem? (i := 13) rfl)) (hw _ (List.mem_of_getElem? (i := 14) rfl)) e0 (g := (mkF m 1 #[.val (.ref ra)] [(.ref ra)])) rfl (by rw [hml]; rfl) rfl (hb hby d2_1) (by decide) (W := 0) (by show 2 * 0 + _ ≤ _; exact Nat.le_of_eq rfl) (by decide)
  refine Gl.via st1 ?_
  show Gl p.tables e below T1 (mkF m 4 #[.val (.ref ra)] []) G
  obtain ⟨fs, hr, hrun, hended, hW, hsame⟩ := X1.leave (v := none) (fun _ => rfl)
  have hq : ∀ L, Fr n0 L → Q_rec_init Z ra h0 n0 (none) T1.heap L := by
    intro L hN
    rw [e1]
    exact ⟨rfl, hN, rfl⟩
  rw [hG]
  exact Gl.fin (X1.returnOut hx Bd.returns (hb hby d2_4) hr) ⟨_, hrun, hended, _, _, rfl, hq _ N0, ⟨_, rfl⟩, hW, hsame.mono (by decide) (by decide)⟩
theorem pn_1 : plainName "com/example/sortie/sortie/solver/Segment" = true := by first | (simp [plainName, overriddenIn]; done) | decide +kernel
theorem d1_0 : decode prog_65_method_1_code 0 = .ok (.aload_n 0, 1) := by decide +kernel
theorem d1_1 : decode prog_65_method_1_code 1 = .ok (.invokespecial 1, 3) := by decide +kernel
theorem pd_0 : parseMethodDescriptor "()V" = some ⟨[], none⟩ := by decide +kernel
theorem d1_4 : decode prog_65_method_1_code 4 = .ok (.aload_n 0, 1) := by decide +kernel
theorem d1_5 : decode prog_65_method_1_code 5 = .ok (.iload_n 1, 1) := by decide +kernel
theorem d1_6 : decode prog_65_method_1_code 6 = .ok (.putfield 7, 3) := by decide +kernel
theorem d1_9 : decode prog_65_method_1_code 9 = .ok (.aload_n 0, 1) := by decide +kernel
theorem d1_10 : decode prog_65_method_1_code 10 = .ok (.iload_n 2, 1) := by decide +kernel
theorem d1_11 : decode prog_65_method_1_code 11 = .ok (.putfield 13, 3) := by decide +kernel
theorem d1_14 : decode prog_65_method_1_code 14 = .ok (.aload_n 0, 1) := by decide +kernel
theorem d1_15 : decode prog_65_method_1_code 15 = .ok (.dload_n 3, 1) := by decide +kernel
theorem d1_16 : decode prog_65_method_1_code 16 = .ok (.putfield 16, 3) := by decide +kernel
theorem d1_19 : decode prog_65_method_1_code 19 = .ok (.aload_n 0, 1) := by decide +kernel
theorem d1_20 : decode prog_65_method_1_code 20 = .ok (.dload 5, 2) := by decide +kernel
theorem d1_22 : decode prog_65_method_1_code 22 = .ok (.putfield 20, 3) := by decide +kernel
theorem d1_25 : decode prog_65_method_1_code 25 = .ok (.aload_n 0, 1) := by decide +kernel
theorem d1_26 : decode prog_65_method_1_code 26 = .ok (.dload 7, 2) := by decide +kernel
theorem d1_28 : decode prog_65_method_1_code 28 = .ok (.putfield 23, 3) := by decide +kernel
theorem d1_31 : decode prog_65_method_1_code 31 = .ok (.aload_n 0, 1) := by decide +kernel
theorem d1_32 : decode prog_65_method_1_code 32 = .ok (.dload 9, 2) := by decide +kernel
theorem d1_34 : decode prog_65_method_1_code 34 = .ok (.putfield 26, 3) := by decide +kernel
theorem d1_37 : decode prog_65_method_1_code 37 = .ok (.aload_n 0, 1) := by decide +kernel
theorem d1_38 : decode prog_65_method_1_code 38 = .ok (.dload 11, 2) := by decide +kernel
theorem d1_40 : decode prog_65_method_1_code 40 = .ok (.putfield 29, 3) := by decide +kernel
theorem d1_43 : decode prog_65_method_1_code 43 = .ok (.aload_n 0, 1) := by decide +kernel
theorem d1_44 : decode prog_65_method_1_code 44 = .ok (.dload 13, 2) := by decide +kernel
theorem d1_46 : decode prog_65_method_1_code 46 = .ok (.putfield 32, 3) := by decide +kernel
theorem d1_49 : decode prog_65_method_1_code 49 = .ok (.aload_n 0, 1) := by decide +kernel
theorem d1_50 : decode prog_65_method_1_code 50 = .ok (.aload 15, 2) := by decide +kernel
theorem d1_52 : decode prog_65_method_1_code 52 = .ok (.putfield 35, 3) := by decide +kernel
theorem d1_55 : decode prog_65_method_1_code 55 = .ok (.return_, 1) := by decide +kernel
theorem ef_s_init (m : MethodId) (x0 : Addr) (x1 : Int32) (x2 : Int32) (x3 : UInt64) (x4 : UInt64) (x5 : UInt64) (x6 : UInt64) (x7 : UInt64) (x8 : UInt64) (x9 : Addr) : entryFrame m #[(.ref x0), (.int x1), (.int x2), (.double x3), (.double x4), (.double x5), (.double x6), (.double x7), (.double x8), (.ref x9)] 16 = mkF m 0 #[.val (.ref x0), .val (.int x1), .val (.int x2), .val (.double x3), .second, .val (.double x4), .second, .val (.double x5), .second, .val (.double x6), .second, .val (.double x7), .second, .val (.double x8), .second, .val (.ref x9)] [] := by first | (simp [entryFrame, mkF, argsToLocals, Value.category]; done) | rfl | (simp [entryFrame, mkF, argsToLocals, *]; done)
def Q_s_init (Z : State) (ca : Addr) (c0 : Int32) (c1 : Int32) (c2 : UInt64) (c3 : UInt64) (c4 : UInt64) (c5 : UInt64) (c6 : UInt64) (c7 : UInt64) (c8 : Addr) (cu0 : Value) (cu1 : Value) (cu2 : Value) (cu3 : Value) (cu4 : Value) (cu5 : Value) (cu6 : Value) (cu7 : Value) (cu8 : Value) (h0 : Heap) (n0 : Nat) (v : Option Value) (h : Heap) (L : List Loc) : Prop := v = none ∧ Fr n0 L ∧ Keep h0 h [ca] ∧ Exa Z h ca "com/example/sortie/sortie/solver/Segment" ∧ Fld Z h ca "com/example/sortie/sortie/solver/Segment" "load" "D" (.double c7) ∧ Fld Z h ca "com/example/sortie/sortie/solver/Segment" "moreLoads" "[D" (.ref c8)
set_option maxRecDepth 65536 in
set_option maxHeartbeats 40000000 in
theorem s_init (l : Launch) (Z : State) (a0 : Array Value) (hw : ∀ d ∈ tables_1, d.before a0 Z = true) (ws : List Jvm.Cond) (ca : Addr) (c0 : Int32) (c1 : Int32) (c2 : UInt64) (c3 : UInt64) (c4 : UInt64) (c5 : UInt64) (c6 : UInt64) (c7 : UInt64) (c8 : Addr) (cu0 : Value) (cu1 : Value) (cu2 : Value) (cu3 : Value) (cu4 : Value) (cu5 : Value) (cu6 : Value) (cu7 : Value) (cu8 : Value) (h0 : Heap) (n0 : Nat) (Z0 : n0 ≤ h0.size) (F0_ca : Exa Z h0 ca "com/example/sortie/sortie/solver/Segment") (F1_ca_first : Fld Z h0 ca "com/example/sortie/sortie/solver/Segment" "first" "I" cu0) (F2_ca_last : Fld Z h0 ca "com/example/sortie/sortie/solver/Segment" "last" "I" cu1) (F3_ca_duration : Fld Z h0 ca "com/example/sortie/sortie/solver/Segment" "duration" "D" cu2) (F4_ca_timeWarp : Fld Z h0 ca "com/example/sortie/sortie/solver/Segment" "timeWarp" "D" cu3) (F5_ca_earliest : Fld Z h0 ca "com/example/sortie/sortie/solver/Segment" "earliest" "D" cu4) (F6_ca_latest : Fld Z h0 ca "com/example/sortie/sortie/solver/Segment" "latest" "D" cu5) (F7_ca_distance : Fld Z h0 ca "com/example/sortie/sortie/solver/Segment" "distance" "D" cu6) (F8_ca_load : Fld Z h0 ca "com/example/sortie/sortie/solver/Segment" "load" "D" cu7) (F9_ca_moreLoads : Fld Z h0 ca "com/example/sortie/sortie/solver/Segment" "moreLoads" "[D" cu8) (hp0 : n0 ≤ ca) :
    MetFree l (⟨"com/example/sortie/sortie/solver/Segment", "<init>", "(IIDDDDDD[D)V"⟩ : MethodName) (head1 (Jvm.Cond.code (⟨"com/example/sortie/sortie/solver/Segment", "<init>", "(IIDDDDDD[D)V"⟩ : MethodName) prog_65_method_1_code 16 none :: ws) ({ frames := 2, cells := 0, slots := 0, locals := 24 } : Room)) (fun a U => a = #[(.ref ca), (.int c0), (.int c1), (.double c2), (.double c3), (.double c4), (.double c5), (.double c6), (.double c7), (.ref c8)] ∧ Z.Warmed39 U.vm ∧ U.heap = h0) (fun _ _ _ _ _ => True) (fun _ U o U' => ∃ v L, o = .returned v ∧ Q_s_init Z ca c0 c1 c2 c3 c4 c5 c6 c7 c8 cu0 cu1 cu2 cu3 cu4 cu5 cu6 cu7 cu8 h0 n0 v U'.heap L ∧ FrameEnd U o U' L ({ frames := 2, cells := 0, slots := 0, locals := 24 } : Room).cells ({ frames := 2, cells := 0, slots := 0, locals := 24 } : Room).slots) := by
  refine MetFree.of_bodySF (plainFor_of_name pn_1) hisR ?_
  intro p e s m args below meth c s₁ Bd hml0 hP hK
  obtain ⟨rfl, hZ, hh⟩ := hP
  have hx := Bd.exec
  have hby := Bd.bytes
  have hml : c.maxLocals = 16 := hml0
  have hown : s.vm.findClass "com/example/sortie/sortie/solver/Segment" = some m.cls := findClass_of_methodNamed Bd.named
  have hnm := (name_of_methodNamed Bd.named Bd.method).1
  have X0 : Stand p l e ({ frames := 2, cells := 0, slots := 0, locals := 24 } : Room) s m #[(.ref ca), (.int c0), (.int c1), (.double c2), (.double c3), (.double c4), (.double c5), (.double c6), (.double c7), (.ref c8)] below meth c s₁ [] 0 0 := Stand.of_body Bd
  have e0 : s₁.heap = h0 := by rw [← hh, Bd.state]; rfl
  have N0 := Fr.nil n0
  obtain ⟨G, hG⟩ : ∃ G : State → Prop, G = (fun U' => ∃ o, U'.status = .running ∧ Ended U' below o ∧ ∃ v L, o = .returned v ∧ Q_s_init Z ca c0 c1 c2 c3 c4 c5 c6 c7 c8 cu0 cu1 cu2 cu3 cu4 cu5 cu6 cu7 cu8 h0 n0 v U'.heap L ∧ FrameEnd s o U' L ({ frames := 2, cells := 0, slots := 0, locals := 24 } : Room).cells ({ frames := 2, cells := 0, slots := 0, locals := 24 } : Room).slots) := ⟨_, rfl⟩
  suffices key : Gl p.tables e below s₁ (mkF m 0 #[.val (.ref ca), .val (.int c0), .val (.int c1), .val (.double c2), .second, .val (.double c3), .second, .val (.double c4), .second, .val (.double c5), .second, .val (.double c6), .second, .val (.double c7), .second, .val (.ref c8)] []) G by
    obtain ⟨s₂, k1, k2⟩ := key
    rw [hG] at k2
    obtain ⟨o, k3, k4, k5⟩ := k2
    exact ⟨s₂, o, castTop (ef_s_init m ca c0 c1 c2 c3 c4 c5 c6 c7 c8) k1, k3, k4, k5⟩
  show Gl p.tables e below s₁ (mkF m 0 #[.val (.ref ca), .val (.int c0), .val (.int c1), .val (.double c2), .second, .val (.double c3), .second, .val (.double c4), .second, .val (.double c5), .second, .val (.double c6), .second, .val (.double c7), .second, .val (.ref c8)] []) G
  refine Gl.via (fun _ k => XS.aloadN X0.here hx rfl (hb hby d1_0) rfl rfl k) ?_
  show Gl p.tables e below s₁ (mkF m 1 #[.val (.ref ca), .val (.int c0), .val (.int c1), .val (.double c2), .second, .val (.double c3), .second, .val (.double c4), .second, .val (.double c5), .second, .val (.double c6), .second, .val (.double c7), .second, .val (.ref c8)] [(.ref ca)]) G
  obtain ⟨_, _, ⟨T1, L1, k1, n1⟩, -, X1, ⟨Lc1, hQ1, l1, y1, z1⟩, st1⟩ := X0.specialBack hx (y := (⟨"java/lang/Record", "<init>", "()V"⟩ : MethodName)) rfl hown (mvT hZ (hw _ (List.mem_of_getElem? (i := 7) rfl))) (mvT hZ (hw _ (List.mem_of_getElem? (i := 8) rfl))) (mvT hZ (hw _ (List.mem_of_getElem? (i := 11) rfl))) (by decide) (backOf (W := 0) (rec_init l Z a0 hw [] ca h0 n0 Z0 ) hZ (hw _ (List.mem_of_getElem? (i := 11) rfl)) (hw _ (List.mem_of_getElem? (i := 10) rfl)) (by decide) (by decide)) (g := (mkF m 1 #[.val (.ref ca), .val (.int c0), .val (.int c1), .val (.double c2), .second, .val (.double c3), .second, .val (.double c4), .second, .val (.double c5), .second, .val (.double c6), .second, .val (.double c7), .second, .val (.ref c8)] [(.ref ca)])) rfl (by rw [hml]; rfl) (Steps.refl _) (a := ca) (argsL := []) (rest := []) (lenOf pd_0 rfl) rfl (by show 2 * 0 + _ ≤ _; exact Nat.le_of_eq rfl) (hb hby d1_1) (fun _ _ => ⟨rfl, e0, (by decide : 0 + 0 ≤ _), (by decide : 0 + 0 ≤ _)⟩)
  dsimp only [Pt.U, Pt.locs, Pt.cells, Pt.slots] at X1 l1 y1 z1 st1 hQ1
  subst l1 y1 z1
  obtain ⟨rfl, N1q, eh1⟩ := hQ1
  have N1_ := Fr.app N0 N1q
  refine Gl.via (fun _ k => st1.trans k) ?_
  show Gl p.tables e below T1 (mkF m 4 #[.val (.ref ca), .val (.int c0), .val (.int c1), .val (.double c2), .second, .val (.double c3), .second, .val (.double c4), .second, .val (.double c5), .second, .val (.double c6), .second, .val (.double c7), .second, .val (.ref c8)] []) G
  refine Gl.via (fun _ k => XS.aloadN X1.here hx rfl (hb hby d1_4) rfl rfl k) ?_
  show Gl p.tables e below T1 (mkF m 5 #[.val (.ref ca), .val (.int c0), .val (.int c1), .val (.double c2), .second, .val (.double c3), .second, .val (.double c4), .second, .val (.double c5), .second, .val (.double c6), .second, .val (.double c7), .second, .val (.ref c8)] [(.ref ca)]) G
  refine Gl.via (fun _ k => XS.iloadN X1.here hx rfl (hb hby d1_5) rfl k) ?_
  show Gl p.tables e below T1 (mkF m 6 #[.val (.ref ca), .val (.int c0), .val (.int c1), .val (.double c2), .second, .val (.double c3), .second, .val (.double c4), .second, .val (.double c5), .second, .val (.double c6), .second, .val (.double c7), .second, .val (.ref c8)] [(.int c0), (.ref ca)]) G
  obtain ⟨T2, h2, X2, e2, W2, st2⟩ := putF X1 hx hZ hown (host := "") (Or.inl (hw _ (List.mem_of_getElem? (i := 15) rfl))) Via.refl eh1 F1_ca_first F0_ca (Or.inr ⟨(hw _ (List.mem_of_getElem? (i := 16) rfl)), rfl, hnm⟩) (hw _ (List.mem_of_getElem? (i := 2) rfl)) (ty := .int) (by decide) rfl rfl (g := (mkF m 6 #[.val (.ref ca), .val (.int c0), .val (.int c1), .val (.double c2), .second, .val (.double c3), .second, .val (.double c4), .second, .val (.double c5), .second, .val (.double c6), .second, .val (.double c7), .second, .val (.ref c8)] [(.int c0), (.ref ca)])) rfl rfl (hb hby d1_6)
  refine Gl.via st2 ?_
  have N2_ := Fr.snoc X2 N1_ hp0
  have Z3 : n0 ≤ h2.size := Nat.le_trans Z0 (Keep.of_wr W2).1
  have Y4 : h0.size ≤ h2.size := Nat.le_trans (Nat.le_refl h0.size) (Keep.of_wr W2).1
  show Gl p.tables e below T2 (mkF m 9 #[.val (.ref ca), .val (.int c0), .val (.int c1), .val (.double c2), .second, .val (.double c3), .second, .val (.double c4), .second, .val (.double c5), .second, .val (.double c6), .second, .val (.double c7), .second, .val (.ref c8)] []) G
  refine Gl.via (fun _ k => XS.aloadN X2.here hx rfl (hb hby d1_9) rfl rfl k) ?_
  show Gl p.tables e below T2 (mkF m 10 #[.val (.ref ca), .val (.int c0), .val (.int c1), .val (.double c2), .second, .val (.double c3), .second, .val (.double c4), .second, .val (.double c5), .second, .val (.double c6), .second, .val (.double c7), .second, .val (.ref c8)] [(.ref ca)]) G
  refine Gl.via (fun _ k => XS.iloadN X2.here hx rfl (hb hby d1_10) rfl k) ?_
  show Gl p.tables e below T2 (mkF m 11 #[.val (.ref ca), .val (.int c0), .val (.int c1), .val (.double c2), .second, .val (.double c3), .second, .val (.double c4), .second, .val (.double c5), .second, .val (.double c6), .second, .val (.double c7), .second, .val (.ref c8)] [(.int c1), (.ref ca)]) G
  have G5 : Fld Z h2 ca "com/example/sortie/sortie/solver/Segment" "last" "I" cu1 := (F2_ca_last.other W2 (Or.inr (slot_ne (Or.inr (hw _ (List.mem_of_getElem? (i := 18) rfl))) (Or.inr (hw _ (List.mem_of_getElem? (i := 16) rfl))) (by decide) (t := .int) (t' := .int) (by decide) (by decide))))
  have G6 : Exa Z h2 ca "com/example/sortie/sortie/solver/Segment" := (F0_ca.wr W2)
  obtain ⟨T7, h7, X7, e7, W7, st7⟩ := putF X2 hx hZ hown (host := "") (Or.inl (hw _ (List.mem_of_getElem? (i := 17) rfl))) Via.refl e2 G5 G6 (Or.inr ⟨(hw _ (List.mem_of_getElem? (i := 18) rfl)), rfl, hnm⟩) (hw _ (List.mem_of_getElem? (i := 2) rfl)) (ty := .int) (by decide) rfl rfl (g := (mkF m 11 #[.val (.ref ca), .val (.int c0), .val (.int c1), .val (.double c2), .second, .val (.double c3), .second, .val (.double c4), .second, .val (.double c5), .second, .val (.double c6), .second, .val (.double c7), .second, .val (.ref c8)] [(.int c1), (.ref ca)])) rfl rfl (hb hby d1_11)
  refine Gl.via st7 ?_
  have N7_ := Fr.snoc X7 N2_ hp0
  have Z8 : n0 ≤ h7.size := Nat.le_trans Z3 (Keep.of_wr W7).1
  have Y9 : h0.size ≤ h7.size := Nat.le_trans Y4 (Keep.of_wr W7).1
  show Gl p.tables e below T7 (mkF m 14 #[.val (.ref ca), .val (.int c0), .val (.int c1), .val (.double c2), .second, .val (.double c3), .second, .val (.double c4), .second, .val (.double c5), .second, .val (.double c6), .second, .val (.double c7), .second, .val (.ref c8)] []) G
  refine Gl.via (fun _ k => XS.aloadN X7.here hx rfl (hb hby d1_14) rfl rfl k) ?_
  show Gl p.tables e below T7 (mkF m 15 #[.val (.ref ca), .val (.int c0), .val (.int c1), .val (.double c2), .second, .val (.double c3), .second, .val (.double c4), .second, .val (.double c5), .second, .val (.double c6), .second, .val (.double c7), .second, .val (.ref c8)] [(.ref ca)]) G
  refine Gl.via (fun _ k => XS.dloadN X7.here hx rfl (hb hby d1_15) rfl k) ?_
  show Gl p.tables e below T7 (mkF m 16 #[.val (.ref ca), .val (.int c0), .val (.int c1), .val (.double c2), .second, .val (.double c3), .second, .val (.double c4), .second, .val (.double c5), .second, .val (.double c6), .second, .val (.double c7), .second, .val (.ref c8)] [(.double c2), (.ref ca)]) G
  have G10 : Fld Z h7 ca "com/example/sortie/sortie/solver/Segment" "duration" "D" cu2 := ((F3_ca_duration.other W2 (Or.inr (slot_ne (Or.inr (hw _ (List.mem_of_getElem? (i := 20) rfl))) (Or.inr (hw _ (List.mem_of_getElem? (i := 16) rfl))) (by decide) (t := .double) (t' := .int) (by decide) (by decide)))).other W7 (Or.inr (slot_ne (Or.inr (hw _ (List.mem_of_getElem? (i := 20) rfl))) (Or.inr (hw _ (List.mem_of_getElem? (i := 18) rfl))) (by decide) (t := .double) (t' := .int) (by decide) (by decide))))
  have G11 : Exa Z h7 ca "com/example/sortie/sortie/solver/Segment" := (G6.wr W7)
  obtain ⟨T12, h12, X12, e12, W12, st12⟩ := putF X7 hx hZ hown (host := "") (Or.inl (hw _ (List.mem_of_getElem? (i := 19) rfl))) Via.refl e7 G10 G11 (Or.inr ⟨(hw _ (List.mem_of_getElem? (i := 20) rfl)), rfl, hnm⟩) (hw _ (List.mem_of_getElem? (i := 2) rfl)) (ty := .double) (by decide) rfl rfl (g := (mkF m 16 #[.val (.ref ca), .val (.int c0), .val (.int c1), .val (.double c2), .second, .val (.double c3), .second, .val (.double c4), .second, .val (.double c5), .second, .val (.double c6), .second, .val (.double c7), .second, .val (.ref c8)] [(.double c2), (.ref ca)])) rfl rfl (hb hby d1_16)
  refine Gl.via st12 ?_
  have N12_ := Fr.snoc X12 N7_ hp0
  have Z13 : n0 ≤ h12.size := Nat.le_trans Z8 (Keep.of_wr W12).1
  have Y14 : h0.size ≤ h12.size := Nat.le_trans Y9 (Keep.of_wr W12).1
  show Gl p.tables e below T12 (mkF m 19 #[.val (.ref ca), .val (.int c0), .val (.int c1), .val (.double c2), .second, .val (.double c3), .second, .val (.double c4), .second, .val (.double c5), .second, .val (.double c6), .second, .val (.double c7), .second, .val (.ref c8)] []) G
  refine Gl.via (fun _ k => XS.aloadN X12.here hx rfl (hb hby d1_19) rfl rfl k) ?_
  show Gl p.tables e below T12 (mkF m 20 #[.val (.ref ca), .val (.int c0), .val (.int c1), .val (.double c2), .second, .val (.double c3), .second, .val (.double c4), .second, .val (.double c5), .second, .val (.double c6), .second, .val (.double c7), .second, .val (.ref c8)] [(.ref ca)]) G
  refine Gl.via (fun _ k => XS.dload X12.here hx rfl (hb hby d1_20) rfl k) ?_
  show Gl p.tables e below T12 (mkF m 22 #[.val (.ref ca), .val (.int c0), .val (.int c1), .val (.double c2), .second, .val (.double c3), .second, .val (.double c4), .second, .val (.double c5), .second, .val (.double c6), .second, .val (.double c7), .second, .val (.ref c8)] [(.double c3), (.ref ca)]) G
  have G15 : Fld Z h12 ca "com/example/sortie/sortie/solver/Segment" "timeWarp" "D" cu3 := (((F4_ca_timeWarp.other W2 (Or.inr (slot_ne (Or.inr (hw _ (List.mem_of_getElem? (i := 22) rfl))) (Or.inr (hw _ (List.mem_of_getElem? (i := 16) rfl))) (by decide) (t := .double) (t' := .int) (by decide) (by decide)))).other W7 (Or.inr (slot_ne (Or.inr (hw _ (List.mem_of_getElem? (i := 22) rfl))) (Or.inr (hw _ (List.mem_of_getElem? (i := 18) rfl))) (by decide) (t := .double) (t' := .int) (by decide) (by decide)))).other W12 (Or.inr (slot_ne (Or.inr (hw _ (List.mem_of_getElem? (i := 22) rfl))) (Or.inr (hw _ (List.mem_of_getElem? (i := 20) rfl))) (by decide) (t := .double) (t' := .double) (by decide) (by decide))))
  have G16 : Exa Z h12 ca "com/example/sortie/sortie/solver/Segment" := (G11.wr W12)
  obtain ⟨T17, h17, X17, e17, W17, st17⟩ := putF X12 hx hZ hown (host := "") (Or.inl (hw _ (List.mem_of_getElem? (i := 21) rfl))) Via.refl e12 G15 G16 (Or.inr ⟨(hw _ (List.mem_of_getElem? (i := 22) rfl)), rfl, hnm⟩) (hw _ (List.mem_of_getElem? (i := 2) rfl)) (ty := .double) (by decide) rfl rfl (g := (mkF m 22 #[.val (.ref ca), .val (.int c0), .val (.int c1), .val (.double c2), .second, .val (.double c3), .second, .val (.double c4), .second, .val (.double c5), .second, .val (.double c6), .second, .val (.double c7), .second, .val (.ref c8)] [(.double c3), (.ref ca)])) rfl rfl (hb hby d1_22)
  refine Gl.via st17 ?_
  have N17_ := Fr.snoc X17 N12_ hp0
  have Z18 : n0 ≤ h17.size := Nat.le_trans Z13 (Keep.of_wr W17).1
  have Y19 : h0.size ≤ h17.size := Nat.le_trans Y14 (Keep.of_wr W17).1
  show Gl p.tables e below T17 (mkF m 25 #[.val (.ref ca), .val (.int c0), .val (.int c1), .val (.double c2), .second, .val (.double c3), .second, .val (.double c4), .second, .val (.double c5), .second, .val (.double c6), .second, .val (.double c7), .second, .val (.ref c8)] []) G
  refine Gl.via (fun _ k => XS.aloadN X17.here hx rfl (hb hby d1_25) rfl rfl k) ?_
  show Gl p.tables e below T17 (mkF m 26 #[.val (.ref ca), .val (.int c0), .val (.int c1), .val (.double c2), .second, .val (.double c3), .second, .val (.double c4), .second, .val (.double c5), .second, .val (.double c6), .second, .val (.double c7), .second, .val (.ref c8)] [(.ref ca)]) G
  refine Gl.via (fun _ k => XS.dload X17.here hx rfl (hb hby d1_26) rfl k) ?_
  show Gl p.tables e below T17 (mkF m 28 #[.val (.ref ca), .val (.int c0), .val (.int c1), .val (.double c2), .second, .val (.double c3), .second, .val (.double c4), .second, .val (.double c5), .second, .val (.double c6), .second, .val (.double c7), .second, .val (.ref c8)] [(.double c4), (.ref ca)]) G
  have G20 : Fld Z h17 ca "com/example/sortie/sortie/solver/Segment" "earliest" "D" cu4 := ((((F5_ca_earliest.other W2 (Or.inr (slot_ne (Or.inr (hw _ (List.mem_of_getElem? (i := 24) rfl))) (Or.inr (hw _ (List.mem_of_getElem? (i := 16) rfl))) (by decide) (t := .double) (t' := .int) (by decide) (by decide)))).other W7 (Or.inr (slot_ne (Or.inr (hw _ (List.mem_of_getElem? (i := 24) rfl))) (Or.inr (hw _ (List.mem_of_getElem? (i := 18) rfl))) (by decide) (t := .double) (t' := .int) (by decide) (by decide)))).other W12 (Or.inr (slot_ne (Or.inr (hw _ (List.mem_of_getElem? (i := 24) rfl))) (Or.inr (hw _ (List.mem_of_getElem? (i := 20) rfl))) (by decide) (t := .double) (t' := .double) (by decide) (by decide)))).other W17 (Or.inr (slot_ne (Or.inr (hw _ (List.mem_of_getElem? (i := 24) rfl))) (Or.inr (hw _ (List.mem_of_getElem? (i := 22) rfl))) (by decide) (t := .double) (t' := .double) (by decide) (by decide))))
  have G21 : Exa Z h17 ca "com/example/sortie/sortie/solver/Segment" := (G16.wr W17)
  obtain ⟨T22, h22, X22, e22, W22, st22⟩ := putF X17 hx hZ hown (host := "") (Or.inl (hw _ (List.mem_of_getElem? (i := 23) rfl))) Via.refl e17 G20 G21 (Or.inr ⟨(hw _ (List.mem_of_getElem? (i := 24) rfl)), rfl, hnm⟩) (hw _ (List.mem_of_getElem? (i := 2) rfl)) (ty := .double) (by decide) rfl rfl (g := (mkF m 28 #[.val (.ref ca), .val (.int c0), .val (.int c1), .val (.double c2), .second, .val (.double c3), .second, .val (.double c4), .second, .val (.double c5), .second, .val (.double c6), .second, .val (.double c7), .second, .val (.ref c8)] [(.double c4), (.ref ca)])) rfl rfl (hb hby d1_28)
  refine Gl.via st22 ?_
  have N22_ := Fr.snoc X22 N17_ hp0
  have Z23 : n0 ≤ h22.size := Nat.le_trans Z18 (Keep.of_wr W22).1
  have Y24 : h0.size ≤ h22.size := Nat.le_trans Y19 (Keep.of_wr W22).1
  show Gl p.tables e below T22 (mkF m 31 #[.val (.ref ca), .val (.int c0), .val (.int c1), .val (.double c2), .second, .val (.double c3), .second, .val (.double c4), .second, .val (.double c5), .second, .val (.double c6), .second, .val (.double c7), .second, .val (.ref c8)] []) G
  refine Gl.via (fun _ k => XS.aloadN X22.here hx rfl (hb hby d1_31) rfl rfl k) ?_
  show Gl p.tables e below T22 (mkF m 32 #[.val (.ref ca), .val (.int c0), .val (.int c1), .val (.double c2), .second, .val (.double c3), .second, .val (.double c4), .second, .val (.double c5), .second, .val (.double c6), .second, .val (.double c7), .second, .val (.ref c8)] [(.ref ca)]) G
  refine Gl.via (fun _ k => XS.dload X22.here hx rfl (hb hby d1_32) rfl k) ?_
  show Gl p.tables e below T22 (mkF m 34 #[.val (.ref ca), .val (.int c0), .val (.int c1), .val (.double c2), .second, .val (.double c3), .second, .val (.double c4), .second, .val (.double c5), .second, .val (.double c6), .second, .val (.double c7), .second, .val (.ref c8)] [(.double c5), (.ref ca)]) G
  have G25 : Fld Z h22 ca "com/example/sortie/sortie/solver/Segment" "latest" "D" cu5 := (((((F6_ca_latest.other W2 (Or.inr (slot_ne (Or.inr (hw _ (List.mem_of_getElem? (i := 26) rfl))) (Or.inr (hw _ (List.mem_of_getElem? (i := 16) rfl))) (by decide) (t := .double) (t' := .int) (by decide) (by decide)))).other W7 (Or.inr (slot_ne (Or.inr (hw _ (List.mem_of_getElem? (i := 26) rfl))) (Or.inr (hw _ (List.mem_of_getElem? (i := 18) rfl))) (by decide) (t := .double) (t' := .int) (by decide) (by decide)))).other W12 (Or.inr (slot_ne (Or.inr (hw _ (List.mem_of_getElem? (i := 26) rfl))) (Or.inr (hw _ (List.mem_of_getElem? (i := 20) rfl))) (by decide) (t := .double) (t' := .double) (by decide) (by decide)))).other W17 (Or.inr (slot_ne (Or.inr (hw _ (List.mem_of_getElem? (i := 26) rfl))) (Or.inr (hw _ (List.mem_of_getElem? (i := 22) rfl))) (by decide) (t := .double) (t' := .double) (by decide) (by decide)))).other W22 (Or.inr (slot_ne (Or.inr (hw _ (List.mem_of_getElem? (i := 26) rfl))) (Or.inr (hw _ (List.mem_of_getElem? (i := 24) rfl))) (by decide) (t := .double) (t' := .double) (by decide) (by decide))))
  have G26 : Exa Z h22 ca "com/example/sortie/sortie/solver/Segment" := (G21.wr W22)
  obtain ⟨T27, h27, X27, e27, W27, st27⟩ := putF X22 hx hZ hown (host := "") (Or.inl (hw _ (List.mem_of_getElem? (i := 25) rfl))) Via.refl e22 G25 G26 (Or.inr ⟨(hw _ (List.mem_of_getElem? (i := 26) rfl)), rfl, hnm⟩) (hw _ (List.mem_of_getElem? (i := 2) rfl)) (ty := .double) (by decide) rfl rfl (g := (mkF m 34 #[.val (.ref ca), .val (.int c0), .val (.int c1), .val (.double c2), .second, .val (.double c3), .second, .val (.double c4), .second, .val (.double c5), .second, .val (.double c6), .second, .val (.double c7), .second, .val (.ref c8)] [(.double c5), (.ref ca)])) rfl rfl (hb hby d1_34)
  refine Gl.via st27 ?_
  have N27_ := Fr.snoc X27 N22_ hp0
  have Z28 : n0 ≤ h27.size := Nat.le_trans Z23 (Keep.of_wr W27).1
  have Y29 : h0.size ≤ h27.size := Nat.le_trans Y24 (Keep.of_wr W27).1
  show Gl p.tables e below T27 (mkF m 37 #[.val (.ref ca), .val (.int c0), .val (.int c1), .val (.double c2), .second, .val (.double c3), .second, .val (.double c4), .second, .val (.double c5), .second, .val (.double c6), .second, .val (.double c7), .second, .val (.ref c8)] []) G
  refine Gl.via (fun _ k => XS.aloadN X27.here hx rfl (hb hby d1_37) rfl rfl k) ?_
  show Gl p.tables e below T27 (mkF m 38 #[.val (.ref ca), .val (.int c0), .val (.int c1), .val (.double c2), .second, .val (.double c3), .second, .val (.double c4), .second, .val (.double c5), .second, .val (.double c6), .second, .val (.double c7), .second, .val (.ref c8)] [(.ref ca)]) G
  refine Gl.via (fun _ k => XS.dload X27.here hx rfl (hb hby d1_38) rfl k) ?_
  show Gl p.tables e below T27 (mkF m 40 #[.val (.ref ca), .val (.int c0), .val (.int c1), .val (.double c2), .second, .val (.double c3), .second, .val (.double c4), .second, .val (.double c5), .second, .val (.double c6), .second, .val (.double c7), .second, .val (.ref c8)] [(.double c6), (.ref ca)]) G
  have G30 : Fld Z h27 ca "com/example/sortie/sortie/solver/Segment" "distance" "D" cu6 := ((((((F7_ca_distance.other W2 (Or.inr (slot_ne (Or.inr (hw _ (List.mem_of_getElem? (i := 28) rfl))) (Or.inr (hw _ (List.mem_of_getElem? (i := 16) rfl))) (by decide) (t := .double) (t' := .int) (by decide) (by decide)))).other W7 (Or.inr (slot_ne (Or.inr (hw _ (List.mem_of_getElem? (i := 28) rfl))) (Or.inr (hw _ (List.mem_of_getElem? (i := 18) rfl))) (by decide) (t := .double) (t' := .int) (by decide) (by decide)))).other W12 (Or.inr (slot_ne (Or.inr (hw _ (List.mem_of_getElem? (i := 28) rfl))) (Or.inr (hw _ (List.mem_of_getElem? (i := 20) rfl))) (by decide) (t := .double) (t' := .double) (by decide) (by decide)))).other W17 (Or.inr (slot_ne (Or.inr (hw _ (List.mem_of_getElem? (i := 28) rfl))) (Or.inr (hw _ (List.mem_of_getElem? (i := 22) rfl))) (by decide) (t := .double) (t' := .double) (by decide) (by decide)))).other W22 (Or.inr (slot_ne (Or.inr (hw _ (List.mem_of_getElem? (i := 28) rfl))) (Or.inr (hw _ (List.mem_of_getElem? (i := 24) rfl))) (by decide) (t := .double) (t' := .double) (by decide) (by decide)))).other W27 (Or.inr (slot_ne (Or.inr (hw _ (List.mem_of_getElem? (i := 28) rfl))) (Or.inr (hw _ (List.mem_of_getElem? (i := 26) rfl))) (by decide) (t := .double) (t' := .double) (by decide) (by decide))))
  have G31 : Exa Z h27 ca "com/example/sortie/sortie/solver/Segment" := (G26.wr W27)
  obtain ⟨T32, h32, X32, e32, W32, st32⟩ := putF X27 hx hZ hown (host := "") (Or.inl (hw _ (List.mem_of_getElem? (i := 27) rfl))) Via.refl e27 G30 G31 (Or.inr ⟨(hw _ (List.mem_of_getElem? (i := 28) rfl)), rfl, hnm⟩) (hw _ (List.mem_of_getElem? (i := 2) rfl)) (ty := .double) (by decide) rfl rfl (g := (mkF m 40 #[.val (.ref ca), .val (.int c0), .val (.int c1), .val (.double c2), .second, .val (.double c3), .second, .val (.double c4), .second, .val (.double c5), .second, .val (.double c6), .second, .val (.double c7), .second, .val (.ref c8)] [(.double c6), (.ref ca)])) rfl rfl (hb hby d1_40)
  refine Gl.via st32 ?_
  have N32_ := Fr.snoc X32 N27_ hp0
  have Z33 : n0 ≤ h32.size := Nat.le_trans Z28 (Keep.of_wr W32).1
  have Y34 : h0.size ≤ h32.size := Nat.le_trans Y29 (Keep.of_wr W32).1
  show Gl p.tables e below T32 (mkF m 43 #[.val (.ref ca), .val (.int c0), .val (.int c1), .val (.double c2), .second, .val (.double c3), .second, .val (.double c4), .second, .val (.double c5), .second, .val (.double c6), .second, .val (.double c7), .second, .val (.ref c8)] []) G
  refine Gl.via (fun _ k => XS.aloadN X32.here hx rfl (hb hby d1_43) rfl rfl k) ?_
  show Gl p.tables e below T32 (mkF m 44 #[.val (.ref ca), .val (.int c0), .val (.int c1), .val (.double c2), .second, .val (.double c3), .second, .val (.double c4), .second, .val (.double c5), .second, .val (.double c6), .second, .val (.double c7), .second, .val (.ref c8)] [(.ref ca)]) G
  refine Gl.via (fun _ k => XS.dload X32.here hx rfl (hb hby d1_44) rfl k) ?_
  show Gl p.tables e below T32 (mkF m 46 #[.val (.ref ca), .val (.int c0), .val (.int c1), .val (.double c2), .second, .val (.double c3), .second, .val (.double c4), .second, .val (.double c5), .second, .val (.double c6), .second, .val (.double c7), .second, .val (.ref c8)] [(.double c7), (.ref ca)]) G
  have G35 : Fld Z h32 ca "com/example/sortie/sortie/solver/Segment" "load" "D" cu7 := (((((((F8_ca_load.other W2 (Or.inr (slot_ne (Or.inr (hw _ (List.mem_of_getElem? (i := 30) rfl))) (Or.inr (hw _ (List.mem_of_getElem? (i := 16) rfl))) (by decide) (t := .double) (t' := .int) (by decide) (by decide)))).other W7 (Or.inr (slot_ne (Or.inr (hw _ (List.mem_of_getElem? (i := 30) rfl))) (Or.inr (hw _ (List.mem_of_getElem? (i := 18) rfl))) (by decide) (t := .double) (t' := .int) (by decide) (by decide)))).other W12 (Or.inr (slot_ne (Or.inr (hw _ (List.mem_of_getElem? (i := 30) rfl))) (Or.inr (hw _ (List.mem_of_getElem? (i := 20) rfl))) (by decide) (t := .double) (t' := .double) (by decide) (by decide)))).other W17 (Or.inr (slot_ne (Or.inr (hw _ (List.mem_of_getElem? (i := 30) rfl))) (Or.inr (hw _ (List.mem_of_getElem? (i := 22) rfl))) (by decide) (t := .double) (t' := .double) (by decide) (by decide)))).other W22 (Or.inr (slot_ne (Or.inr (hw _ (List.mem_of_getElem? (i := 30) rfl))) (Or.inr (hw _ (List.mem_of_getElem? (i := 24) rfl))) (by decide) (t := .double) (t' := .double) (by decide) (by decide)))).other W27 (Or.inr (slot_ne (Or.inr (hw _ (List.mem_of_getElem? (i := 30) rfl))) (Or.inr (hw _ (List.mem_of_getElem? (i := 26) rfl))) (by decide) (t := .double) (t' := .double) (by decide) (by decide)))).other W32 (Or.inr (slot_ne (Or.inr (hw _ (List.mem_of_getElem? (i := 30) rfl))) (Or.inr (hw _ (List.mem_of_getElem? (i := 28) rfl))) (by decide) (t := .double) (t' := .double) (by decide) (by decide))))
  have G36 : Exa Z h32 ca "com/example/sortie/sortie/solver/Segment" := (G31.wr W32)
  obtain ⟨T37, h37, X37, e37, W37, st37⟩ := putF X32 hx hZ hown (host := "") (Or.inl (hw _ (List.mem_of_getElem? (i := 29) rfl))) Via.refl e32 G35 G36 (Or.inr ⟨(hw _ (List.mem_of_getElem? (i := 30) rfl)), rfl, hnm⟩) (hw _ (List.mem_of_getElem? (i := 2) rfl)) (ty := .double) (by decide) rfl rfl (g := (mkF m 46 #[.val (.ref ca), .val (.int c0), .val (.int c1), .val (.double c2), .second, .val (.double c3), .second, .val (.double c4), .second, .val (.double c5), .second, .val (.double c6), .second, .val (.double c7), .second, .val (.ref c8)] [(.double c7), (.ref ca)])) rfl rfl (hb hby d1_46)
  refine Gl.via st37 ?_
  have N37_ := Fr.snoc X37 N32_ hp0
  have Z38 : n0 ≤ h37.size := Nat.le_trans Z33 (Keep.of_wr W37).1
  have Y39 : h0.size ≤ h37.size := Nat.le_trans Y34 (Keep.of_wr W37).1
  show Gl p.tables e below T37 (mkF m 49 #[.val (.ref ca), .val (.int c0), .val (.int c1), .val (.double c2), .second, .val (.double c3), .second, .val (.double c4), .second, .val (.double c5), .second, .val (.double c6), .second, .val (.double c7), .second, .val (.ref c8)] []) G
  refine Gl.via (fun _ k => XS.aloadN X37.here hx rfl (hb hby d1_49) rfl rfl k) ?_
  show Gl p.tables e below T37 (mkF m 50 #[.val (.ref ca), .val (.int c0), .val (.int c1), .val (.double c2), .second, .val (.double c3), .second, .val (.double c4), .second, .val (.double c5), .second, .val (.double c6), .second, .val (.double c7), .second, .val (.ref c8)] [(.ref ca)]) G
  refine Gl.via (fun _ k => XS.aload X37.here hx rfl (hb hby d1_50) rfl rfl k) ?_
  show Gl p.tables e below T37 (mkF m 52 #[.val (.ref ca), .val (.int c0), .val (.int c1), .val (.double c2), .second, .val (.double c3), .second, .val (.double c4), .second, .val (.double c5), .second, .val (.double c6), .second, .val (.double c7), .second, .val (.ref c8)] [(.ref c8), (.ref ca)]) G
  have G40 : Fld Z h37 ca "com/example/sortie/sortie/solver/Segment" "moreLoads" "[D" cu8 := ((((((((F9_ca_moreLoads.other W2 (Or.inr (slot_ne (Or.inr (hw _ (List.mem_of_getElem? (i := 32) rfl))) (Or.inr (hw _ (List.mem_of_getElem? (i := 16) rfl))) (by decide) (t := (.array .double)) (t' := .int) (by decide) (by decide)))).other W7 (Or.inr (slot_ne (Or.inr (hw _ (List.mem_of_getElem? (i := 32) rfl))) (Or.inr (hw _ (List.mem_of_getElem? (i := 18) rfl))) (by decide) (t := (.array .double)) (t' := .int) (by decide) (by decide)))).other W12 (Or.inr (slot_ne (Or.inr (hw _ (List.mem_of_getElem? (i := 32) rfl))) (Or.inr (hw _ (List.mem_of_getElem? (i := 20) rfl))) (by decide) (t := (.array .double)) (t' := .double) (by decide) (by decide)))).other W17 (Or.inr (slot_ne (Or.inr (hw _ (List.mem_of_getElem? (i := 32) rfl))) (Or.inr (hw _ (List.mem_of_getElem? (i := 22) rfl))) (by decide) (t := (.array .double)) (t' := .double) (by decide) (by decide)))).other W22 (Or.inr (slot_ne (Or.inr (hw _ (List.mem_of_getElem? (i := 32) rfl))) (Or.inr (hw _ (List.mem_of_getElem? (i := 24) rfl))) (by decide) (t := (.array .double)) (t' := .double) (by decide) (by decide)))).other W27 (Or.inr (slot_ne (Or.inr (hw _ (List.mem_of_getElem? (i := 32) rfl))) (Or.inr (hw _ (List.mem_of_getElem? (i := 26) rfl))) (by decide) (t := (.array .double)) (t' := .double) (by decide) (by decide)))).other W32 (Or.inr (slot_ne (Or.inr (hw _ (List.mem_of_getElem? (i := 32) rfl))) (Or.inr (hw _ (List.mem_of_getElem? (i := 28) rfl))) (by decide) (t := (.array .double)) (t' := .double) (by decide) (by decide)))).other W37 (Or.inr (slot_ne (Or.inr (hw _ (List.mem_of_getElem? (i := 32) rfl))) (Or.inr (hw _ (List.mem_of_getElem? (i := 30) rfl))) (by decide) (t := (.array .double)) (t' := .double) (by decide) (by decide))))
  have G41 : Exa Z h37 ca "com/example/sortie/sortie/solver/Segment" := (G36.wr W37)
  obtain ⟨T42, h42, X42, e42, W42, st42⟩ := putF X37 hx hZ hown (host := "") (Or.inl (hw _ (List.mem_of_getElem? (i := 31) rfl))) Via.refl e37 G40 G41 (Or.inr ⟨(hw _ (List.mem_of_getElem? (i := 32) rfl)), rfl, hnm⟩) (hw _ (List.mem_of_getElem? (i := 2) rfl)) (ty := (.array .double)) (by decide) rfl rfl (g := (mkF m 52 #[.val (.ref ca), .val (.int c0), .val (.int c1), .val (.double c2), .second, .val (.double c3), .second, .val (.double c4), .second, .val (.double c5), .second, .val (.double c6), .second, .val (.double c7), .second, .val (.ref c8)] [(.ref c8), (.ref ca)])) rfl rfl (hb hby d1_52)
  refine Gl.via st42 ?_
  have N42_ := Fr.snoc X42 N37_ hp0
  have Z43 : n0 ≤ h42.size := Nat.le_trans Z38 (Keep.of_wr W42).1
  have Y44 : h0.size ≤ h42.size := Nat.le_trans Y39 (Keep.of_wr W42).1
  show Gl p.tables e below T42 (mkF m 55 #[.val (.ref ca), .val (.int c0), .val (.int c1), .val (.double c2), .second, .val (.double c3), .second, .val (.double c4), .second, .val (.double c5), .second, .val (.double c6), .second, .val (.double c7), .second, .val (.ref c8)] []) G
  obtain ⟨fs, hr, hrun, hended, hW, hsame⟩ := X42.leave (v := none) (fun _ => rfl)
  have G45 : Exa Z h42 ca "com/example/sortie/sortie/solver/Segment" := (G41.wr W42)
  have G46 : Fld Z h42 ca "com/example/sortie/sortie/solver/Segment" "load" "D" (.double c7) := ((Fld.same W37 G35).other W42 (Or.inr (slot_ne (Or.inr (hw _ (List.mem_of_getElem? (i := 30) rfl))) (Or.inr (hw _ (List.mem_of_getElem? (i := 32) rfl))) (by decide) (t := .double) (t' := (.array .double)) (by decide) (by decide))))
  have hq : ∀ L, Fr n0 L → Q_s_init Z ca c0 c1 c2 c3 c4 c5 c6 c7 c8 cu0 cu1 cu2 cu3 cu4 cu5 cu6 cu7 cu8 h0 n0 (none) T42.heap L := by
    intro L hN
    rw [e42]
    exact ⟨rfl, hN, ((((((((((Keep.refl h0 [ca]).wr W2 (Or.inl (List.mem_of_getElem? (i := 0) rfl))).wr W7 (Or.inl (List.mem_of_getElem? (i := 0) rfl))).wr W12 (Or.inl (List.mem_of_getElem? (i := 0) rfl))).wr W17 (Or.inl (List.mem_of_getElem? (i := 0) rfl))).wr W22 (Or.inl (List.mem_of_getElem? (i := 0) rfl))).wr W27 (Or.inl (List.mem_of_getElem? (i := 0) rfl))).wr W32 (Or.inl (List.mem_of_getElem? (i := 0) rfl))).wr W37 (Or.inl (List.mem_of_getElem? (i := 0) rfl))).wr W42 (Or.inl (List.mem_of_getElem? (i := 0) rfl))), G45, G46, (Fld.same W42 G40)⟩
  rw [hG]
  exact Gl.fin (X42.returnOut hx Bd.returns (hb hby d1_55) hr) ⟨_, hrun, hended, _, _, rfl, hq _ N42_, ⟨_, rfl⟩, hW, hsame.mono (by decide) (by decide)⟩
theorem d4_0 : decode prog_65_method_3_code 0 = .ok (.iload_n 1, 1) := by decide +kernel
theorem d4_1 : decode prog_65_method_3_code 1 = .ok (.ifCond .ne 11, 3) := by decide +kernel
theorem d4_4 : decode prog_65_method_3_code 4 = .ok (.aload_n 0, 1) := by decide +kernel
theorem d4_5 : decode prog_65_method_3_code 5 = .ok (.getfield 32, 3) := by decide +kernel
theorem d4_8 : decode prog_65_method_3_code 8 = .ok (.dstore_n 2, 1) := by decide +kernel
theorem d4_9 : decode prog_65_method_3_code 9 = .ok (.goto 12, 3) := by decide +kernel
theorem d4_21 : decode prog_65_method_3_code 21 = .ok (.dload_n 2, 1) := by decide +kernel
theorem d4_22 : decode prog_65_method_3_code 22 = .ok (.dreturn, 1) := by decide +kernel
theorem ef_load0 (m : MethodId) (x0 : Addr) (x1 : Int32) : entryFrame m #[(.ref x0), (.int x1)] 4 = mkF m 0 #[.val (.ref x0), .val (.int x1), .unset, .unset] [] := by first | (simp [entryFrame, mkF, argsToLocals, Value.category]; done) | rfl | (simp [entryFrame, mkF, argsToLocals, *]; done)
def Q_load0 (Z : State) (la : Addr) (lv : UInt64) (h0 : Heap) (n0 : Nat) (v : Option Value) (h : Heap) (L : List Loc) : Prop := v = some (.double lv) ∧ Fr n0 L ∧ h = h0
set_option maxRecDepth 65536 in
set_option maxHeartbeats 40000000 in
theorem load0 (l : Launch) (Z : State) (a0 : Array Value) (hw : ∀ d ∈ tables_1, d.before a0 Z = true) (ws : List Jvm.Cond) (la : Addr) (lv : UInt64) (h0 : Heap) (n0 : Nat) (Z0 : n0 ≤ h0.size) (F0_la_load : Fld Z h0 la "com/example/sortie/sortie/solver/Segment" "load" "D" (.double lv)) :
    MetFree l (⟨"com/example/sortie/sortie/solver/Segment", "load", "(I)D"⟩ : MethodName) (head1 (Jvm.Cond.code (⟨"com/example/sortie/sortie/solver/Segment", "load", "(I)D"⟩ : MethodName) prog_65_method_3_code 4 (some .double) :: ws) ({ frames := 0, cells := 0, slots := 0, locals := 0 } : Room)) (fun a U => a = #[(.ref la), (.int (0 : Int32))] ∧ Z.Warmed39 U.vm ∧ U.heap = h0) (fun _ _ _ _ _ => True) (fun _ U o U' => ∃ v L, o = .returned v ∧ Q_load0 Z la lv h0 n0 v U'.heap L ∧ FrameEnd U o U' L ({ frames := 0, cells := 0, slots := 0, locals := 0 } : Room).cells ({ frames := 0, cells := 0, slots := 0, locals := 0 } : Room).slots) := by
  refine MetFree.of_bodySF (plainFor_of_name pn_1) hisR ?_
  intro p e s m args below meth c s₁ Bd hml0 hP hK
  obtain ⟨rfl, hZ, hh⟩ := hP
  have hx := Bd.exec
  have hby := Bd.bytes
  have hml : c.maxLocals = 4 := hml0
  have hown : s.vm.findClass "com/example/sortie/sortie/solver/Segment" = some m.cls := findClass_of_methodNamed Bd.named
  have hnm := (name_of_methodNamed Bd.named Bd.method).1
  have X0 : Stand p l e ({ frames := 0, cells := 0, slots := 0, locals := 0 } : Room) s m #[(.ref la), (.int (0 : Int32))] below meth c s₁ [] 0 0 := Stand.of_body Bd
  have e0 : s₁.heap = h0 := by rw [← hh, Bd.state]; rfl
  have N0 := Fr.nil n0
  obtain ⟨G, hG⟩ : ∃ G : State → Prop, G = (fun U' => ∃ o, U'.status = .running ∧ Ended U' below o ∧ ∃ v L, o = .returned v ∧ Q_load0 Z la lv h0 n0 v U'.heap L ∧ FrameEnd s o U' L ({ frames := 0, cells := 0, slots := 0, locals := 0 } : Room).cells ({ frames := 0, cells := 0, slots := 0, locals := 0 } : Room).slots) := ⟨_, rfl⟩
  suffices key : Gl p.tables e below s₁ (mkF m 0 #[.val (.ref la), .val (.int (0 : Int32)), .unset, .unset] []) G by
    obtain ⟨s₂, k1, k2⟩ := key
    rw [hG] at k2
    obtain ⟨o, k3, k4, k5⟩ := k2
    exact ⟨s₂, o, castTop (ef_load0 m la (0 : Int32)) k1, k3, k4, k5⟩
  show Gl p.tables e below s₁ (mkF m 0 #[.val (.ref la), .val (.int (0 : Int32)), .unset, .unset] []) G
  refine Gl.via (fun _ k => XS.iloadN X0.here hx rfl (hb hby d4_0) rfl k) ?_
  show Gl p.tables e below s₁ (mkF m 1 #[.val (.ref la), .val (.int (0 : Int32)), .unset, .unset] [(.int (0 : Int32))]) G
  refine Gl.via (fun _ k => XS.ifNo X0.here hx rfl (hb hby d4_1) rfl ((if0 _ _).trans (teq (by decide)).2) k) ?_
  show Gl p.tables e below s₁ (mkF m 4 #[.val (.ref la), .val (.int (0 : Int32)), .unset, .unset] []) G
  refine Gl.via (fun _ k => XS.aloadN X0.here hx rfl (hb hby d4_4) rfl rfl k) ?_
  show Gl p.tables e below s₁ (mkF m 5 #[.val (.ref la), .val (.int (0 : Int32)), .unset, .unset] [(.ref la)]) G
  obtain ⟨T1, X1, e1, st1⟩ := getF X0 hx hZ hown (host := "") (Or.inl (hw _ (List.mem_of_getElem? (i := 29) rfl))) Via.refl e0 F0_la_load (g := (mkF m 5 #[.val (.ref la), .val (.int (0 : Int32)), .unset, .unset] [(.ref la)])) rfl rfl (hb hby d4_5)
  refine Gl.via st1 ?_
  show Gl p.tables e below T1 (mkF m 8 #[.val (.ref la), .val (.int (0 : Int32)), .unset, .unset] [(.double lv)]) G
  refine Gl.via (fun _ k => XS.dstoreN X1.here hx rfl (hb hby d4_8) rfl (l' := #[.val (.ref la), .val (.int (0 : Int32)), .val (.double lv), .second]) rfl k) ?_
  show Gl p.tables e below T1 (mkF m 9 #[.val (.ref la), .val (.int (0 : Int32)), .val (.double lv), .second] []) G
  refine Gl.via (fun _ k => XS.goto X1.here hx rfl (pc0 := 9) (pc' := 21) rfl (hb hby d4_9) (by decide) (by decide) k) ?_
  show Gl p.tables e below T1 (mkF m 21 #[.val (.ref la), .val (.int (0 : Int32)), .val (.double lv), .second] []) G
  refine Gl.via (fun _ k => XS.dloadN X1.here hx rfl (hb hby d4_21) rfl k) ?_
  show Gl p.tables e below T1 (mkF m 22 #[.val (.ref la), .val (.int (0 : Int32)), .val (.double lv), .second] [(.double lv)]) G
  obtain ⟨fs, hr, hrun, hended, hW, hsame⟩ := X1.leave (v := some (.double lv)) (fun h => by rw [Bd.returns] at h; cases h)
  have hq : ∀ L, Fr n0 L → Q_load0 Z la lv h0 n0 (some (.double lv)) T1.heap L := by
    intro L hN
    rw [e1]
    exact ⟨rfl, hN, rfl⟩
  rw [hG]
  exact Gl.fin (retOut X1 hx Bd.returns rfl (Or.inr (Or.inr (Or.inl ⟨rfl, rfl, _, rfl⟩))) (hb hby d4_22) hr) ⟨_, hrun, hended, _, _, rfl, hq _ N0, ⟨_, rfl⟩, hW, hsame.mono (by decide) (by decide)⟩
theorem d4_12 : decode prog_65_method_3_code 12 = .ok (.aload_n 0, 1) := by decide +kernel
theorem d4_13 : decode prog_65_method_3_code 13 = .ok (.getfield 35, 3) := by decide +kernel
theorem d4_16 : decode prog_65_method_3_code 16 = .ok (.iload_n 1, 1) := by decide +kernel
theorem d4_17 : decode prog_65_method_3_code 17 = .ok (.iconst 1, 1) := by decide +kernel
theorem d4_18 : decode prog_65_method_3_code 18 = .ok (.isub, 1) := by decide +kernel
theorem d4_19 : decode prog_65_method_3_code 19 = .ok (.daload, 1) := by decide +kernel
theorem d4_20 : decode prog_65_method_3_code 20 = .ok (.dstore_n 2, 1) := by decide +kernel
theorem ef_load1 (m : MethodId) (x0 : Addr) (x1 : Int32) : entryFrame m #[(.ref x0), (.int x1)] 4 = mkF m 0 #[.val (.ref x0), .val (.int x1), .unset, .unset] [] := by first | (simp [entryFrame, mkF, argsToLocals, Value.category]; done) | rfl | (simp [entryFrame, mkF, argsToLocals, *]; done)
def Q_load1 (Z : State) (la : Addr) (lj : Int32) (lm : Addr) (lk : ClassId) (v0 : UInt64) (v1 : UInt64) (v2 : UInt64) (lv : UInt64) (h0 : Heap) (n0 : Nat) (v : Option Value) (h : Heap) (L : List Loc) : Prop := v = some (.double lv) ∧ Fr n0 L ∧ h = h0
set_option maxRecDepth 65536 in
set_option maxHeartbeats 40000000 in
theorem load1 (l : Launch) (Z : State) (a0 : Array Value) (hw : ∀ d ∈ tables_1, d.before a0 Z = true) (ws : List Jvm.Cond) (la : Addr) (lj : Int32) (lm : Addr) (lk : ClassId) (v0 : UInt64) (v1 : UInt64) (v2 : UInt64) (lv : UInt64) (h0 : Heap) (n0 : Nat) (Z0 : n0 ≤ h0.size) (F0_la_moreLoads : Fld Z h0 la "com/example/sortie/sortie/solver/Segment" "moreLoads" "[D" (.ref lm)) (F1_lm : Arv Z h0 lm lk .double (3 : Int32) [(.double v0), (.double v1), (.double v2)] (.double (0 : UInt64))) (hj : ¬ (lj = (0 : Int32))) (hb1 : ¬ (lj - (1 : Int32)) < 0 ∧ (lj - (1 : Int32)) < (3 : Int32)) (hat : [(Value.double v0), (.double v1), (.double v2)].getD (lj - (1 : Int32)).toNatClampNeg (.double (0 : UInt64)) = .double lv) :
    MetFree l (⟨"com/example/sortie/sortie/solver/Segment", "load", "(I)D"⟩ : MethodName) (head1 (Jvm.Cond.code (⟨"com/example/sortie/sortie/solver/Segment", "load", "(I)D"⟩ : MethodName) prog_65_method_3_code 4 (some .double) :: ws) ({ frames := 0, cells := 0, slots := 0, locals := 0 } : Room)) (fun a U => a = #[(.ref la), (.int lj)] ∧ Z.Warmed39 U.vm ∧ U.heap = h0) (fun _ _ _ _ _ => True) (fun _ U o U' => ∃ v L, o = .returned v ∧ Q_load1 Z la lj lm lk v0 v1 v2 lv h0 n0 v U'.heap L ∧ FrameEnd U o U' L ({ frames := 0, cells := 0, slots := 0, locals := 0 } : Room).cells ({ frames := 0, cells := 0, slots := 0, locals := 0 } : Room).slots) := by
  refine MetFree.of_bodySF (plainFor_of_name pn_1) hisR ?_
  intro p e s m args below meth c s₁ Bd hml0 hP hK
  obtain ⟨rfl, hZ, hh⟩ := hP
  have hx := Bd.exec
  have hby := Bd.bytes
  have hml : c.maxLocals = 4 := hml0
  have hown : s.vm.findClass "com/example/sortie/sortie/solver/Segment" = some m.cls := findClass_of_methodNamed Bd.named
  have hnm := (name_of_methodNamed Bd.named Bd.method).1
  have X0 : Stand p l e ({ frames := 0, cells := 0, slots := 0, locals := 0 } : Room) s m #[(.ref la), (.int lj)] below meth c s₁ [] 0 0 := Stand.of_body Bd
  have e0 : s₁.heap = h0 := by rw [← hh, Bd.state]; rfl
  have N0 := Fr.nil n0
  obtain ⟨G, hG⟩ : ∃ G : State → Prop, G = (fun U' => ∃ o, U'.status = .running ∧ Ended U' below o ∧ ∃ v L, o = .returned v ∧ Q_load1 Z la lj lm lk v0 v1 v2 lv h0 n0 v U'.heap L ∧ FrameEnd s o U' L ({ frames := 0, cells := 0, slots := 0, locals := 0 } : Room).cells ({ frames := 0, cells := 0, slots := 0, locals := 0 } : Room).slots) := ⟨_, rfl⟩
  suffices key : Gl p.tables e below s₁ (mkF m 0 #[.val (.ref la), .val (.int lj), .unset, .unset] []) G by
    obtain ⟨s₂, k1, k2⟩ := key
    rw [hG] at k2
    obtain ⟨o, k3, k4, k5⟩ := k2
    exact ⟨s₂, o, castTop (ef_load1 m la lj) k1, k3, k4, k5⟩
  show Gl p.tables e below s₁ (mkF m 0 #[.val (.ref la), .val (.int lj), .unset, .unset] []) G
  refine Gl.via (fun _ k => XS.iloadN X0.here hx rfl (hb hby d4_0) rfl k) ?_
  show Gl p.tables e below s₁ (mkF m 1 #[.val (.ref la), .val (.int lj), .unset, .unset] [(.int lj)]) G
  refine Gl.via (fun _ k => XS.ifYes X0.here hx rfl (pc0 := 1) (pc' := 12) rfl (hb hby d4_1) rfl ((if0 _ _).trans (feq hj).2) (by decide) (by decide) k) ?_
  show Gl p.tables e below s₁ (mkF m 12 #[.val (.ref la), .val (.int lj), .unset, .unset] []) G
  refine Gl.via (fun _ k => XS.aloadN X0.here hx rfl (hb hby d4_12) rfl rfl k) ?_
  show Gl p.tables e below s₁ (mkF m 13 #[.val (.ref la), .val (.int lj), .unset, .unset] [(.ref la)]) G
  obtain ⟨T1, X1, e1, st1⟩ := getF X0 hx hZ hown (host := "") (Or.inl (hw _ (List.mem_of_getElem? (i := 31) rfl))) Via.refl e0 F0_la_moreLoads (g := (mkF m 13 #[.val (.ref la), .val (.int lj), .unset, .unset] [(.ref la)])) rfl rfl (hb hby d4_13)
  refine Gl.via st1 ?_
  show Gl p.tables e below T1 (mkF m 16 #[.val (.ref la), .val (.int lj), .unset, .unset] [(.ref lm)]) G
  refine Gl.via (fun _ k => XS.iloadN X1.here hx rfl (hb hby d4_16) rfl k) ?_
  show Gl p.tables e below T1 (mkF m 17 #[.val (.ref la), .val (.int lj), .unset, .unset] [(.int lj), (.ref lm)]) G
  refine Gl.via (fun _ k => XS.iconst X1.here hx rfl (hb hby d4_17) k) ?_
  show Gl p.tables e below T1 (mkF m 18 #[.val (.ref la), .val (.int lj), .unset, .unset] [(.int (1 : Int32)), (.int lj), (.ref lm)]) G
  refine Gl.via (fun _ k => XS.isub X1.here hx rfl (hb hby d4_18) rfl k) ?_
  show Gl p.tables e below T1 (mkF m 19 #[.val (.ref la), .val (.int lj), .unset, .unset] [(.int (lj - (1 : Int32))), (.ref lm)]) G
  obtain ⟨cl2, Ar2, q2, S2, N2, H2, G2⟩ := F1_lm
  have hin2 : ¬ ((lj - (1 : Int32)) < 0 ∨ cl2.slots.size ≤ ((lj - (1 : Int32))).toNatClampNeg) := inb_of S2 hb1
  refine Gl.via (fun _ k => X1.daload hx (j := (lj - (1 : Int32))) (v := (.double lv)) (by rw [e1]; exact Ar2.1) (State.isArrayOf_alike hZ.alike Ar2.2.1) Ar2.2.2 hin2 (Has.at H2 hin2 hat) (g := (mkF m 19 #[.val (.ref la), .val (.int lj), .unset, .unset] [(.int (lj - (1 : Int32))), (.ref lm)])) rfl rfl (hb hby d4_19) _ k) ?_
  show Gl p.tables e below T1 (mkF m 20 #[.val (.ref la), .val (.int lj), .unset, .unset] [(.double lv)]) G
  refine Gl.via (fun _ k => XS.dstoreN X1.here hx rfl (hb hby d4_20) rfl (l' := #[.val (.ref la), .val (.int lj), .val (.double lv), .second]) rfl k) ?_
  show Gl p.tables e below T1 (mkF m 21 #[.val (.ref la), .val (.int lj), .val (.double lv), .second] []) G
  refine Gl.via (fun _ k => XS.dloadN X1.here hx rfl (hb hby d4_21) rfl k) ?_
  show Gl p.tables e below T1 (mkF m 22 #[.val (.ref la), .val (.int lj), .val (.double lv), .second] [(.double lv)]) G
  obtain ⟨fs, hr, hrun, hended, hW, hsame⟩ := X1.leave (v := some (.double lv)) (fun h => by rw [Bd.returns] at h; cases h)
  have hq : ∀ L, Fr n0 L → Q_load1 Z la lj lm lk v0 v1 v2 lv h0 n0 (some (.double lv)) T1.heap L := by
    intro L hN
    rw [e1]
    exact ⟨rfl, hN, rfl⟩
  rw [hG]
  exact Gl.fin (retOut X1 hx Bd.returns rfl (Or.inr (Or.inr (Or.inl ⟨rfl, rfl, _, rfl⟩))) (hb hby d4_22) hr) ⟨_, hrun, hended, _, _, rfl, hq _ N0, ⟨_, rfl⟩, hW, hsame.mono (by decide) (by decide)⟩
theorem pn_2 : plainName "com/example/sortie/sortie/solver/SegmentLoadPinLaw" = true := by first | (simp [plainName, overriddenIn]; done) | decide +kernel
theorem pd_1 : parseMethodDescriptor "(IIDDDDDD[D)V" = some ⟨[.int, .int, .double, .double, .double, .double, .double, .double, (.array .double)], none⟩ := by decide +kernel
theorem pd_2 : parseMethodDescriptor "(I)D" = some ⟨[.int], some .double⟩ := by decide +kernel
theorem ef_rm0 (m : MethodId) (x0 : Int32) (x1 : Int32) (x2 : Int32) (x3 : Int32) (x4 : Int32) : entryFrame m #[(.int x0), (.int x1), (.int x2), (.int x3), (.int x4)] maxLocals = mkF m 0 #[.val (.int x0), .val (.int x1), .val (.int x2), .val (.int x3), .val (.int x4), .unset, .unset, .unset, .unset, .unset] [] := by first | (simp [entryFrame, mkF, argsToLocals, Value.category, maxLocals]; done) | rfl | (simp [entryFrame, mkF, argsToLocals, *]; done)
def Q_rm0 (Z : State) (p0 : Int32) (p1 : Int32) (p2 : Int32) (p3 : Int32) (p4 : Int32) (h0 : Heap) (n0 : Nat) (v : Option Value) (h : Heap) (L : List Loc) : Prop := v = some (.int (1 : Int32)) ∧ Fr n0 L
set_option maxRecDepth 65536 in
set_option maxHeartbeats 40000000 in
theorem rm0 (l : Launch) (Z : State) (a0 : Array Value) (hw : ∀ d ∈ tables_1, d.before a0 Z = true) (ws : List Jvm.Cond) (p0 : Int32) (p1 : Int32) (p2 : Int32) (p3 : Int32) (p4 : Int32) (h0 : Heap) (n0 : Nat) (Z0 : n0 ≤ h0.size) :
    MetFree l x (head1 (Jvm.Cond.code x code maxLocals ret :: ws) room_1) (fun a U => a = #[(.int p0), (.int p1), (.int p2), (.int p3), (.int p4)] ∧ Z.Warmed39 U.vm ∧ U.heap = h0) (fun _ _ _ _ _ => True) (fun _ U o U' => ∃ v L, o = .returned v ∧ Q_rm0 Z p0 p1 p2 p3 p4 h0 n0 v U'.heap L ∧ FrameEnd U o U' L 2 12) := by
  refine MetFree.of_bodySF (plainFor_of_name pn_2) hisR ?_
  intro p e s m args below meth c s₁ Bd hml0 hP hK
  obtain ⟨rfl, hZ, hh⟩ := hP
  have hx := Bd.exec
  have hby := Bd.bytes
  have hml : c.maxLocals = 10 := hml0
  have hown : s.vm.findClass "com/example/sortie/sortie/solver/SegmentLoadPinLaw" = some m.cls := findClass_of_methodNamed Bd.named
  have hnm := (name_of_methodNamed Bd.named Bd.method).1
  have X0 : Stand p l e room_1 s m #[(.int p0), (.int p1), (.int p2), (.int p3), (.int p4)] below meth c s₁ [] 0 0 := Stand.of_body Bd
  have e0 : s₁.heap = h0 := by rw [← hh, Bd.state]; rfl
  have N0 := Fr.nil n0
  obtain ⟨G, hG⟩ : ∃ G : State → Prop, G = (fun U' => ∃ o, U'.status = .running ∧ Ended U' below o ∧ ∃ v L, o = .returned v ∧ Q_rm0 Z p0 p1 p2 p3 p4 h0 n0 v U'.heap L ∧ FrameEnd s o U' L 2 12) := ⟨_, rfl⟩
  suffices key : Gl p.tables e below s₁ (mkF m 0 #[.val (.int p0), .val (.int p1), .val (.int p2), .val (.int p3), .val (.int p4), .unset, .unset, .unset, .unset, .unset] []) G by
    obtain ⟨s₂, k1, k2⟩ := key
    rw [hG] at k2
    obtain ⟨o, k3, k4, k5⟩ := k2
    exact ⟨s₂, o, castTop (ef_rm0 m p0 p1 p2 p3 p4) k1, k3, k4, k5⟩
  show Gl p.tables e below s₁ (mkF m 0 #[.val (.int p0), .val (.int p1), .val (.int p2), .val (.int p3), .val (.int p4), .unset, .unset, .unset, .unset, .unset] []) G
  refine Gl.via (fun _ k => XS.iconst X0.here hx rfl (hb hby at_0) k) ?_
  show Gl p.tables e below s₁ (mkF m 1 #[.val (.int p0), .val (.int p1), .val (.int p2), .val (.int p3), .val (.int p4), .unset, .unset, .unset, .unset, .unset] [(.int (3 : Int32))]) G
  obtain ⟨T1, h1, k1, X1, e1, E1, A1, st1⟩ := newP X0 hx hZ (hw _ (List.mem_of_getElem? (i := 0) rfl)) e0 (g := (mkF m 1 #[.val (.int p0), .val (.int p1), .val (.int p2), .val (.int p3), .val (.int p4), .unset, .unset, .unset, .unset, .unset] [(.int (3 : Int32))])) rfl (hb hby at_1) rfl (by decide) (cap := 3) (by decide) (by decide) (by decide) (by decide)
  obtain ⟨b1, g1⟩ : ∃ z, z = h0.size := ⟨_, rfl⟩
  rw [← g1] at A1 st1
  have ge2 : n0 ≤ b1 := Nat.le_trans Z0 (Nat.le_of_eq g1.symm)
  have gz3 : h0.size ≤ b1 := Nat.le_trans (Nat.le_refl h0.size) (Nat.le_of_eq g1.symm)
  refine Gl.via st1 ?_
  have Z4 : n0 ≤ h1.size := Nat.le_trans Z0 E1.1
  have Y5 : h0.size ≤ h1.size := Nat.le_trans (Nat.le_refl h0.size) E1.1
  have V6 : Arv Z h1 b1 k1 .double (3 : Int32) [(.double (0 : UInt64)), (.double (0 : UInt64)), (.double (0 : UInt64))] (.double (0 : UInt64)) := (Arv.new A1 (by decide)).pad (pad_rep [] (.double (0 : UInt64)) 3)
  show Gl p.tables e below T1 (mkF m 3 #[.val (.int p0), .val (.int p1), .val (.int p2), .val (.int p3), .val (.int p4), .unset, .unset, .unset, .unset, .unset] [(.ref b1)]) G
  refine Gl.via (fun _ k => XS.astore X1.here hx rfl (hb hby at_3) rfl rfl (l' := #[.val (.int p0), .val (.int p1), .val (.int p2), .val (.int p3), .val (.int p4), .val (.ref b1), .unset, .unset, .unset, .unset]) rfl k) ?_
  show Gl p.tables e below T1 (mkF m 5 #[.val (.int p0), .val (.int p1), .val (.int p2), .val (.int p3), .val (.int p4), .val (.ref b1), .unset, .unset, .unset, .unset] []) G
  refine Gl.via (fun _ k => XS.aload X1.here hx rfl (hb hby at_5) rfl rfl k) ?_
  show Gl p.tables e below T1 (mkF m 7 #[.val (.int p0), .val (.int p1), .val (.int p2), .val (.int p3), .val (.int p4), .val (.ref b1), .unset, .unset, .unset, .unset] [(.ref b1)]) G
  refine Gl.via (fun _ k => XS.iconst X1.here hx rfl (hb hby at_7) k) ?_
  show Gl p.tables e below T1 (mkF m 8 #[.val (.int p0), .val (.int p1), .val (.int p2), .val (.int p3), .val (.int p4), .val (.ref b1), .unset, .unset, .unset, .unset] [(.int (0 : Int32)), (.ref b1)]) G
  refine Gl.via (fun _ k => XS.iloadN X1.here hx rfl (hb hby at_8) rfl k) ?_
  show Gl p.tables e below T1 (mkF m 9 #[.val (.int p0), .val (.int p1), .val (.int p2), .val (.int p3), .val (.int p4), .val (.ref b1), .unset, .unset, .unset, .unset] [(.int p1), (.int (0 : Int32)), (.ref b1)]) G
  refine Gl.via (fun _ k => XS.i2dS X1.here hx rfl (hb hby at_9) rfl rfl k) ?_
  show Gl p.tables e below T1 (mkF m 10 #[.val (.int p0), .val (.int p1), .val (.int p2), .val (.int p3), .val (.int p4), .val (.ref b1), .unset, .unset, .unset, .unset] [(.double (FP.i2d p1)), (.int (0 : Int32)), (.ref b1)]) G
  obtain ⟨cl7, Ar7, q7, S7, N7, H7, G7⟩ := V6
  have hin7 : ¬ ((0 : Int32) < 0 ∨ cl7.slots.size ≤ ((0 : Int32)).toNatClampNeg) := inb_of S7 ⟨by decide, by decide⟩
  obtain ⟨T7, h7, X7, e7, W7, st7⟩ := stD X1 hx hZ e1 Ar7 (j := (0 : Int32)) hin7 (g := (mkF m 10 #[.val (.int p0), .val (.int p1), .val (.int p2), .val (.int p3), .val (.int p4), .val (.ref b1), .unset, .unset, .unset, .unset] [(.double (FP.i2d p1)), (.int (0 : Int32)), (.ref b1)])) rfl rfl (hb hby at_10)
  refine Gl.via st7 ?_
  have N7_ := Fr.snoc X7 N0 ge2
  have Z8 : n0 ≤ h7.size := Nat.le_trans Z4 (Keep.of_wr W7).1
  have Y9 : h0.size ≤ h7.size := Nat.le_trans Y5 (Keep.of_wr W7).1
  have V10 : Arv Z h7 b1 k1 .double (3 : Int32) [(.double (FP.i2d p1)), (.double (0 : UInt64)), (.double (0 : UInt64))] (.double (0 : UInt64)) := Arv.set Ar7 q7 S7 N7 H7 G7 rfl W7 0 rfl (Nat.le_of_ble_eq_true rfl)
  show Gl p.tables e below T7 (mkF m 11 #[.val (.int p0), .val (.int p1), .val (.int p2), .val (.int p3), .val (.int p4), .val (.ref b1), .unset, .unset, .unset, .unset] []) G
  refine Gl.via (fun _ k => XS.aload X7.here hx rfl (hb hby at_11) rfl rfl k) ?_
  show Gl p.tables e below T7 (mkF m 13 #[.val (.int p0), .val (.int p1), .val (.int p2), .val (.int p3), .val (.int p4), .val (.ref b1), .unset, .unset, .unset, .unset] [(.ref b1)]) G
  refine Gl.via (fun _ k => XS.iconst X7.here hx rfl (hb hby at_13) k) ?_
  show Gl p.tables e below T7 (mkF m 14 #[.val (.int p0), .val (.int p1), .val (.int p2), .val (.int p3), .val (.int p4), .val (.ref b1), .unset, .unset, .unset, .unset] [(.int (1 : Int32)), (.ref b1)]) G
  refine Gl.via (fun _ k => XS.iloadN X7.here hx rfl (hb hby at_14) rfl k) ?_
  show Gl p.tables e below T7 (mkF m 15 #[.val (.int p0), .val (.int p1), .val (.int p2), .val (.int p3), .val (.int p4), .val (.ref b1), .unset, .unset, .unset, .unset] [(.int p2), (.int (1 : Int32)), (.ref b1)]) G
  refine Gl.via (fun _ k => XS.i2dS X7.here hx rfl (hb hby at_15) rfl rfl k) ?_
  show Gl p.tables e below T7 (mkF m 16 #[.val (.int p0), .val (.int p1), .val (.int p2), .val (.int p3), .val (.int p4), .val (.ref b1), .unset, .unset, .unset, .unset] [(.double (FP.i2d p2)), (.int (1 : Int32)), (.ref b1)]) G
  obtain ⟨cl11, Ar11, q11, S11, N11, H11, G11⟩ := V10
  have hin11 : ¬ ((1 : Int32) < 0 ∨ cl11.slots.size ≤ ((1 : Int32)).toNatClampNeg) := inb_of S11 ⟨by decide, by decide⟩
  obtain ⟨T11, h11, X11, e11, W11, st11⟩ := stD X7 hx hZ e7 Ar11 (j := (1 : Int32)) hin11 (g := (mkF m 16 #[.val (.int p0), .val (.int p1), .val (.int p2), .val (.int p3), .val (.int p4), .val (.ref b1), .unset, .unset, .unset, .unset] [(.double (FP.i2d p2)), (.int (1 : Int32)), (.ref b1)])) rfl rfl (hb hby at_16)
  refine Gl.via st11 ?_
  have N11_ := Fr.snoc X11 N7_ ge2
  have Z12 : n0 ≤ h11.size := Nat.le_trans Z8 (Keep.of_wr W11).1
  have Y13 : h0.size ≤ h11.size := Nat.le_trans Y9 (Keep.of_wr W11).1
  have V14 : Arv Z h11 b1 k1 .double (3 : Int32) [(.double (FP.i2d p1)), (.double (FP.i2d p2)), (.double (0 : UInt64))] (.double (0 : UInt64)) := Arv.set Ar11 q11 S11 N11 H11 G11 rfl W11 1 rfl (Nat.le_of_ble_eq_true rfl)
  show Gl p.tables e below T11 (mkF m 17 #[.val (.int p0), .val (.int p1), .val (.int p2), .val (.int p3), .val (.int p4), .val (.ref b1), .unset, .unset, .unset, .unset] []) G
  refine Gl.via (fun _ k => XS.aload X11.here hx rfl (hb hby at_17) rfl rfl k) ?_
  show Gl p.tables e below T11 (mkF m 19 #[.val (.int p0), .val (.int p1), .val (.int p2), .val (.int p3), .val (.int p4), .val (.ref b1), .unset, .unset, .unset, .unset] [(.ref b1)]) G
  refine Gl.via (fun _ k => XS.iconst X11.here hx rfl (hb hby at_19) k) ?_
  show Gl p.tables e below T11 (mkF m 20 #[.val (.int p0), .val (.int p1), .val (.int p2), .val (.int p3), .val (.int p4), .val (.ref b1), .unset, .unset, .unset, .unset] [(.int (2 : Int32)), (.ref b1)]) G
  refine Gl.via (fun _ k => XS.iloadN X11.here hx rfl (hb hby at_20) rfl k) ?_
  show Gl p.tables e below T11 (mkF m 21 #[.val (.int p0), .val (.int p1), .val (.int p2), .val (.int p3), .val (.int p4), .val (.ref b1), .unset, .unset, .unset, .unset] [(.int p3), (.int (2 : Int32)), (.ref b1)]) G
  refine Gl.via (fun _ k => XS.i2dS X11.here hx rfl (hb hby at_21) rfl rfl k) ?_
  show Gl p.tables e below T11 (mkF m 22 #[.val (.int p0), .val (.int p1), .val (.int p2), .val (.int p3), .val (.int p4), .val (.ref b1), .unset, .unset, .unset, .unset] [(.double (FP.i2d p3)), (.int (2 : Int32)), (.ref b1)]) G
  obtain ⟨cl15, Ar15, q15, S15, N15, H15, G15⟩ := V14
  have hin15 : ¬ ((2 : Int32) < 0 ∨ cl15.slots.size ≤ ((2 : Int32)).toNatClampNeg) := inb_of S15 ⟨by decide, by decide⟩
  obtain ⟨T15, h15, X15, e15, W15, st15⟩ := stD X11 hx hZ e11 Ar15 (j := (2 : Int32)) hin15 (g := (mkF m 22 #[.val (.int p0), .val (.int p1), .val (.int p2), .val (.int p3), .val (.int p4), .val (.ref b1), .unset, .unset, .unset, .unset] [(.double (FP.i2d p3)), (.int (2 : Int32)), (.ref b1)])) rfl rfl (hb hby at_22)
  refine Gl.via st15 ?_
  have N15_ := Fr.snoc X15 N11_ ge2
  have Z16 : n0 ≤ h15.size := Nat.le_trans Z12 (Keep.of_wr W15).1
  have Y17 : h0.size ≤ h15.size := Nat.le_trans Y13 (Keep.of_wr W15).1
  have V18 : Arv Z h15 b1 k1 .double (3 : Int32) [(.double (FP.i2d p1)), (.double (FP.i2d p2)), (.double (FP.i2d p3))] (.double (0 : UInt64)) := Arv.set Ar15 q15 S15 N15 H15 G15 rfl W15 2 rfl (Nat.le_of_ble_eq_true rfl)
  show Gl p.tables e below T15 (mkF m 23 #[.val (.int p0), .val (.int p1), .val (.int p2), .val (.int p3), .val (.int p4), .val (.ref b1), .unset, .unset, .unset, .unset] []) G
  obtain ⟨T19, h19, X19, e19, E19, A19, D19, -, st19⟩ := newO X15 hx hZ hown (hw _ (List.mem_of_getElem? (i := 1) rfl)) (hw _ (List.mem_of_getElem? (i := 2) rfl)) (hw _ (List.mem_of_getElem? (i := 3) rfl)) e15 (g := (mkF m 23 #[.val (.int p0), .val (.int p1), .val (.int p2), .val (.int p3), .val (.int p4), .val (.ref b1), .unset, .unset, .unset, .unset] [])) rfl (hb hby at_23) (by decide) (by decide)
  obtain ⟨b19, g19⟩ : ∃ z, z = h15.size := ⟨_, rfl⟩
  rw [← g19] at A19 D19 st19
  have ne20 : b1 ≠ b19 := Nat.ne_of_lt (Nat.lt_of_lt_of_le V18.lt (Nat.le_of_eq g19.symm))
  have ge21 : n0 ≤ b19 := Nat.le_trans Z16 (Nat.le_of_eq g19.symm)
  have gz22 : h0.size ≤ b19 := Nat.le_trans Y17 (Nat.le_of_eq g19.symm)
  refine Gl.via st19 ?_
  have Z23 : n0 ≤ h19.size := Nat.le_trans Z16 E19.1
  have Y24 : h0.size ≤ h19.size := Nat.le_trans Y17 E19.1
  have F25 : Fld Z h19 b19 "com/example/sortie/sortie/solver/Segment" "first" "I" (.int (0 : Int32)) := D19 (Or.inr (hw _ (List.mem_of_getElem? (i := 16) rfl))) (ty := .int) (by decide)
  have F26 : Fld Z h19 b19 "com/example/sortie/sortie/solver/Segment" "last" "I" (.int (0 : Int32)) := D19 (Or.inr (hw _ (List.mem_of_getElem? (i := 18) rfl))) (ty := .int) (by decide)
  have F27 : Fld Z h19 b19 "com/example/sortie/sortie/solver/Segment" "duration" "D" (.double (0 : UInt64)) := D19 (Or.inr (hw _ (List.mem_of_getElem? (i := 20) rfl))) (ty := .double) (by decide)
  have F28 : Fld Z h19 b19 "com/example/sortie/sortie/solver/Segment" "timeWarp" "D" (.double (0 : UInt64)) := D19 (Or.inr (hw _ (List.mem_of_getElem? (i := 22) rfl))) (ty := .double) (by decide)
  have F29 : Fld Z h19 b19 "com/example/sortie/sortie/solver/Segment" "earliest" "D" (.double (0 : UInt64)) := D19 (Or.inr (hw _ (List.mem_of_getElem? (i := 24) rfl))) (ty := .double) (by decide)
  have F30 : Fld Z h19 b19 "com/example/sortie/sortie/solver/Segment" "latest" "D" (.double (0 : UInt64)) := D19 (Or.inr (hw _ (List.mem_of_getElem? (i := 26) rfl))) (ty := .double) (by decide)
  have F31 : Fld Z h19 b19 "com/example/sortie/sortie/solver/Segment" "distance" "D" (.double (0 : UInt64)) := D19 (Or.inr (hw _ (List.mem_of_getElem? (i := 28) rfl))) (ty := .double) (by decide)
  have F32 : Fld Z h19 b19 "com/example/sortie/sortie/solver/Segment" "load" "D" (.double (0 : UInt64)) := D19 (Or.inr (hw _ (List.mem_of_getElem? (i := 30) rfl))) (ty := .double) (by decide)
  have F33 : Fld Z h19 b19 "com/example/sortie/sortie/solver/Segment" "moreLoads" "[D" .null := D19 (Or.inr (hw _ (List.mem_of_getElem? (i := 32) rfl))) (ty := (.array .double)) (by decide)
  show Gl p.tables e below T19 (mkF m 26 #[.val (.int p0), .val (.int p1), .val (.int p2), .val (.int p3), .val (.int p4), .val (.ref b1), .unset, .unset, .unset, .unset] [(.ref b19)]) G
  refine Gl.via (fun _ k => XS.dup X19.here hx rfl (hb hby at_26) rfl rfl k) ?_
  show Gl p.tables e below T19 (mkF m 27 #[.val (.int p0), .val (.int p1), .val (.int p2), .val (.int p3), .val (.int p4), .val (.ref b1), .unset, .unset, .unset, .unset] [(.ref b19), (.ref b19)]) G
  refine Gl.via (fun _ k => XS.iconst X19.here hx rfl (hb hby at_27) k) ?_
  show Gl p.tables e below T19 (mkF m 28 #[.val (.int p0), .val (.int p1), .val (.int p2), .val (.int p3), .val (.int p4), .val (.ref b1), .unset, .unset, .unset, .unset] [(.int (0 : Int32)), (.ref b19), (.ref b19)]) G
  refine Gl.via (fun _ k => XS.iconst X19.here hx rfl (hb hby at_28) k) ?_
  show Gl p.tables e below T19 (mkF m 29 #[.val (.int p0), .val (.int p1), .val (.int p2), .val (.int p3), .val (.int p4), .val (.ref b1), .unset, .unset, .unset, .unset] [(.int (0 : Int32)), (.int (0 : Int32)), (.ref b19), (.ref b19)]) G
  refine Gl.via (fun _ k => XS.dconst0 X19.here hx rfl (hb hby at_29) rfl k) ?_
  show Gl p.tables e below T19 (mkF m 30 #[.val (.int p0), .val (.int p1), .val (.int p2), .val (.int p3), .val (.int p4), .val (.ref b1), .unset, .unset, .unset, .unset] [(.double FP.dconst0), (.int (0 : Int32)), (.int (0 : Int32)), (.ref b19), (.ref b19)]) G
  refine Gl.via (fun _ k => XS.dconst0 X19.here hx rfl (hb hby at_30) rfl k) ?_
  show Gl p.tables e below T19 (mkF m 31 #[.val (.int p0), .val (.int p1), .val (.int p2), .val (.int p3), .val (.int p4), .val (.ref b1), .unset, .unset, .unset, .unset] [(.double FP.dconst0), (.double FP.dconst0), (.int (0 : Int32)), (.int (0 : Int32)), (.ref b19), (.ref b19)]) G
  refine Gl.via (fun _ k => XS.dconst0 X19.here hx rfl (hb hby at_31) rfl k) ?_
  show Gl p.tables e below T19 (mkF m 32 #[.val (.int p0), .val (.int p1), .val (.int p2), .val (.int p3), .val (.int p4), .val (.ref b1), .unset, .unset, .unset, .unset] [(.double FP.dconst0), (.double FP.dconst0), (.double FP.dconst0), (.int (0 : Int32)), (.int (0 : Int32)), (.ref b19), (.ref b19)]) G
  refine Gl.via (fun _ k => XS.dconst0 X19.here hx rfl (hb hby at_32) rfl k) ?_
  show Gl p.tables e below T19 (mkF m 33 #[.val (.int p0), .val (.int p1), .val (.int p2), .val (.int p3), .val (.int p4), .val (.ref b1), .unset, .unset, .unset, .unset] [(.double FP.dconst0), (.double FP.dconst0), (.double FP.dconst0), (.double FP.dconst0), (.int (0 : Int32)), (.int (0 : Int32)), (.ref b19), (.ref b19)]) G
  refine Gl.via (fun _ k => XS.dconst0 X19.here hx rfl (hb hby at_33) rfl k) ?_
  show Gl p.tables e below T19 (mkF m 34 #[.val (.int p0), .val (.int p1), .val (.int p2), .val (.int p3), .val (.int p4), .val (.ref b1), .unset, .unset, .unset, .unset] [(.double FP.dconst0), (.double FP.dconst0), (.double FP.dconst0), (.double FP.dconst0), (.double FP.dconst0), (.int (0 : Int32)), (.int (0 : Int32)), (.ref b19), (.ref b19)]) G
  refine Gl.via (fun _ k => XS.iloadN X19.here hx rfl (hb hby at_34) rfl k) ?_
  show Gl p.tables e below T19 (mkF m 35 #[.val (.int p0), .val (.int p1), .val (.int p2), .val (.int p3), .val (.int p4), .val (.ref b1), .unset, .unset, .unset, .unset] [(.int p0), (.double FP.dconst0), (.double FP.dconst0), (.double FP.dconst0), (.double FP.dconst0), (.double FP.dconst0), (.int (0 : Int32)), (.int (0 : Int32)), (.ref b19), (.ref b19)]) G
  refine Gl.via (fun _ k => XS.i2dS X19.here hx rfl (hb hby at_35) rfl rfl k) ?_
  show Gl p.tables e below T19 (mkF m 36 #[.val (.int p0), .val (.int p1), .val (.int p2), .val (.int p3), .val (.int p4), .val (.ref b1), .unset, .unset, .unset, .unset] [(.double (FP.i2d p0)), (.double FP.dconst0), (.double FP.dconst0), (.double FP.dconst0), (.double FP.dconst0), (.double FP.dconst0), (.int (0 : Int32)), (.int (0 : Int32)), (.ref b19), (.ref b19)]) G
  refine Gl.via (fun _ k => XS.aload X19.here hx rfl (hb hby at_36) rfl rfl k) ?_
  show Gl p.tables e below T19 (mkF m 38 #[.val (.int p0), .val (.int p1), .val (.int p2), .val (.int p3), .val (.int p4), .val (.ref b1), .unset, .unset, .unset, .unset] [(.ref b1), (.double (FP.i2d p0)), (.double FP.dconst0), (.double FP.dconst0), (.double FP.dconst0), (.double FP.dconst0), (.double FP.dconst0), (.int (0 : Int32)), (.int (0 : Int32)), (.ref b19), (.ref b19)]) G
  obtain ⟨_, _, ⟨T34, L34, k34, n34⟩, -, X34, ⟨Lc34, hQ34, l34, y34, z34⟩, st34⟩ := X19.specialBack hx (y := (⟨"com/example/sortie/sortie/solver/Segment", "<init>", "(IIDDDDDD[D)V"⟩ : MethodName)) rfl hown (mvT hZ (hw _ (List.mem_of_getElem? (i := 4) rfl))) (mvT hZ (hw _ (List.mem_of_getElem? (i := 5) rfl))) (mvT hZ (hw _ (List.mem_of_getElem? (i := 6) rfl))) (by decide) (backOf (W := 1) (s_init l Z a0 hw [] b19 (0 : Int32) (0 : Int32) FP.dconst0 FP.dconst0 FP.dconst0 FP.dconst0 FP.dconst0 (FP.i2d p0) b1 (.int (0 : Int32)) (.int (0 : Int32)) (.double (0 : UInt64)) (.double (0 : UInt64)) (.double (0 : UInt64)) (.double (0 : UInt64)) (.double (0 : UInt64)) (.double (0 : UInt64)) .null h19 n0 Z23 A19 F25 F26 F27 F28 F29 F30 F31 F32 F33 ge21) hZ (hw _ (List.mem_of_getElem? (i := 6) rfl)) (hw _ (List.mem_of_getElem? (i := 3) rfl)) (by decide) (by decide)) (g := (mkF m 38 #[.val (.int p0), .val (.int p1), .val (.int p2), .val (.int p3), .val (.int p4), .val (.ref b1), .unset, .unset, .unset, .unset] [(.ref b1), (.double (FP.i2d p0)), (.double FP.dconst0), (.double FP.dconst0), (.double FP.dconst0), (.double FP.dconst0), (.double FP.dconst0), (.int (0 : Int32)), (.int (0 : Int32)), (.ref b19), (.ref b19)])) rfl (by rw [hml]; rfl) (Steps.refl _) (a := b19) (argsL := [(.int (0 : Int32)), (.int (0 : Int32)), (.double FP.dconst0), (.double FP.dconst0), (.double FP.dconst0), (.double FP.dconst0), (.double FP.dconst0), (.double (FP.i2d p0)), (.ref b1)]) (rest := [(.ref b19)]) (lenOf pd_1 rfl) rfl (by show 2 * 0 + _ ≤ _; exact Nat.le_of_eq rfl) (hb hby at_38) (fun _ _ => ⟨rfl, e19, (by decide : 2 + 0 ≤ _), (by decide : 12 + 0 ≤ _)⟩)
  dsimp only [Pt.U, Pt.locs, Pt.cells, Pt.slots] at X34 l34 y34 z34 st34 hQ34
  subst l34 y34 z34
  obtain ⟨rfl, N34q, K34, P35, P36, P37⟩ := hQ34
  have N34_ := Fr.app N15_ N34q
  refine Gl.via (fun _ k => st34.trans k) ?_
  have Z38 : n0 ≤ T34.heap.size := Nat.le_trans Z23 K34.1
  have Y39 : h0.size ≤ T34.heap.size := Nat.le_trans Y24 K34.1
  show Gl p.tables e below T34 (mkF m 41 #[.val (.int p0), .val (.int p1), .val (.int p2), .val (.int p3), .val (.int p4), .val (.ref b1), .unset, .unset, .unset, .unset] [(.ref b19)]) G
  refine Gl.via (fun _ k => XS.astore X34.here hx rfl (hb hby at_41) rfl rfl (l' := #[.val (.int p0), .val (.int p1), .val (.int p2), .val (.int p3), .val (.int p4), .val (.ref b1), .val (.ref b19), .unset, .unset, .unset]) rfl k) ?_
  show Gl p.tables e below T34 (mkF m 43 #[.val (.int p0), .val (.int p1), .val (.int p2), .val (.int p3), .val (.int p4), .val (.ref b1), .val (.ref b19), .unset, .unset, .unset] []) G
  refine Gl.via (fun _ k => XS.iload X34.here hx rfl (hb hby at_43) rfl k) ?_
  show Gl p.tables e below T34 (mkF m 45 #[.val (.int p0), .val (.int p1), .val (.int p2), .val (.int p3), .val (.int p4), .val (.ref b1), .val (.ref b19), .unset, .unset, .unset] [(.int p4)]) G
  refine Gl.via (fun _ k => X34.ldcInt hx hown (mvT hZ (hw _ (List.mem_of_getElem? (i := 33) rfl))) (g := (mkF m 45 #[.val (.int p0), .val (.int p1), .val (.int p2), .val (.int p3), .val (.int p4), .val (.ref b1), .val (.ref b19), .unset, .unset, .unset] [(.int p4)])) rfl (hb hby at_45) _ k) ?_
  show Gl p.tables e below T34 (mkF m 47 #[.val (.int p0), .val (.int p1), .val (.int p2), .val (.int p3), .val (.int p4), .val (.ref b1), .val (.ref b19), .unset, .unset, .unset] [(.int (2147483647 : Int32)), (.int p4)]) G
  refine Gl.via (fun _ k => XS.iand X34.here hx rfl (hb hby at_47) rfl k) ?_
  show Gl p.tables e below T34 (mkF m 48 #[.val (.int p0), .val (.int p1), .val (.int p2), .val (.int p3), .val (.int p4), .val (.ref b1), .val (.ref b19), .unset, .unset, .unset] [(.int (p4 &&& (2147483647 : Int32)))]) G
  refine Gl.via (fun _ k => XS.iconst X34.here hx rfl (hb hby at_48) k) ?_
  show Gl p.tables e below T34 (mkF m 49 #[.val (.int p0), .val (.int p1), .val (.int p2), .val (.int p3), .val (.int p4), .val (.ref b1), .val (.ref b19), .unset, .unset, .unset] [(.int (4 : Int32)), (.int (p4 &&& (2147483647 : Int32)))]) G
  refine Gl.via (fun _ k => XS.irem X34.here hx rfl (hb hby at_49) rfl (by decide) k) ?_
  show Gl p.tables e below T34 (mkF m 50 #[.val (.int p0), .val (.int p1), .val (.int p2), .val (.int p3), .val (.int p4), .val (.ref b1), .val (.ref b19), .unset, .unset, .unset] [(.int ((p4 &&& (2147483647 : Int32)) - ((p4 &&& (2147483647 : Int32)) / (4 : Int32)) * (4 : Int32)))]) G
  refine Gl.via (fun _ k => XS.istore X34.here hx rfl (hb hby at_50) rfl (l' := #[.val (.int p0), .val (.int p1), .val (.int p2), .val (.int p3), .val (.int p4), .val (.ref b1), .val (.ref b19), .val (.int ((p4 &&& (2147483647 : Int32)) - ((p4 &&& (2147483647 : Int32)) / (4 : Int32)) * (4 : Int32))), .unset, .unset]) rfl k) ?_
  show Gl p.tables e below T34 (mkF m 52 #[.val (.int p0), .val (.int p1), .val (.int p2), .val (.int p3), .val (.int p4), .val (.ref b1), .val (.ref b19), .val (.int ((p4 &&& (2147483647 : Int32)) - ((p4 &&& (2147483647 : Int32)) / (4 : Int32)) * (4 : Int32))), .unset, .unset] []) G
  obtain ⟨li, hl⟩ : ∃ li, li = ((p4 &&& (2147483647 : Int32)) - ((p4 &&& (2147483647 : Int32)) / (4 : Int32)) * (4 : Int32)) := ⟨_, rfl⟩
  have hbd := own_l p4
  rw [← hl] at hbd
  rw [← hl]
  show Gl p.tables e below T34 (mkF m 52 #[.val (.int p0), .val (.int p1), .val (.int p2), .val (.int p3), .val (.int p4), .val (.ref b1), .val (.ref b19), .val (.int li), .unset, .unset] []) G
  refine Gl.via (fun _ k => XS.iload X34.here hx rfl (hb hby at_52) rfl k) ?_
  show Gl p.tables e below T34 (mkF m 54 #[.val (.int p0), .val (.int p1), .val (.int p2), .val (.int p3), .val (.int p4), .val (.ref b1), .val (.ref b19), .val (.int li), .unset, .unset] [(.int li)]) G
  by_cases q0 : li = (0 : Int32)
  · refine Gl.via (fun _ k => XS.ifNo X34.here hx rfl (hb hby at_54) rfl ((if0 _ _).trans (teq q0).2) k) ?_
    show Gl p.tables e below T34 (mkF m 57 #[.val (.int p0), .val (.int p1), .val (.int p2), .val (.int p3), .val (.int p4), .val (.ref b1), .val (.ref b19), .val (.int li), .unset, .unset] []) G
    refine Gl.via (fun _ k => XS.iloadN X34.here hx rfl (hb hby at_57) rfl k) ?_
    show Gl p.tables e below T34 (mkF m 58 #[.val (.int p0), .val (.int p1), .val (.int p2), .val (.int p3), .val (.int p4), .val (.ref b1), .val (.ref b19), .val (.int li), .unset, .unset] [(.int p0)]) G
    refine Gl.via (fun _ k => XS.i2dS X34.here hx rfl (hb hby at_58) rfl rfl k) ?_
    show Gl p.tables e below T34 (mkF m 59 #[.val (.int p0), .val (.int p1), .val (.int p2), .val (.int p3), .val (.int p4), .val (.ref b1), .val (.ref b19), .val (.int li), .unset, .unset] [(.double (FP.i2d p0))]) G
    refine Gl.via (fun _ k => XS.dstore X34.here hx rfl (hb hby at_59) rfl (l' := #[.val (.int p0), .val (.int p1), .val (.int p2), .val (.int p3), .val (.int p4), .val (.ref b1), .val (.ref b19), .val (.int li), .val (.double (FP.i2d p0)), .second]) rfl k) ?_
    show Gl p.tables e below T34 (mkF m 61 #[.val (.int p0), .val (.int p1), .val (.int p2), .val (.int p3), .val (.int p4), .val (.ref b1), .val (.ref b19), .val (.int li), .val (.double (FP.i2d p0)), .second] []) G
    refine Gl.via (fun _ k => XS.goto X34.here hx rfl (pc0 := 61) (pc' := 94) rfl (hb hby at_61) (by decide) (by decide) k) ?_
    show Gl p.tables e below T34 (mkF m 94 #[.val (.int p0), .val (.int p1), .val (.int p2), .val (.int p3), .val (.int p4), .val (.ref b1), .val (.ref b19), .val (.int li), .val (.double (FP.i2d p0)), .second] []) G
    clear hl
    subst q0
    show Gl p.tables e below T34 (mkF m 94 #[.val (.int p0), .val (.int p1), .val (.int p2), .val (.int p3), .val (.int p4), .val (.ref b1), .val (.ref b19), .val (.int (0 : Int32)), .val (.double (FP.i2d p0)), .second] []) G
    refine Gl.via (fun _ k => XS.aload X34.here hx rfl (hb hby at_94) rfl rfl k) ?_
    show Gl p.tables e below T34 (mkF m 96 #[.val (.int p0), .val (.int p1), .val (.int p2), .val (.int p3), .val (.int p4), .val (.ref b1), .val (.ref b19), .val (.int (0 : Int32)), .val (.double (FP.i2d p0)), .second] [(.ref b19)]) G
    refine Gl.via (fun _ k => XS.iload X34.here hx rfl (hb hby at_96) rfl k) ?_
    show Gl p.tables e below T34 (mkF m 98 #[.val (.int p0), .val (.int p1), .val (.int p2), .val (.int p3), .val (.int p4), .val (.ref b1), .val (.ref b19), .val (.int (0 : Int32)), .val (.double (FP.i2d p0)), .second] [(.int (0 : Int32)), (.ref b19)]) G
    obtain ⟨cq40, kq40, q40a, q40b, q40c⟩ := isOf hZ rfl P35
    obtain ⟨_, _, ⟨T40, L40, k40, n40⟩, -, X40, ⟨Lc40, hQ40, l40, y40, z40⟩, st40⟩ := X34.virtualBack hx (y := (⟨"com/example/sortie/sortie/solver/Segment", "load", "(I)D"⟩ : MethodName)) (z := (⟨"com/example/sortie/sortie/solver/Segment", "load", "(I)D"⟩ : MethodName)) hown (mvT hZ (hw _ (List.mem_of_getElem? (i := 34) rfl))) (mvT hZ (hw _ (List.mem_of_getElem? (i := 35) rfl))) (notFace_of_selects (args := #[]) (mvT hZ (hw _ (List.mem_of_getElem? (i := 37) rfl)))) (mvT hZ (hw _ (List.mem_of_getElem? (i := 37) rfl))) (mvT hZ (hw _ (List.mem_of_getElem? (i := 36) rfl))) (by decide) (backOf (W := 0) (load0 l Z a0 hw [] b19 (FP.i2d p0) T34.heap n0 Z38 P36) hZ (hw _ (List.mem_of_getElem? (i := 38) rfl)) (hw _ (List.mem_of_getElem? (i := 3) rfl)) (by decide) (by decide)) q40a q40c (g := (mkF m 98 #[.val (.int p0), .val (.int p1), .val (.int p2), .val (.int p3), .val (.int p4), .val (.ref b1), .val (.ref b19), .val (.int (0 : Int32)), .val (.double (FP.i2d p0)), .second] [(.int (0 : Int32)), (.ref b19)])) rfl (by rw [hml]; rfl) (Steps.refl _) (argsL := [(.int (0 : Int32))]) (rest := []) (lenOf pd_2 rfl) rfl (by show 2 * 0 + _ ≤ _; exact Nat.le_of_eq rfl) (hb hby at_98) (fun _ _ => ⟨rfl, rfl, (by decide : 2 + 0 ≤ _), (by decide : 12 + 0 ≤ _)⟩)
    dsimp only [Pt.U, Pt.locs, Pt.cells, Pt.slots] at X40 l40 y40 z40 st40 hQ40
    subst l40 y40 z40
    obtain ⟨rfl, N40q, eh40⟩ := hQ40
    have N40_ := Fr.app N34_ N40q
    refine Gl.via (fun _ k => st40.trans k) ?_
    show Gl p.tables e below T40 (mkF m 101 #[.val (.int p0), .val (.int p1), .val (.int p2), .val (.int p3), .val (.int p4), .val (.ref b1), .val (.ref b19), .val (.int (0 : Int32)), .val (.double (FP.i2d p0)), .second] [(.double (FP.i2d p0))]) G
    refine Gl.via (fun _ k => XS.dload X40.here hx rfl (hb hby at_101) rfl k) ?_
    show Gl p.tables e below T40 (mkF m 103 #[.val (.int p0), .val (.int p1), .val (.int p2), .val (.int p3), .val (.int p4), .val (.ref b1), .val (.ref b19), .val (.int (0 : Int32)), .val (.double (FP.i2d p0)), .second] [(.double (FP.i2d p0)), (.double (FP.i2d p0))]) G
    refine Gl.via (fun _ k => XS.dcmpS X40.here hx rfl (v := (0 : Int32)) (hb hby at_103) rfl (dcmpV_self (i2d_fin _).noNaN _) k) ?_
    show Gl p.tables e below T40 (mkF m 104 #[.val (.int p0), .val (.int p1), .val (.int p2), .val (.int p3), .val (.int p4), .val (.ref b1), .val (.ref b19), .val (.int (0 : Int32)), .val (.double (FP.i2d p0)), .second] [(.int (0 : Int32))]) G
    refine Gl.via (fun _ k => XS.ifNo X40.here hx rfl (hb hby at_104) rfl ((if0 _ _).trans (teq (by decide)).2) k) ?_
    show Gl p.tables e below T40 (mkF m 107 #[.val (.int p0), .val (.int p1), .val (.int p2), .val (.int p3), .val (.int p4), .val (.ref b1), .val (.ref b19), .val (.int (0 : Int32)), .val (.double (FP.i2d p0)), .second] []) G
    refine Gl.via (fun _ k => XS.iconst X40.here hx rfl (hb hby at_107) k) ?_
    show Gl p.tables e below T40 (mkF m 108 #[.val (.int p0), .val (.int p1), .val (.int p2), .val (.int p3), .val (.int p4), .val (.ref b1), .val (.ref b19), .val (.int (0 : Int32)), .val (.double (FP.i2d p0)), .second] [(.int (1 : Int32))]) G
    refine Gl.via (fun _ k => XS.goto X40.here hx rfl (pc0 := 108) (pc' := 112) rfl (hb hby at_108) (by decide) (by decide) k) ?_
    show Gl p.tables e below T40 (mkF m 112 #[.val (.int p0), .val (.int p1), .val (.int p2), .val (.int p3), .val (.int p4), .val (.ref b1), .val (.ref b19), .val (.int (0 : Int32)), .val (.double (FP.i2d p0)), .second] [(.int (1 : Int32))]) G
    obtain ⟨fs, hr, hrun, hended, hW, hsame⟩ := X40.leave (v := some (.int (1 : Int32))) (fun h => by rw [Bd.returns] at h; cases h)
    have hq : ∀ L, Fr n0 L → Q_rm0 Z p0 p1 p2 p3 p4 h0 n0 (some (.int (1 : Int32))) T40.heap L := by
      intro L hN
      rw [eh40]
      exact ⟨rfl, hN⟩
    rw [hG]
    exact Gl.fin (retN X40 hx (t := .boolean) Bd.returns (by simp) (hb hby at_112) hr) ⟨_, hrun, hended, _, _, rfl, hq _ N40_, ⟨_, rfl⟩, hW, hsame.mono (by decide) (by decide)⟩
  · refine Gl.via (fun _ k => XS.ifYes X34.here hx rfl (pc0 := 54) (pc' := 64) rfl (hb hby at_54) rfl ((if0 _ _).trans (feq q0).2) (by decide) (by decide) k) ?_
    show Gl p.tables e below T34 (mkF m 64 #[.val (.int p0), .val (.int p1), .val (.int p2), .val (.int p3), .val (.int p4), .val (.ref b1), .val (.ref b19), .val (.int li), .unset, .unset] []) G
    refine Gl.via (fun _ k => XS.iload X34.here hx rfl (hb hby at_64) rfl k) ?_
    show Gl p.tables e below T34 (mkF m 66 #[.val (.int p0), .val (.int p1), .val (.int p2), .val (.int p3), .val (.int p4), .val (.ref b1), .val (.ref b19), .val (.int li), .unset, .unset] [(.int li)]) G
    refine Gl.via (fun _ k => XS.iconst X34.here hx rfl (hb hby at_66) k) ?_
    show Gl p.tables e below T34 (mkF m 67 #[.val (.int p0), .val (.int p1), .val (.int p2), .val (.int p3), .val (.int p4), .val (.ref b1), .val (.ref b19), .val (.int li), .unset, .unset] [(.int (1 : Int32)), (.int li)]) G
    by_cases q1 : li = (1 : Int32)
    · refine Gl.via (fun _ k => XS.icmpNo X34.here hx rfl (hb hby at_67) rfl (teq q1).2 k) ?_
      show Gl p.tables e below T34 (mkF m 70 #[.val (.int p0), .val (.int p1), .val (.int p2), .val (.int p3), .val (.int p4), .val (.ref b1), .val (.ref b19), .val (.int li), .unset, .unset] []) G
      refine Gl.via (fun _ k => XS.iloadN X34.here hx rfl (hb hby at_70) rfl k) ?_
      show Gl p.tables e below T34 (mkF m 71 #[.val (.int p0), .val (.int p1), .val (.int p2), .val (.int p3), .val (.int p4), .val (.ref b1), .val (.ref b19), .val (.int li), .unset, .unset] [(.int p1)]) G
      refine Gl.via (fun _ k => XS.i2dS X34.here hx rfl (hb hby at_71) rfl rfl k) ?_
      show Gl p.tables e below T34 (mkF m 72 #[.val (.int p0), .val (.int p1), .val (.int p2), .val (.int p3), .val (.int p4), .val (.ref b1), .val (.ref b19), .val (.int li), .unset, .unset] [(.double (FP.i2d p1))]) G
      refine Gl.via (fun _ k => XS.dstore X34.here hx rfl (hb hby at_72) rfl (l' := #[.val (.int p0), .val (.int p1), .val (.int p2), .val (.int p3), .val (.int p4), .val (.ref b1), .val (.ref b19), .val (.int li), .val (.double (FP.i2d p1)), .second]) rfl k) ?_
      show Gl p.tables e below T34 (mkF m 74 #[.val (.int p0), .val (.int p1), .val (.int p2), .val (.int p3), .val (.int p4), .val (.ref b1), .val (.ref b19), .val (.int li), .val (.double (FP.i2d p1)), .second] []) G
      refine Gl.via (fun _ k => XS.goto X34.here hx rfl (pc0 := 74) (pc' := 94) rfl (hb hby at_74) (by decide) (by decide) k) ?_
      show Gl p.tables e below T34 (mkF m 94 #[.val (.int p0), .val (.int p1), .val (.int p2), .val (.int p3), .val (.int p4), .val (.ref b1), .val (.ref b19), .val (.int li), .val (.double (FP.i2d p1)), .second] []) G
      clear hl
      subst q1
      show Gl p.tables e below T34 (mkF m 94 #[.val (.int p0), .val (.int p1), .val (.int p2), .val (.int p3), .val (.int p4), .val (.ref b1), .val (.ref b19), .val (.int (1 : Int32)), .val (.double (FP.i2d p1)), .second] []) G
      refine Gl.via (fun _ k => XS.aload X34.here hx rfl (hb hby at_94) rfl rfl k) ?_
      show Gl p.tables e below T34 (mkF m 96 #[.val (.int p0), .val (.int p1), .val (.int p2), .val (.int p3), .val (.int p4), .val (.ref b1), .val (.ref b19), .val (.int (1 : Int32)), .val (.double (FP.i2d p1)), .second] [(.ref b19)]) G
      refine Gl.via (fun _ k => XS.iload X34.here hx rfl (hb hby at_96) rfl k) ?_
      show Gl p.tables e below T34 (mkF m 98 #[.val (.int p0), .val (.int p1), .val (.int p2), .val (.int p3), .val (.int p4), .val (.ref b1), .val (.ref b19), .val (.int (1 : Int32)), .val (.double (FP.i2d p1)), .second] [(.int (1 : Int32)), (.ref b19)]) G
      have G42 : Arv Z T34.heap b1 k1 .double (3 : Int32) [(.double (FP.i2d p1)), (.double (FP.i2d p2)), (.double (FP.i2d p3))] (.double (0 : UInt64)) := ((V18.ext E19).keep K34 (ninS ne20 nin0))
      obtain ⟨cq41, kq41, q41a, q41b, q41c⟩ := isOf hZ rfl P35
      obtain ⟨_, _, ⟨T41, L41, k41, n41⟩, -, X41, ⟨Lc41, hQ41, l41, y41, z41⟩, st41⟩ := X34.virtualBack hx (y := (⟨"com/example/sortie/sortie/solver/Segment", "load", "(I)D"⟩ : MethodName)) (z := (⟨"com/example/sortie/sortie/solver/Segment", "load", "(I)D"⟩ : MethodName)) hown (mvT hZ (hw _ (List.mem_of_getElem? (i := 34) rfl))) (mvT hZ (hw _ (List.mem_of_getElem? (i := 35) rfl))) (notFace_of_selects (args := #[]) (mvT hZ (hw _ (List.mem_of_getElem? (i := 37) rfl)))) (mvT hZ (hw _ (List.mem_of_getElem? (i := 37) rfl))) (mvT hZ (hw _ (List.mem_of_getElem? (i := 36) rfl))) (by decide) (backOf (W := 0) (load1 l Z a0 hw [] b19 (1 : Int32) b1 k1 (FP.i2d p1) (FP.i2d p2) (FP.i2d p3) (FP.i2d p1) T34.heap n0 Z38 P37 G42 q0 (by first | assumption | rfl | decide | omega) (by first | assumption | rfl | decide | omega)) hZ (hw _ (List.mem_of_getElem? (i := 38) rfl)) (hw _ (List.mem_of_getElem? (i := 3) rfl)) (by decide) (by decide)) q41a q41c (g := (mkF m 98 #[.val (.int p0), .val (.int p1), .val (.int p2), .val (.int p3), .val (.int p4), .val (.ref b1), .val (.ref b19), .val (.int (1 : Int32)), .val (.double (FP.i2d p1)), .second] [(.int (1 : Int32)), (.ref b19)])) rfl (by rw [hml]; rfl) (Steps.refl _) (argsL := [(.int (1 : Int32))]) (rest := []) (lenOf pd_2 rfl) rfl (by show 2 * 0 + _ ≤ _; exact Nat.le_of_eq rfl) (hb hby at_98) (fun _ _ => ⟨rfl, rfl, (by decide : 2 + 0 ≤ _), (by decide : 12 + 0 ≤ _)⟩)
      dsimp only [Pt.U, Pt.locs, Pt.cells, Pt.slots] at X41 l41 y41 z41 st41 hQ41
      subst l41 y41 z41
      obtain ⟨rfl, N41q, eh41⟩ := hQ41
      have N41_ := Fr.app N34_ N41q
      refine Gl.via (fun _ k => st41.trans k) ?_
      show Gl p.tables e below T41 (mkF m 101 #[.val (.int p0), .val (.int p1), .val (.int p2), .val (.int p3), .val (.int p4), .val (.ref b1), .val (.ref b19), .val (.int (1 : Int32)), .val (.double (FP.i2d p1)), .second] [(.double (FP.i2d p1))]) G
      refine Gl.via (fun _ k => XS.dload X41.here hx rfl (hb hby at_101) rfl k) ?_
      show Gl p.tables e below T41 (mkF m 103 #[.val (.int p0), .val (.int p1), .val (.int p2), .val (.int p3), .val (.int p4), .val (.ref b1), .val (.ref b19), .val (.int (1 : Int32)), .val (.double (FP.i2d p1)), .second] [(.double (FP.i2d p1)), (.double (FP.i2d p1))]) G
      refine Gl.via (fun _ k => XS.dcmpS X41.here hx rfl (v := (0 : Int32)) (hb hby at_103) rfl (dcmpV_self (i2d_fin _).noNaN _) k) ?_
      show Gl p.tables e below T41 (mkF m 104 #[.val (.int p0), .val (.int p1), .val (.int p2), .val (.int p3), .val (.int p4), .val (.ref b1), .val (.ref b19), .val (.int (1 : Int32)), .val (.double (FP.i2d p1)), .second] [(.int (0 : Int32))]) G
      refine Gl.via (fun _ k => XS.ifNo X41.here hx rfl (hb hby at_104) rfl ((if0 _ _).trans (teq (by decide)).2) k) ?_
      show Gl p.tables e below T41 (mkF m 107 #[.val (.int p0), .val (.int p1), .val (.int p2), .val (.int p3), .val (.int p4), .val (.ref b1), .val (.ref b19), .val (.int (1 : Int32)), .val (.double (FP.i2d p1)), .second] []) G
      refine Gl.via (fun _ k => XS.iconst X41.here hx rfl (hb hby at_107) k) ?_
      show Gl p.tables e below T41 (mkF m 108 #[.val (.int p0), .val (.int p1), .val (.int p2), .val (.int p3), .val (.int p4), .val (.ref b1), .val (.ref b19), .val (.int (1 : Int32)), .val (.double (FP.i2d p1)), .second] [(.int (1 : Int32))]) G
      refine Gl.via (fun _ k => XS.goto X41.here hx rfl (pc0 := 108) (pc' := 112) rfl (hb hby at_108) (by decide) (by decide) k) ?_
      show Gl p.tables e below T41 (mkF m 112 #[.val (.int p0), .val (.int p1), .val (.int p2), .val (.int p3), .val (.int p4), .val (.ref b1), .val (.ref b19), .val (.int (1 : Int32)), .val (.double (FP.i2d p1)), .second] [(.int (1 : Int32))]) G
      obtain ⟨fs, hr, hrun, hended, hW, hsame⟩ := X41.leave (v := some (.int (1 : Int32))) (fun h => by rw [Bd.returns] at h; cases h)
      have hq : ∀ L, Fr n0 L → Q_rm0 Z p0 p1 p2 p3 p4 h0 n0 (some (.int (1 : Int32))) T41.heap L := by
        intro L hN
        rw [eh41]
        exact ⟨rfl, hN⟩
      rw [hG]
      exact Gl.fin (retN X41 hx (t := .boolean) Bd.returns (by simp) (hb hby at_112) hr) ⟨_, hrun, hended, _, _, rfl, hq _ N41_, ⟨_, rfl⟩, hW, hsame.mono (by decide) (by decide)⟩
    · refine Gl.via (fun _ k => XS.icmpYes X34.here hx rfl (pc0 := 67) (pc' := 77) rfl (hb hby at_67) rfl (feq q1).2 (by decide) (by decide) k) ?_
      show Gl p.tables e below T34 (mkF m 77 #[.val (.int p0), .val (.int p1), .val (.int p2), .val (.int p3), .val (.int p4), .val (.ref b1), .val (.ref b19), .val (.int li), .unset, .unset] []) G
      refine Gl.via (fun _ k => XS.iload X34.here hx rfl (hb hby at_77) rfl k) ?_
      show Gl p.tables e below T34 (mkF m 79 #[.val (.int p0), .val (.int p1), .val (.int p2), .val (.int p3), .val (.int p4), .val (.ref b1), .val (.ref b19), .val (.int li), .unset, .unset] [(.int li)]) G
      refine Gl.via (fun _ k => XS.iconst X34.here hx rfl (hb hby at_79) k) ?_
      show Gl p.tables e below T34 (mkF m 80 #[.val (.int p0), .val (.int p1), .val (.int p2), .val (.int p3), .val (.int p4), .val (.ref b1), .val (.ref b19), .val (.int li), .unset, .unset] [(.int (2 : Int32)), (.int li)]) G
      by_cases q2 : li = (2 : Int32)
      · refine Gl.via (fun _ k => XS.icmpNo X34.here hx rfl (hb hby at_80) rfl (teq q2).2 k) ?_
        show Gl p.tables e below T34 (mkF m 83 #[.val (.int p0), .val (.int p1), .val (.int p2), .val (.int p3), .val (.int p4), .val (.ref b1), .val (.ref b19), .val (.int li), .unset, .unset] []) G
        refine Gl.via (fun _ k => XS.iloadN X34.here hx rfl (hb hby at_83) rfl k) ?_
        show Gl p.tables e below T34 (mkF m 84 #[.val (.int p0), .val (.int p1), .val (.int p2), .val (.int p3), .val (.int p4), .val (.ref b1), .val (.ref b19), .val (.int li), .unset, .unset] [(.int p2)]) G
        refine Gl.via (fun _ k => XS.i2dS X34.here hx rfl (hb hby at_84) rfl rfl k) ?_
        show Gl p.tables e below T34 (mkF m 85 #[.val (.int p0), .val (.int p1), .val (.int p2), .val (.int p3), .val (.int p4), .val (.ref b1), .val (.ref b19), .val (.int li), .unset, .unset] [(.double (FP.i2d p2))]) G
        refine Gl.via (fun _ k => XS.dstore X34.here hx rfl (hb hby at_85) rfl (l' := #[.val (.int p0), .val (.int p1), .val (.int p2), .val (.int p3), .val (.int p4), .val (.ref b1), .val (.ref b19), .val (.int li), .val (.double (FP.i2d p2)), .second]) rfl k) ?_
        show Gl p.tables e below T34 (mkF m 87 #[.val (.int p0), .val (.int p1), .val (.int p2), .val (.int p3), .val (.int p4), .val (.ref b1), .val (.ref b19), .val (.int li), .val (.double (FP.i2d p2)), .second] []) G
        refine Gl.via (fun _ k => XS.goto X34.here hx rfl (pc0 := 87) (pc' := 94) rfl (hb hby at_87) (by decide) (by decide) k) ?_
        show Gl p.tables e below T34 (mkF m 94 #[.val (.int p0), .val (.int p1), .val (.int p2), .val (.int p3), .val (.int p4), .val (.ref b1), .val (.ref b19), .val (.int li), .val (.double (FP.i2d p2)), .second] []) G
        clear hl
        subst q2
        show Gl p.tables e below T34 (mkF m 94 #[.val (.int p0), .val (.int p1), .val (.int p2), .val (.int p3), .val (.int p4), .val (.ref b1), .val (.ref b19), .val (.int (2 : Int32)), .val (.double (FP.i2d p2)), .second] []) G
        refine Gl.via (fun _ k => XS.aload X34.here hx rfl (hb hby at_94) rfl rfl k) ?_
        show Gl p.tables e below T34 (mkF m 96 #[.val (.int p0), .val (.int p1), .val (.int p2), .val (.int p3), .val (.int p4), .val (.ref b1), .val (.ref b19), .val (.int (2 : Int32)), .val (.double (FP.i2d p2)), .second] [(.ref b19)]) G
        refine Gl.via (fun _ k => XS.iload X34.here hx rfl (hb hby at_96) rfl k) ?_
        show Gl p.tables e below T34 (mkF m 98 #[.val (.int p0), .val (.int p1), .val (.int p2), .val (.int p3), .val (.int p4), .val (.ref b1), .val (.ref b19), .val (.int (2 : Int32)), .val (.double (FP.i2d p2)), .second] [(.int (2 : Int32)), (.ref b19)]) G
        have G44 : Arv Z T34.heap b1 k1 .double (3 : Int32) [(.double (FP.i2d p1)), (.double (FP.i2d p2)), (.double (FP.i2d p3))] (.double (0 : UInt64)) := ((V18.ext E19).keep K34 (ninS ne20 nin0))
        obtain ⟨cq43, kq43, q43a, q43b, q43c⟩ := isOf hZ rfl P35
        obtain ⟨_, _, ⟨T43, L43, k43, n43⟩, -, X43, ⟨Lc43, hQ43, l43, y43, z43⟩, st43⟩ := X34.virtualBack hx (y := (⟨"com/example/sortie/sortie/solver/Segment", "load", "(I)D"⟩ : MethodName)) (z := (⟨"com/example/sortie/sortie/solver/Segment", "load", "(I)D"⟩ : MethodName)) hown (mvT hZ (hw _ (List.mem_of_getElem? (i := 34) rfl))) (mvT hZ (hw _ (List.mem_of_getElem? (i := 35) rfl))) (notFace_of_selects (args := #[]) (mvT hZ (hw _ (List.mem_of_getElem? (i := 37) rfl)))) (mvT hZ (hw _ (List.mem_of_getElem? (i := 37) rfl))) (mvT hZ (hw _ (List.mem_of_getElem? (i := 36) rfl))) (by decide) (backOf (W := 0) (load1 l Z a0 hw [] b19 (2 : Int32) b1 k1 (FP.i2d p1) (FP.i2d p2) (FP.i2d p3) (FP.i2d p2) T34.heap n0 Z38 P37 G44 q0 (by first | assumption | rfl | decide | omega) (by first | assumption | rfl | decide | omega)) hZ (hw _ (List.mem_of_getElem? (i := 38) rfl)) (hw _ (List.mem_of_getElem? (i := 3) rfl)) (by decide) (by decide)) q43a q43c (g := (mkF m 98 #[.val (.int p0), .val (.int p1), .val (.int p2), .val (.int p3), .val (.int p4), .val (.ref b1), .val (.ref b19), .val (.int (2 : Int32)), .val (.double (FP.i2d p2)), .second] [(.int (2 : Int32)), (.ref b19)])) rfl (by rw [hml]; rfl) (Steps.refl _) (argsL := [(.int (2 : Int32))]) (rest := []) (lenOf pd_2 rfl) rfl (by show 2 * 0 + _ ≤ _; exact Nat.le_of_eq rfl) (hb hby at_98) (fun _ _ => ⟨rfl, rfl, (by decide : 2 + 0 ≤ _), (by decide : 12 + 0 ≤ _)⟩)
        dsimp only [Pt.U, Pt.locs, Pt.cells, Pt.slots] at X43 l43 y43 z43 st43 hQ43
        subst l43 y43 z43
        obtain ⟨rfl, N43q, eh43⟩ := hQ43
        have N43_ := Fr.app N34_ N43q
        refine Gl.via (fun _ k => st43.trans k) ?_
        show Gl p.tables e below T43 (mkF m 101 #[.val (.int p0), .val (.int p1), .val (.int p2), .val (.int p3), .val (.int p4), .val (.ref b1), .val (.ref b19), .val (.int (2 : Int32)), .val (.double (FP.i2d p2)), .second] [(.double (FP.i2d p2))]) G
        refine Gl.via (fun _ k => XS.dload X43.here hx rfl (hb hby at_101) rfl k) ?_
        show Gl p.tables e below T43 (mkF m 103 #[.val (.int p0), .val (.int p1), .val (.int p2), .val (.int p3), .val (.int p4), .val (.ref b1), .val (.ref b19), .val (.int (2 : Int32)), .val (.double (FP.i2d p2)), .second] [(.double (FP.i2d p2)), (.double (FP.i2d p2))]) G
        refine Gl.via (fun _ k => XS.dcmpS X43.here hx rfl (v := (0 : Int32)) (hb hby at_103) rfl (dcmpV_self (i2d_fin _).noNaN _) k) ?_
        show Gl p.tables e below T43 (mkF m 104 #[.val (.int p0), .val (.int p1), .val (.int p2), .val (.int p3), .val (.int p4), .val (.ref b1), .val (.ref b19), .val (.int (2 : Int32)), .val (.double (FP.i2d p2)), .second] [(.int (0 : Int32))]) G
        refine Gl.via (fun _ k => XS.ifNo X43.here hx rfl (hb hby at_104) rfl ((if0 _ _).trans (teq (by decide)).2) k) ?_
        show Gl p.tables e below T43 (mkF m 107 #[.val (.int p0), .val (.int p1), .val (.int p2), .val (.int p3), .val (.int p4), .val (.ref b1), .val (.ref b19), .val (.int (2 : Int32)), .val (.double (FP.i2d p2)), .second] []) G
        refine Gl.via (fun _ k => XS.iconst X43.here hx rfl (hb hby at_107) k) ?_
        show Gl p.tables e below T43 (mkF m 108 #[.val (.int p0), .val (.int p1), .val (.int p2), .val (.int p3), .val (.int p4), .val (.ref b1), .val (.ref b19), .val (.int (2 : Int32)), .val (.double (FP.i2d p2)), .second] [(.int (1 : Int32))]) G
        refine Gl.via (fun _ k => XS.goto X43.here hx rfl (pc0 := 108) (pc' := 112) rfl (hb hby at_108) (by decide) (by decide) k) ?_
        show Gl p.tables e below T43 (mkF m 112 #[.val (.int p0), .val (.int p1), .val (.int p2), .val (.int p3), .val (.int p4), .val (.ref b1), .val (.ref b19), .val (.int (2 : Int32)), .val (.double (FP.i2d p2)), .second] [(.int (1 : Int32))]) G
        obtain ⟨fs, hr, hrun, hended, hW, hsame⟩ := X43.leave (v := some (.int (1 : Int32))) (fun h => by rw [Bd.returns] at h; cases h)
        have hq : ∀ L, Fr n0 L → Q_rm0 Z p0 p1 p2 p3 p4 h0 n0 (some (.int (1 : Int32))) T43.heap L := by
          intro L hN
          rw [eh43]
          exact ⟨rfl, hN⟩
        rw [hG]
        exact Gl.fin (retN X43 hx (t := .boolean) Bd.returns (by simp) (hb hby at_112) hr) ⟨_, hrun, hended, _, _, rfl, hq _ N43_, ⟨_, rfl⟩, hW, hsame.mono (by decide) (by decide)⟩
      · refine Gl.via (fun _ k => XS.icmpYes X34.here hx rfl (pc0 := 80) (pc' := 90) rfl (hb hby at_80) rfl (feq q2).2 (by decide) (by decide) k) ?_
        show Gl p.tables e below T34 (mkF m 90 #[.val (.int p0), .val (.int p1), .val (.int p2), .val (.int p3), .val (.int p4), .val (.ref b1), .val (.ref b19), .val (.int li), .unset, .unset] []) G
        refine Gl.via (fun _ k => XS.iloadN X34.here hx rfl (hb hby at_90) rfl k) ?_
        show Gl p.tables e below T34 (mkF m 91 #[.val (.int p0), .val (.int p1), .val (.int p2), .val (.int p3), .val (.int p4), .val (.ref b1), .val (.ref b19), .val (.int li), .unset, .unset] [(.int p3)]) G
        refine Gl.via (fun _ k => XS.i2dS X34.here hx rfl (hb hby at_91) rfl rfl k) ?_
        show Gl p.tables e below T34 (mkF m 92 #[.val (.int p0), .val (.int p1), .val (.int p2), .val (.int p3), .val (.int p4), .val (.ref b1), .val (.ref b19), .val (.int li), .unset, .unset] [(.double (FP.i2d p3))]) G
        refine Gl.via (fun _ k => XS.dstore X34.here hx rfl (hb hby at_92) rfl (l' := #[.val (.int p0), .val (.int p1), .val (.int p2), .val (.int p3), .val (.int p4), .val (.ref b1), .val (.ref b19), .val (.int li), .val (.double (FP.i2d p3)), .second]) rfl k) ?_
        show Gl p.tables e below T34 (mkF m 94 #[.val (.int p0), .val (.int p1), .val (.int p2), .val (.int p3), .val (.int p4), .val (.ref b1), .val (.ref b19), .val (.int li), .val (.double (FP.i2d p3)), .second] []) G
        clear hl
        obtain rfl : li = (3 : Int32) := own_three hbd q0 q1 q2
        show Gl p.tables e below T34 (mkF m 94 #[.val (.int p0), .val (.int p1), .val (.int p2), .val (.int p3), .val (.int p4), .val (.ref b1), .val (.ref b19), .val (.int (3 : Int32)), .val (.double (FP.i2d p3)), .second] []) G
        refine Gl.via (fun _ k => XS.aload X34.here hx rfl (hb hby at_94) rfl rfl k) ?_
        show Gl p.tables e below T34 (mkF m 96 #[.val (.int p0), .val (.int p1), .val (.int p2), .val (.int p3), .val (.int p4), .val (.ref b1), .val (.ref b19), .val (.int (3 : Int32)), .val (.double (FP.i2d p3)), .second] [(.ref b19)]) G
        refine Gl.via (fun _ k => XS.iload X34.here hx rfl (hb hby at_96) rfl k) ?_
        show Gl p.tables e below T34 (mkF m 98 #[.val (.int p0), .val (.int p1), .val (.int p2), .val (.int p3), .val (.int p4), .val (.ref b1), .val (.ref b19), .val (.int (3 : Int32)), .val (.double (FP.i2d p3)), .second] [(.int (3 : Int32)), (.ref b19)]) G
        have G46 : Arv Z T34.heap b1 k1 .double (3 : Int32) [(.double (FP.i2d p1)), (.double (FP.i2d p2)), (.double (FP.i2d p3))] (.double (0 : UInt64)) := ((V18.ext E19).keep K34 (ninS ne20 nin0))
        obtain ⟨cq45, kq45, q45a, q45b, q45c⟩ := isOf hZ rfl P35
        obtain ⟨_, _, ⟨T45, L45, k45, n45⟩, -, X45, ⟨Lc45, hQ45, l45, y45, z45⟩, st45⟩ := X34.virtualBack hx (y := (⟨"com/example/sortie/sortie/solver/Segment", "load", "(I)D"⟩ : MethodName)) (z := (⟨"com/example/sortie/sortie/solver/Segment", "load", "(I)D"⟩ : MethodName)) hown (mvT hZ (hw _ (List.mem_of_getElem? (i := 34) rfl))) (mvT hZ (hw _ (List.mem_of_getElem? (i := 35) rfl))) (notFace_of_selects (args := #[]) (mvT hZ (hw _ (List.mem_of_getElem? (i := 37) rfl)))) (mvT hZ (hw _ (List.mem_of_getElem? (i := 37) rfl))) (mvT hZ (hw _ (List.mem_of_getElem? (i := 36) rfl))) (by decide) (backOf (W := 0) (load1 l Z a0 hw [] b19 (3 : Int32) b1 k1 (FP.i2d p1) (FP.i2d p2) (FP.i2d p3) (FP.i2d p3) T34.heap n0 Z38 P37 G46 q0 (by first | assumption | rfl | decide | omega) (by first | assumption | rfl | decide | omega)) hZ (hw _ (List.mem_of_getElem? (i := 38) rfl)) (hw _ (List.mem_of_getElem? (i := 3) rfl)) (by decide) (by decide)) q45a q45c (g := (mkF m 98 #[.val (.int p0), .val (.int p1), .val (.int p2), .val (.int p3), .val (.int p4), .val (.ref b1), .val (.ref b19), .val (.int (3 : Int32)), .val (.double (FP.i2d p3)), .second] [(.int (3 : Int32)), (.ref b19)])) rfl (by rw [hml]; rfl) (Steps.refl _) (argsL := [(.int (3 : Int32))]) (rest := []) (lenOf pd_2 rfl) rfl (by show 2 * 0 + _ ≤ _; exact Nat.le_of_eq rfl) (hb hby at_98) (fun _ _ => ⟨rfl, rfl, (by decide : 2 + 0 ≤ _), (by decide : 12 + 0 ≤ _)⟩)
        dsimp only [Pt.U, Pt.locs, Pt.cells, Pt.slots] at X45 l45 y45 z45 st45 hQ45
        subst l45 y45 z45
        obtain ⟨rfl, N45q, eh45⟩ := hQ45
        have N45_ := Fr.app N34_ N45q
        refine Gl.via (fun _ k => st45.trans k) ?_
        show Gl p.tables e below T45 (mkF m 101 #[.val (.int p0), .val (.int p1), .val (.int p2), .val (.int p3), .val (.int p4), .val (.ref b1), .val (.ref b19), .val (.int (3 : Int32)), .val (.double (FP.i2d p3)), .second] [(.double (FP.i2d p3))]) G
        refine Gl.via (fun _ k => XS.dload X45.here hx rfl (hb hby at_101) rfl k) ?_
        show Gl p.tables e below T45 (mkF m 103 #[.val (.int p0), .val (.int p1), .val (.int p2), .val (.int p3), .val (.int p4), .val (.ref b1), .val (.ref b19), .val (.int (3 : Int32)), .val (.double (FP.i2d p3)), .second] [(.double (FP.i2d p3)), (.double (FP.i2d p3))]) G
        refine Gl.via (fun _ k => XS.dcmpS X45.here hx rfl (v := (0 : Int32)) (hb hby at_103) rfl (dcmpV_self (i2d_fin _).noNaN _) k) ?_
        show Gl p.tables e below T45 (mkF m 104 #[.val (.int p0), .val (.int p1), .val (.int p2), .val (.int p3), .val (.int p4), .val (.ref b1), .val (.ref b19), .val (.int (3 : Int32)), .val (.double (FP.i2d p3)), .second] [(.int (0 : Int32))]) G
        refine Gl.via (fun _ k => XS.ifNo X45.here hx rfl (hb hby at_104) rfl ((if0 _ _).trans (teq (by decide)).2) k) ?_
        show Gl p.tables e below T45 (mkF m 107 #[.val (.int p0), .val (.int p1), .val (.int p2), .val (.int p3), .val (.int p4), .val (.ref b1), .val (.ref b19), .val (.int (3 : Int32)), .val (.double (FP.i2d p3)), .second] []) G
        refine Gl.via (fun _ k => XS.iconst X45.here hx rfl (hb hby at_107) k) ?_
        show Gl p.tables e below T45 (mkF m 108 #[.val (.int p0), .val (.int p1), .val (.int p2), .val (.int p3), .val (.int p4), .val (.ref b1), .val (.ref b19), .val (.int (3 : Int32)), .val (.double (FP.i2d p3)), .second] [(.int (1 : Int32))]) G
        refine Gl.via (fun _ k => XS.goto X45.here hx rfl (pc0 := 108) (pc' := 112) rfl (hb hby at_108) (by decide) (by decide) k) ?_
        show Gl p.tables e below T45 (mkF m 112 #[.val (.int p0), .val (.int p1), .val (.int p2), .val (.int p3), .val (.int p4), .val (.ref b1), .val (.ref b19), .val (.int (3 : Int32)), .val (.double (FP.i2d p3)), .second] [(.int (1 : Int32))]) G
        obtain ⟨fs, hr, hrun, hended, hW, hsame⟩ := X45.leave (v := some (.int (1 : Int32))) (fun h => by rw [Bd.returns] at h; cases h)
        have hq : ∀ L, Fr n0 L → Q_rm0 Z p0 p1 p2 p3 p4 h0 n0 (some (.int (1 : Int32))) T45.heap L := by
          intro L hN
          rw [eh45]
          exact ⟨rfl, hN⟩
        rw [hG]
        exact Gl.fin (retN X45 hx (t := .boolean) Bd.returns (by simp) (hb hby at_112) hr) ⟨_, hrun, hended, _, _, rfl, hq _ N45_, ⟨_, rfl⟩, hW, hsame.mono (by decide) (by decide)⟩
set_option maxRecDepth 65536 in
set_option maxHeartbeats 40000000 in
theorem comes_1 {Post : Tables → Env → Array Value → State → Outcome → State → Prop} (hpost : ∀ tb e args s v u, (limb_1_1.after args s (.returned v) u = true ∧ limb_1_2.after args s (.returned v) u = true ∧ True) → FrameEnd s (.returned v) u (Jvm.fieldLocs frame_1_writes args s ++ Jvm.arrayLocs frame_1_arrays args s ++ Jvm.staticLocs frame_1_statics s) 16 128 → Post tb e args s (.returned v) u) :
    ArmFor flags0 classFile x code maxLocals ret World_1 tables_1 room_1 Calls_1 rest_1 Pre_1 Post := by
  intro l hfl _ _ p e ha hc hk s m args below hf hA hF happ hP
  obtain ⟨hcalls, hrest, hpre⟩ := hP
  obtain ⟨-, -, -, hnamed, -, -, -, hat⟩ := (Spec.applies_iff hf).mp happ
  obtain ⟨hg, hn⟩ := and_e (Cond.before_iff.mp (show (Jvm.Cond.and given_1 narrow_1).before args s = true from hpre))
  obtain ⟨g1, g2⟩ := and_e hg
  obtain ⟨g3, g4⟩ := and_e g2
  obtain ⟨g5, g6⟩ := and_e g4
  obtain ⟨g7, g8⟩ := and_e g6
  obtain ⟨g9, g10⟩ := and_e g8
  obtain ⟨w0, w1, w2, w3, w4, rfl⟩ : ∃ w0 w1 w2 w3 w4 : Value, args = #[w0, w1, w2, w3, w4] := by
    have hs : args.size = 5 := by simpa [Cond.value, given_1] using g1
    obtain ⟨L⟩ := args
    match L, hs with
    | [w0, w1, w2, w3, w4], _ => exact ⟨w0, w1, w2, w3, w4, rfl⟩
  have hw := fun d (hd : d ∈ tables_1) => atoms_spec (ws := Jvm.Cond.code x code maxLocals ret :: tables_1) hat d (List.mem_cons_of_mem _ hd)
  have hfit : Fit s := fun {y c} hc i hi => by
    obtain ⟨ha, rfl⟩ := Array.getElem?_eq_some_iff.mp hc
    have q := List.all_eq_true.mp ((Array.all_eq_true_iff_forall_mem.mp hF) _ (Array.getElem_mem ha)) i (List.mem_range.mpr hi)
    simpa [Array.getElem?_eq_getElem hi] using q
  obtain ⟨i0, ei0⟩ := is_v g3
  obtain rfl : w0 = (.int i0) := Option.some.inj ei0
  obtain ⟨i1, ei1⟩ := is_v g5
  obtain rfl : w1 = (.int i1) := Option.some.inj ei1
  obtain ⟨i2, ei2⟩ := is_v g7
  obtain rfl : w2 = (.int i2) := Option.some.inj ei2
  obtain ⟨i3, ei3⟩ := is_v g9
  obtain rfl : w3 = (.int i3) := Option.some.inj ei3
  obtain ⟨i4, ei4⟩ := is_v g10
  obtain rfl : w4 = (.int i4) := Option.some.inj ei4
  obtain ⟨n, o, h1, h2, h3, _, L, rfl, ⟨rfl, N⟩, hq⟩ := rm0 l s _ hw tables_1 i0 i1 i2 i3 i4 s.heap s.heap.size (Nat.le_refl _)  p e ha hc hk s m _ below hf ((Spec.applies_iff_loose hf).mp happ).1 ⟨rfl, State.Warmed39.refl s, rfl⟩ trivial
  refine ⟨n, _, h1, h2, h3, hpost _ _ _ _ _ _ ⟨Cond.after_iff.mpr rfl, Cond.after_iff.mpr (eq_i res_at (Term.int_eval (1)) rfl), trivial⟩ ⟨hq.1, hq.2.1, (hq.2.2.sift fun y hy => Or.inr (N y hy)).mono (by decide) (by decide)⟩⟩
theorem main_1_1 : Claimed_1_1 := comes_1 fun _ _ _ _ _ _ h hF => ⟨h.1, hF⟩
theorem main_1_2 : Claimed_1_2 := comes_1 fun _ _ _ _ _ _ h hF => ⟨h.2.1, hF⟩
end Jvm.Pilot.@@N@@
namespace Jvm.Pilot.@@N@@
open Jvm Jvm.ClassFile Sem Op Lib Jvm.Free Jvm.Stand Jvm.Pilot.@@N@@.Jvm.D
/-! MADE BY PROGRAM (witnessworld.py) out of the Statement's table words and the real class files: 12 classes; the members and pool entries that the words name. The judged class is class 1, her method 1. -/
namespace start1
open Jvm.ClassFile
def u (s : String) : CpInfo := .utf8 (stringToUtf16 s)
/-- a pool by its gaps: so many unusable entries, then the entry; so many at the end -/
def gap : Nat → List CpInfo → List CpInfo
  | 0, r => r
  | n + 1, r => .unusable :: gap n r
def poolList (es : List (Nat × CpInfo)) (last : Nat) : List CpInfo := es.foldr (fun e r => gap e.1 (e.2 :: r)) (gap last [])
def pool (es : List (Nat × CpInfo)) (last : Nat) : Array CpInfo := ⟨poolList es last⟩
def fileOf (pool : Array CpInfo) (this : Nat) (attrs : Array Attribute := #[]) (ms : Array MethodInfo := #[]) (fl : Nat := 33) (sup : Nat := 0) (ifs : Array Nat := #[]) (fds : Array FieldInfo := #[]) : ClassFile where
  minorVersion := 0
  majorVersion := 65
  constantPool := pool
  accessFlags := fl
  thisClass := this
  superClass := sup
  interfaces := ifs
  fields := fds
  methods := ms
  attributes := attrs
def plain (name : String) (sup : Option ClassId) : Class where
  name := name
  kind := .ordinary
  loader := none
  accessFlags := 33
  super := sup
  interfaces := #[]
  cf := none
  fields := #[]
  methods := #[]
  instanceTypes := #[]
  staticTypes := #[]
  resolved := #[]
  callSites := []
  init := .initialized
  statics := none
  mirror := none

def pool0 : Array CpInfo := pool [(5, u "<init>"), (0, u "()V"), (1, .class_ 10), (1, u "java/lang/Object")] 113

def k0c0 : Code := { maxStack := 0, maxLocals := 1, code := object_method_1_code, exceptionTable := #[], attributes := #[] }
def k0m0 : Method := { name := "<init>", desc := "()V", sig := { parameters := [], returnType := none }, accessFlags := 1, code := some k0c0 }
/-- java/lang/Object -/
def k0 : Class := { plain "java/lang/Object" none with
  accessFlags := 33
  interfaces := #[]
  cf := some (fileOf pool0 8 #[] #[{ accessFlags := 1, nameIndex := 5, descriptorIndex := 6, attributes := #[] }] 33 0 #[] #[])
  fields := #[]
  methods := #[k0m0]
  instanceTypes := #[]
  staticTypes := #[]
  resolved := Array.replicate 124 none
  statics := none }

def pool1 : Array CpInfo := pool [(2, .class_ 4), (1, u "java/lang/Object"), (0, u "<init>"), (0, u "()V"), (0, .class_ 8), (0, u "com/example/sortie/sortie/solver/Segment"), (0, .methodref 7 10), (0, .nameAndType 5 11), (0, u "(IIDDDDDD[D)V"), (0, .integer 2147483647), (0, .methodref 7 14), (0, .nameAndType 15 16), (0, u "load"), (0, u "(I)D"), (0, .class_ 18), (0, u "com/example/sortie/sortie/solver/SegmentLoadPinLaw"), (2, u "law"), (0, u "(IIIII)Z")] 5

def k1m0 : Method := { name := "<init>", desc := "()V", sig := { parameters := [], returnType := none }, accessFlags := 1, code := none }
def k1c1 : Code := { maxStack := 17, maxLocals := 10, code := code, exceptionTable := #[], attributes := #[] }
def k1m1 : Method := { name := "law", desc := "(IIIII)Z", sig := { parameters := [.int, .int, .int, .int, .int], returnType := some .boolean }, accessFlags := 9, code := some k1c1 }
/-- com/example/sortie/sortie/solver/SegmentLoadPinLaw -/
def k1 : Class := { plain "com/example/sortie/sortie/solver/SegmentLoadPinLaw" (some 0) with
  accessFlags := 49
  interfaces := #[]
  cf := some (fileOf pool1 17 #[] #[{ accessFlags := 1, nameIndex := 5, descriptorIndex := 6, attributes := #[] }, { accessFlags := 9, nameIndex := 21, descriptorIndex := 22, attributes := #[] }] 49 2 #[] #[])
  fields := #[]
  methods := #[k1m0, k1m1]
  instanceTypes := #[]
  staticTypes := #[]
  resolved := Array.replicate 28 none
  statics := none }

def pool2 : Array CpInfo := pool [(1, .methodref 2 3), (0, .class_ 4), (0, .nameAndType 5 6), (0, u "java/lang/Object"), (0, u "<init>"), (0, u "()V"), (0, .class_ 8), (0, u "java/lang/Record")] 13

def k2c0 : Code := { maxStack := 1, maxLocals := 1, code := jdk_30_method_1_code, exceptionTable := #[], attributes := #[] }
def k2m0 : Method := { name := "<init>", desc := "()V", sig := { parameters := [], returnType := none }, accessFlags := 4, code := some k2c0 }
/-- java/lang/Record -/
def k2 : Class := { plain "java/lang/Record" (some 0) with
  accessFlags := 1057
  interfaces := #[]
  cf := some (fileOf pool2 7 #[] #[{ accessFlags := 4, nameIndex := 5, descriptorIndex := 6, attributes := #[] }] 1057 2 #[] #[])
  fields := #[]
  methods := #[k2m0]
  instanceTypes := #[]
  staticTypes := #[]
  resolved := Array.replicate 22 none
  statics := none }

def pool3 : Array CpInfo := pool [(1, .methodref 2 3), (0, .class_ 4), (0, .nameAndType 5 6), (0, u "java/lang/Record"), (0, u "<init>"), (0, u "()V"), (0, .fieldref 8 9), (0, .class_ 10), (0, .nameAndType 11 12), (0, u "com/example/sortie/sortie/solver/Segment"), (0, u "first"), (0, u "I"), (0, .fieldref 8 14), (0, .nameAndType 15 12), (0, u "last"), (0, .fieldref 8 17), (0, .nameAndType 18 19), (0, u "duration"), (0, u "D"), (0, .fieldref 8 21), (0, .nameAndType 22 19), (0, u "timeWarp"), (0, .fieldref 8 24), (0, .nameAndType 25 19), (0, u "earliest"), (0, .fieldref 8 27), (0, .nameAndType 28 19), (0, u "latest"), (0, .fieldref 8 30), (0, .nameAndType 31 19), (0, u "distance"), (0, .fieldref 8 33), (0, .nameAndType 34 19), (0, u "load"), (0, .fieldref 8 36), (0, .nameAndType 37 38), (0, u "moreLoads"), (0, u "[D"), (2, u "NO_LOADS"), (8, u "(IIDDDDDD[D)V"), (32, u "(I)D")] 36

def k3c0 : Code := { maxStack := 3, maxLocals := 16, code := prog_65_method_1_code, exceptionTable := #[], attributes := #[] }
def k3m0 : Method := { name := "<init>", desc := "(IIDDDDDD[D)V", sig := { parameters := [.int, .int, .double, .double, .double, .double, .double, .double, (.array .double)], returnType := none }, accessFlags := 0, code := some k3c0 }
def k3c1 : Code := { maxStack := 3, maxLocals := 4, code := prog_65_method_3_code, exceptionTable := #[], attributes := #[] }
def k3m1 : Method := { name := "load", desc := "(I)D", sig := { parameters := [.int], returnType := some .double }, accessFlags := 0, code := some k3c1 }
/-- com/example/sortie/sortie/solver/Segment -/
def k3 : Class := { plain "com/example/sortie/sortie/solver/Segment" (some 2) with
  accessFlags := 48
  interfaces := #[]
  cf := some (fileOf pool3 8 #[] #[{ accessFlags := 0, nameIndex := 5, descriptorIndex := 50, attributes := #[] }, { accessFlags := 0, nameIndex := 34, descriptorIndex := 83, attributes := #[] }] 48 2 #[] #[{ accessFlags := 18, nameIndex := 11, descriptorIndex := 12, attributes := #[] }, { accessFlags := 18, nameIndex := 15, descriptorIndex := 12, attributes := #[] }, { accessFlags := 18, nameIndex := 18, descriptorIndex := 19, attributes := #[] }, { accessFlags := 18, nameIndex := 22, descriptorIndex := 19, attributes := #[] }, { accessFlags := 18, nameIndex := 25, descriptorIndex := 19, attributes := #[] }, { accessFlags := 18, nameIndex := 28, descriptorIndex := 19, attributes := #[] }, { accessFlags := 18, nameIndex := 31, descriptorIndex := 19, attributes := #[] }, { accessFlags := 18, nameIndex := 34, descriptorIndex := 19, attributes := #[] }, { accessFlags := 18, nameIndex := 37, descriptorIndex := 38, attributes := #[] }, { accessFlags := 26, nameIndex := 41, descriptorIndex := 38, attributes := #[] }])
  fields := #[{ name := "first", type := .int, accessFlags := 18, slot := 0, constantValue := 0 }, { name := "last", type := .int, accessFlags := 18, slot := 1, constantValue := 0 }, { name := "duration", type := .double, accessFlags := 18, slot := 2, constantValue := 0 }, { name := "timeWarp", type := .double, accessFlags := 18, slot := 3, constantValue := 0 }, { name := "earliest", type := .double, accessFlags := 18, slot := 4, constantValue := 0 }, { name := "latest", type := .double, accessFlags := 18, slot := 5, constantValue := 0 }, { name := "distance", type := .double, accessFlags := 18, slot := 6, constantValue := 0 }, { name := "load", type := .double, accessFlags := 18, slot := 7, constantValue := 0 }, { name := "moreLoads", type := (.array .double), accessFlags := 18, slot := 8, constantValue := 0 }, { name := "NO_LOADS", type := (.array .double), accessFlags := 26, slot := 0, constantValue := 0 }]
  methods := #[k3m0, k3m1]
  instanceTypes := #[.int, .int, .double, .double, .double, .double, .double, .double, (.array .double)]
  staticTypes := #[(.array .double)]
  resolved := Array.replicate 120 none
  statics := none }

def pool4 : Array CpInfo := pool [(1, u "java/lang/Cloneable"), (0, .class_ 1), (0, u "java/lang/Object"), (0, .class_ 3)] 3

/-- java/lang/Cloneable -/
def k4 : Class := { plain "java/lang/Cloneable" (some 0) with
  accessFlags := 1537
  interfaces := #[]
  cf := some (fileOf pool4 2 #[] #[] 1537 4 #[] #[])
  fields := #[]
  methods := #[]
  instanceTypes := #[]
  staticTypes := #[]
  resolved := Array.replicate 8 none
  statics := none }

def pool5 : Array CpInfo := pool [(1, u "java/io/Serializable"), (0, .class_ 1), (0, u "java/lang/Object"), (0, .class_ 3)] 3

/-- java/io/Serializable -/
def k5 : Class := { plain "java/io/Serializable" (some 0) with
  accessFlags := 1537
  interfaces := #[]
  cf := some (fileOf pool5 2 #[] #[] 1537 4 #[] #[])
  fields := #[]
  methods := #[]
  instanceTypes := #[]
  staticTypes := #[]
  resolved := Array.replicate 8 none
  statics := none }

/-- the primitive byte -/
def k6 : Class := { plain "byte" none with kind := .primitive 'B', accessFlags := 0x411 }
/-- [B -/
def k7 : Class := { plain "[B" (some 0) with kind := .array 6 .byte, interfaces := #[4, 5], accessFlags := 1041 }

/-- the primitive double -/
def k8 : Class := { plain "double" none with kind := .primitive 'D', accessFlags := 0x411 }
/-- [D -/
def k9 : Class := { plain "[D" (some 0) with kind := .array 8 .double, interfaces := #[4, 5], accessFlags := 1041 }

/-- the primitive int -/
def k10 : Class := { plain "int" none with kind := .primitive 'I', accessFlags := 0x411 }
/-- [I -/
def k11 : Class := { plain "[I" (some 0) with kind := .array 10 .int, interfaces := #[4, 5], accessFlags := 1041 }

def heap : Heap := #[]
def classes : Array Class := #[k0, k1, k2, k3, k4, k5, k6, k7, k8, k9, k10, k11]
def interned : List (Array UInt16 × Addr) := []
def slotsUsed : Nat := 0
def theMethod : MethodId := ⟨1, 1⟩
def args0 : Array Value := #[.int 5, .int 7, .int 2, .int 9, .int 6]
def aboutOver (below : List Frame) : State where
  vm := { classes := classes, interned := interned.toArray }
  heap := heap
  slotsUsed := slotsUsed
  threads := #[{ frames := .invoking theMethod args0 :: below }]
def below0 : List Frame := [.native { method := ⟨0, 0⟩, args := #[] }]
def about1 : State := aboutOver below0
def p0 : Program := .bare "" "" ""
def e0 : Env := launch0.env 0 0 0
theorem w_frames : about1.frames = Frame.invoking theMethod args0 :: below0 := rfl
set_option maxRecDepth 65536 in
theorem w_args : argsFit about1.vm theMethod args0 = true := by decide +kernel
set_option maxRecDepth 65536 in
theorem w_heap : heapFits about1 = true := by decide +kernel
set_option maxRecDepth 65536 in
theorem w_runnable : about1.curStatus? = some .runnable := by decide +kernel
set_option maxRecDepth 65536 in
theorem w_alone : about1.alone = true := by decide +kernel
set_option maxRecDepth 65536 in
theorem w_named : about1.methodNamed? x = some theMethod := by decide +kernel
set_option maxRecDepth 65536 in
theorem w_hears : about1.hears theMethod below0 = true := by decide +kernel
set_option maxRecDepth 65536 in
theorem w_ripe : about1.ripe theMethod args0 below0 = true := by decide +kernel
theorem w_running : about1.status = .running := rfl
set_option maxRecDepth 65536 in
theorem w_room : about1.hasRoom e0.platform room_1 = true :=
  launch0.hasRoom_least _ room_1 (by decide +kernel) (by decide +kernel) (by decide +kernel) (by decide +kernel) (by decide +kernel) (by decide +kernel)
theorem allAtoms_all (ts : List Jvm.Cond) (a : Array Jvm.Value) (st : Jvm.State) : (allAtoms ts).before a st = ts.all (fun c => c.before a st) := by
  induction ts with
  | nil => rfl
  | cons c t ih =>
    show (Jvm.Cond.and c (allAtoms t)).before a st = _
    rw [Jvm.Cond.before_and, ih, List.all_cons]
def words1 : List Jvm.Cond := Jvm.Cond.code x code maxLocals ret :: tables_1
/-- a 'code' word, met by the world's own term for the bytes: nothing is compared byte by byte -/
theorem code_word {y : MethodName} {bytes : ByteArray} {mx : Nat} {rt : Option FieldType} {a : Array Value} {s : State} {m : MethodId} {meth : Method} {c : Code} (h1 : s.methodNamed? y = some m) (h2 : s.vm.method? m = some meth) (h3 : meth.code = some c) (h4 : c.code = bytes)
    (h5 : (c.maxLocals == mx && c.exceptionTable.isEmpty && decide (c.maxStack ≤ mostOperands) && decide (meth.sig.returnType = rt) && !meth.locks && decide (parseMethodDescriptor y.desc = some meth.sig)) = true) : (Jvm.Cond.code y bytes mx rt).before a s = true := by
  simp only [Bool.and_eq_true, beq_iff_eq, Bool.not_eq_true', decide_eq_true_eq] at h5
  obtain ⟨⟨⟨⟨⟨g1, g2⟩, g3⟩, g4⟩, g5⟩, g6⟩ := h5
  simp [Cond.before, Cond.holds, Cond.value, h1, h2, h3, h4, g1, g2, g3, g4, g5, g6]
def isCode : Jvm.Cond → Bool
  | .code _ _ _ _ => true
  | _ => false
theorem all_split {L : List Jvm.Cond} {P : Jvm.Cond → Bool} (h1 : L.all (fun c => isCode c || P c) = true) (h2 : ∀ c ∈ L.filter isCode, P c = true) : L.all P = true := by
  refine List.all_eq_true.mpr fun c hc => ?_
  have h := List.all_eq_true.mp h1 c hc
  rcases Bool.eq_false_or_eq_true (isCode c) with hi | hi
  · exact h2 c (List.mem_filter.mpr ⟨hc, hi⟩)
  · simpa [hi] using h
set_option maxRecDepth 65536 in
theorem w_c0 : (Jvm.Cond.code x code maxLocals ret).before args0 about1 = true := code_word (m := ⟨1, 1⟩) (meth := k1m1) (c := k1c1) (by decide +kernel) rfl rfl rfl (by decide +kernel)
set_option maxRecDepth 65536 in
theorem w_c1 : (Jvm.Cond.code ({ cls := "com/example/sortie/sortie/solver/Segment", name := "<init>", desc := "(IIDDDDDD[D)V" } : Jvm.MethodName) prog_65_method_1_code (16 : Nat) (Option.none : Option Jvm.ClassFile.FieldType)).before args0 about1 = true := code_word (m := ⟨3, 0⟩) (meth := k3m0) (c := k3c0) (by decide +kernel) rfl rfl rfl (by decide +kernel)
set_option maxRecDepth 65536 in
theorem w_c2 : (Jvm.Cond.code ({ cls := "java/lang/Record", name := "<init>", desc := "()V" } : Jvm.MethodName) jdk_30_method_1_code (1 : Nat) (Option.none : Option Jvm.ClassFile.FieldType)).before args0 about1 = true := code_word (m := ⟨2, 0⟩) (meth := k2m0) (c := k2c0) (by decide +kernel) rfl rfl rfl (by decide +kernel)
set_option maxRecDepth 65536 in
theorem w_c3 : (Jvm.Cond.code ({ cls := "java/lang/Object", name := "<init>", desc := "()V" } : Jvm.MethodName) object_method_1_code (1 : Nat) (Option.none : Option Jvm.ClassFile.FieldType)).before args0 about1 = true := code_word (m := ⟨0, 0⟩) (meth := k0m0) (c := k0c0) (by decide +kernel) rfl rfl rfl (by decide +kernel)
set_option maxRecDepth 65536 in
theorem w_c4 : (Jvm.Cond.code ({ cls := "com/example/sortie/sortie/solver/Segment", name := "load", desc := "(I)D" } : Jvm.MethodName) prog_65_method_3_code (4 : Nat) (Option.some Jvm.ClassFile.FieldType.double)).before args0 about1 = true := code_word (m := ⟨3, 1⟩) (meth := k3m1) (c := k3c1) (by decide +kernel) rfl rfl rfl (by decide +kernel)
def codes1 : List Jvm.Cond := [Jvm.Cond.code x code maxLocals ret, Jvm.Cond.code ({ cls := "com/example/sortie/sortie/solver/Segment", name := "<init>", desc := "(IIDDDDDD[D)V" } : Jvm.MethodName) prog_65_method_1_code (16 : Nat) (Option.none : Option Jvm.ClassFile.FieldType), Jvm.Cond.code ({ cls := "java/lang/Record", name := "<init>", desc := "()V" } : Jvm.MethodName) jdk_30_method_1_code (1 : Nat) (Option.none : Option Jvm.ClassFile.FieldType), Jvm.Cond.code ({ cls := "java/lang/Object", name := "<init>", desc := "()V" } : Jvm.MethodName) object_method_1_code (1 : Nat) (Option.none : Option Jvm.ClassFile.FieldType), Jvm.Cond.code ({ cls := "com/example/sortie/sortie/solver/Segment", name := "load", desc := "(I)D" } : Jvm.MethodName) prog_65_method_3_code (4 : Nat) (Option.some Jvm.ClassFile.FieldType.double)]
set_option maxRecDepth 65536 in
theorem codes_eq : words1.filter isCode = codes1 := rfl
theorem w_codes : ∀ c ∈ words1.filter isCode, c.before args0 about1 = true := by
  rw [codes_eq]
  intro c hc
  simp only [codes1, List.mem_cons, List.not_mem_nil, or_false] at hc
  rcases hc with rfl | rfl | rfl | rfl | rfl
  · exact w_c0
  · exact w_c1
  · exact w_c2
  · exact w_c3
  · exact w_c4
set_option maxRecDepth 65536 in
theorem w_t1 : (words1.take 24).all (fun c => isCode c || c.before args0 about1) = true := by decide +kernel
set_option maxRecDepth 65536 in
theorem w_t2 : (words1.drop 24).all (fun c => isCode c || c.before args0 about1) = true := by decide +kernel
theorem w_tables : (allAtoms (Jvm.Cond.code x code maxLocals ret :: tables_1)).before args0 about1 = true := by
  rw [allAtoms_all]
  show words1.all (fun c => c.before args0 about1) = true
  refine all_split ?_ w_codes
  rw [← List.take_append_drop 24 words1, List.all_append, w_t1, w_t2]
  rfl
set_option maxRecDepth 65536 in
theorem w_case : (Jvm.Cond.and given_1 narrow_1).before args0 about1 = true := by decide +kernel
theorem w_applies : (headSpec (Jvm.Cond.code x code maxLocals ret :: tables_1) room_1).applies x e0.platform about1 = true :=
  (Spec.applies_iff w_frames).mpr ⟨w_running, w_runnable, w_alone, w_named, w_hears, w_ripe, w_room, w_tables⟩
theorem atStart : AtStart classFile x code maxLocals ret World_1 tables_1 room_1 Calls_1 rest_1 Pre_1 launch0 p0 e0 about1 theMethod args0 below0 :=
  ⟨lists_1, trivial, launch0.admits_env _ _ _, launch0.least_env, fairChoices_fair.cas, fairChoices_fair.clock, w_frames, w_args, w_heap, w_applies, trivial, trivial, w_case⟩
end start1
theorem witness_1 : WitnessClaimed_1 := ⟨start1.p0, start1.e0, start1.about1, start1.theMethod, start1.args0, start1.below0, start1.atStart⟩
end Jvm.Pilot.@@N@@
