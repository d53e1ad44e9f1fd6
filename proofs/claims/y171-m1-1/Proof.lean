import JvmDerived
import JvmDerived.Pilot.@@N@@Statement
import JvmDerived.Pilot.@@N@@Code
set_option linter.unusedVariables false
set_option linter.unusedSimpArgs false
namespace Jvm.Pilot.@@N@@
open Jvm Jvm.ClassFile Sem Op Lib Jvm.Free Jvm.Stand Jvm.LawKit Jvm.RoadKit Jvm.Free.Fl Bundle Jvm.Pilot.@@N@@.Jvm.D
/-- from here the run comes to some end at which G holds -/
def Gl (tb : Tables) (e : Env) (below : List Frame) (T : State) (g : JFrame) (G : State → Prop) : Prop := ∃ s₂, Steps tb e below (T.setTop g) s₂ ∧ G s₂
theorem Gl.via {tb : Tables} {e : Env} {below : List Frame} {T T' : State} {g g' : JFrame} {G : State → Prop} (st : ∀ t, Steps tb e below (T'.setTop g') t → Steps tb e below (T.setTop g) t) (k : Gl tb e below T' g' G) : Gl tb e below T g G := by
  obtain ⟨s₂, h1, h2⟩ := k
  exact ⟨s₂, st _ h1, h2⟩
theorem Gl.fin {tb : Tables} {e : Env} {below : List Frame} {T U : State} {g : JFrame} {G : State → Prop} (st : Steps tb e below (T.setTop g) U) (k : G U) : Gl tb e below T g G := ⟨U, st, k⟩
def own_q : UInt64 := 4616189618054758400
theorem own_q_fin : Fin64 own_q := by unfold Fin64 own_q; decide
theorem own_q_nz : Nz64 own_q := by unfold Nz64 own_q; decide
theorem own_div (n : Int32) : NoNaN64 (FP.ddiv (FP.i2d n) (4616189618054758400 : UInt64)) := ddiv_out (i2d_fin n).noNaN own_q_fin own_q_nz
theorem own_seven (x : Int32) : ∃ i : Fin 8, x &&& (7 : Int32) = Int32.ofNat i.1 := by
  have h := c_mask x 7 3 (by decide) (by decide)
  have b : 0 ≤ (x &&& (7 : Int32)).toInt ∧ (x &&& (7 : Int32)).toInt < 8 := by rw [h]; omega
  refine ⟨⟨(x &&& (7 : Int32)).toInt.toNat, by omega⟩, Int32.toInt_inj.mp ?_⟩
  rw [Int32.toInt_ofNat_of_lt (by show (x &&& (7 : Int32)).toInt.toNat < _; omega)]
  show (x &&& (7 : Int32)).toInt = ((x &&& (7 : Int32)).toInt.toNat : Int)
  omega
theorem own_zero (i : Fin 8) : cmpValue (FP.dcmp (FP.ddiv (FP.i2d (Int32.ofNat i.1)) (4616189618054758400 : UInt64)) FP.dconst0) .l = 0 ↔ Int32.ofNat i.1 = (0 : Int32) := by
  revert i
  decide +kernel
theorem own_cmp (x : Int32) : cmpValue (FP.dcmp (FP.ddiv (FP.i2d (x &&& (7 : Int32))) (4616189618054758400 : UInt64)) FP.dconst0) .l = 0 ↔ x &&& (7 : Int32) = (0 : Int32) := by
  obtain ⟨i, h⟩ := own_seven x
  rw [h]
  exact own_zero i
theorem pn_0 : plainName "java/lang/Record" = true := by first | (simp [plainName, overriddenIn]; done) | decide +kernel
theorem d2_0 : decode jdk_30_method_1_code 0 = .ok (.aload_n 0, 1) := by decide +kernel
theorem d2_1 : decode jdk_30_method_1_code 1 = .ok (.invokespecial 1, 3) := by decide +kernel
theorem d2_4 : decode jdk_30_method_1_code 4 = .ok (.return_, 1) := by decide +kernel
theorem ef_rec_init (m : MethodId) (x0 : Addr) : entryFrame m #[(.ref x0)] 1 = mkF m 0 #[.val (.ref x0)] [] := by first | (simp [entryFrame, mkF, argsToLocals, Value.category]; done) | rfl | (simp [entryFrame, mkF, argsToLocals, *]; done)
def Q_rec_init (Z : State) (ra : Addr) (h0 : Heap) (n0 : Nat) (v : Option Value) (h : Heap) (L : List Loc) : Prop := v = none ∧ Fr n0 L ∧ h = h0
set_option maxRecDepth 65536 in
set_option maxHeartbeats 40000000 in
theorem rec_init (l : Launch) (Z : State) (a0 : Array Value) (hw : ∀ d ∈ tables_1, d.before a0 Z = true) (ws : List Jvm.Cond) (ra : Addr) (h0 : Heap) (n0 : Nat) (Z0 : n0 ≤ h0.size) :
    MetFree l (⟨"java/lang/Record", "<init>", "()V"⟩ : MethodName) (head1 (Jvm.Cond.code (⟨"java/lang/Record", "<init>", "()V"⟩ : MethodName) jdk_30_method_1_code 1 none :: ws) ({ frames := 1, cells := 0, slots := 0, locals := 12 } : Room)) (fun a U => a = #[(.ref ra)] ∧ Z.Warmed39 U.vm ∧ U.heap = h0) (fun _ _ _ _ _ => True) (fun _ U o U' => ∃ v L, o = .returned v ∧ Q_rec_init Z ra h0 n0 v U'.heap L ∧ FrameEnd U o U' L ({ frames := 1, cells := 0, slots := 0, locals := 12 } : Room).cells ({ frames := 1, cells := 0, slots := 0, locals := 12 } : Room).slots) := by
  refine MetFree.of_bodySF (plainFor_of_name pn_0) hisR ?_
  intro p e s m args below meth c s₁ Bd hml0 hP hK
  obtain ⟨rfl, hZ, hh⟩ := hP
  have hx := Bd.exec
  have hby := Bd.bytes
  have hml : c.maxLocals = 1 := hml0
  have hown : s.vm.findClass "java/lang/Record" = some m.cls := findClass_of_methodNamed Bd.named
  have hnm := (name_of_methodNamed Bd.named Bd.method).1
  have X0 : Stand p l e ({ frames := 1, cells := 0, slots := 0, locals := 12 } : Room) s m #[(.ref ra)] below meth c s₁ [] 0 0 := Stand.of_body Bd
  have e0 : s₁.heap = h0 := by rw [← hh, Bd.state]; rfl
  have N0 := Fr.nil n0
  obtain ⟨G, hG⟩ : ∃ G : State → Prop, G = (fun U' => ∃ o, U'.status = .running ∧ Ended U' below o ∧ ∃ v L, o = .returned v ∧ Q_rec_init Z ra h0 n0 v U'.heap L ∧ FrameEnd s o U' L ({ frames := 1, cells := 0, slots := 0, locals := 12 } : Room).cells ({ frames := 1, cells := 0, slots := 0, locals := 12 } : Room).slots) := ⟨_, rfl⟩
  suffices key : Gl p.tables e below s₁ (mkF m 0 #[.val (.ref ra)] []) G by
    obtain ⟨s₂, k1, k2⟩ := key
    rw [hG] at k2
    obtain ⟨o, k3, k4, k5⟩ := k2
    exact ⟨s₂, o, castTop (ef_rec_init m ra) k1, k3, k4, k5⟩
  show Gl p.tables e below s₁ (mkF m 0 #[.val (.ref ra)] []) G
  refine Gl.via (fun _ k => XS.aloadN X0.here hx rfl (hb hby d2_0) rfl rfl k) ?_
  show Gl p.tables e below s₁ (mkF m 1 #[.val (.ref ra)] [(.ref ra)]) G
  obtain ⟨T1, X1, e1, st1⟩ := initO X0 hx hZ hown (hw _ (List.mem_of_getElem? (i := 14) rfl)) (hw _ (List.mem_of_getElem? (i := 15) rfl)) (hw _ (List.mem_of_getElem? (i := 16) rfl)) e0 (g := (mkF m 1 #[.val (.ref ra)] [(.ref ra)])) rfl (by rw [hml]; rfl) rfl (hb hby d2_1) (by decide) (W := 0) (by show 2 * 0 + _ ≤ _; exact Nat.le_of_eq rfl) (by decide)
  refine Gl.via st1 ?_
  show Gl p.tables e below T1 (mkF m 4 #[.val (.ref ra)] []) G
  obtain ⟨fs, hr, hrun, hended, hW, hsame⟩ := X1.leave (v := none) (fun _ => rfl)
  have hq : ∀ L, Fr n0 L → Q_rec_init Z ra h0 n0 (none) T1.heap L := by
    intro L hN
    rw [e1]
    exact ⟨rfl, hN, rfl⟩
  rw [hG]
  exact Gl.fin (X1.returnOut hx Bd.returns (hb hby d2_4) hr) ⟨_, hrun, hended, _, _, rfl, hq _ N0, ⟨_, rfl⟩, hW, hsame.mono (by decide) (by decide)⟩
theorem pn_1 : plainName "com/example/koppel/koppel/weighting/TermVector" = true := by first | (simp [plainName, overriddenIn]; done) | decide +kernel
theorem d1_0 : decode prog_26_method_1_code 0 = .ok (.aload_n 0, 1) := by decide +kernel
theorem d1_1 : decode prog_26_method_1_code 1 = .ok (.invokespecial 1, 3) := by decide +kernel
theorem pd_0 : parseMethodDescriptor "()V" = some ⟨[], none⟩ := by decide +kernel
theorem d1_4 : decode prog_26_method_1_code 4 = .ok (.aload_n 0, 1) := by decide +kernel
theorem d1_5 : decode prog_26_method_1_code 5 = .ok (.aload_n 1, 1) := by decide +kernel
theorem d1_6 : decode prog_26_method_1_code 6 = .ok (.putfield 7, 3) := by decide +kernel
theorem d1_9 : decode prog_26_method_1_code 9 = .ok (.aload_n 0, 1) := by decide +kernel
theorem d1_10 : decode prog_26_method_1_code 10 = .ok (.aload_n 2, 1) := by decide +kernel
theorem d1_11 : decode prog_26_method_1_code 11 = .ok (.putfield 13, 3) := by decide +kernel
theorem d1_14 : decode prog_26_method_1_code 14 = .ok (.aload_n 0, 1) := by decide +kernel
theorem d1_15 : decode prog_26_method_1_code 15 = .ok (.dload_n 3, 1) := by decide +kernel
theorem d1_16 : decode prog_26_method_1_code 16 = .ok (.putfield 17, 3) := by decide +kernel
theorem d1_19 : decode prog_26_method_1_code 19 = .ok (.aload_n 0, 1) := by decide +kernel
theorem d1_20 : decode prog_26_method_1_code 20 = .ok (.dload 5, 2) := by decide +kernel
theorem d1_22 : decode prog_26_method_1_code 22 = .ok (.putfield 21, 3) := by decide +kernel
theorem d1_25 : decode prog_26_method_1_code 25 = .ok (.return_, 1) := by decide +kernel
theorem ef_t_init (m : MethodId) (x0 : Addr) (x1 : Addr) (x2 : Addr) (x3 : UInt64) (x4 : UInt64) : entryFrame m #[(.ref x0), (.ref x1), (.ref x2), (.double x3), (.double x4)] 7 = mkF m 0 #[.val (.ref x0), .val (.ref x1), .val (.ref x2), .val (.double x3), .second, .val (.double x4), .second] [] := by first | (simp [entryFrame, mkF, argsToLocals, Value.category]; done) | rfl | (simp [entryFrame, mkF, argsToLocals, *]; done)
def Q_t_init (Z : State) (ca : Addr) (c0 : Addr) (c1 : Addr) (c2 : UInt64) (c3 : UInt64) (cu0 : Value) (cu1 : Value) (cu2 : Value) (cu3 : Value) (h0 : Heap) (n0 : Nat) (v : Option Value) (h : Heap) (L : List Loc) : Prop := v = none ∧ Fr n0 L ∧ Keep h0 h [ca] ∧ Exa Z h ca "com/example/koppel/koppel/weighting/TermVector" ∧ Fld Z h ca "com/example/koppel/koppel/weighting/TermVector" "norm" "D" (.double c2)
set_option maxRecDepth 65536 in
set_option maxHeartbeats 40000000 in
theorem t_init (l : Launch) (Z : State) (a0 : Array Value) (hw : ∀ d ∈ tables_1, d.before a0 Z = true) (ws : List Jvm.Cond) (ca : Addr) (c0 : Addr) (c1 : Addr) (c2 : UInt64) (c3 : UInt64) (cu0 : Value) (cu1 : Value) (cu2 : Value) (cu3 : Value) (h0 : Heap) (n0 : Nat) (Z0 : n0 ≤ h0.size) (F0_ca : Exa Z h0 ca "com/example/koppel/koppel/weighting/TermVector") (F1_ca_termIds : Fld Z h0 ca "com/example/koppel/koppel/weighting/TermVector" "termIds" "[I" cu0) (F2_ca_weights : Fld Z h0 ca "com/example/koppel/koppel/weighting/TermVector" "weights" "[D" cu1) (F3_ca_norm : Fld Z h0 ca "com/example/koppel/koppel/weighting/TermVector" "norm" "D" cu2) (F4_ca_sum : Fld Z h0 ca "com/example/koppel/koppel/weighting/TermVector" "sum" "D" cu3) (hp0 : n0 ≤ ca) :
    MetFree l (⟨"com/example/koppel/koppel/weighting/TermVector", "<init>", "([I[DDD)V"⟩ : MethodName) (head1 (Jvm.Cond.code (⟨"com/example/koppel/koppel/weighting/TermVector", "<init>", "([I[DDD)V"⟩ : MethodName) prog_26_method_1_code 7 none :: ws) ({ frames := 2, cells := 0, slots := 0, locals := 24 } : Room)) (fun a U => a = #[(.ref ca), (.ref c0), (.ref c1), (.double c2), (.double c3)] ∧ Z.Warmed39 U.vm ∧ U.heap = h0) (fun _ _ _ _ _ => True) (fun _ U o U' => ∃ v L, o = .returned v ∧ Q_t_init Z ca c0 c1 c2 c3 cu0 cu1 cu2 cu3 h0 n0 v U'.heap L ∧ FrameEnd U o U' L ({ frames := 2, cells := 0, slots := 0, locals := 24 } : Room).cells ({ frames := 2, cells := 0, slots := 0, locals := 24 } : Room).slots) := by
  refine MetFree.of_bodySF (plainFor_of_name pn_1) hisR ?_
  intro p e s m args below meth c s₁ Bd hml0 hP hK
  obtain ⟨rfl, hZ, hh⟩ := hP
  have hx := Bd.exec
  have hby := Bd.bytes
  have hml : c.maxLocals = 7 := hml0
  have hown : s.vm.findClass "com/example/koppel/koppel/weighting/TermVector" = some m.cls := findClass_of_methodNamed Bd.named
  have hnm := (name_of_methodNamed Bd.named Bd.method).1
  have X0 : Stand p l e ({ frames := 2, cells := 0, slots := 0, locals := 24 } : Room) s m #[(.ref ca), (.ref c0), (.ref c1), (.double c2), (.double c3)] below meth c s₁ [] 0 0 := Stand.of_body Bd
  have e0 : s₁.heap = h0 := by rw [← hh, Bd.state]; rfl
  have N0 := Fr.nil n0
  obtain ⟨G, hG⟩ : ∃ G : State → Prop, G = (fun U' => ∃ o, U'.status = .running ∧ Ended U' below o ∧ ∃ v L, o = .returned v ∧ Q_t_init Z ca c0 c1 c2 c3 cu0 cu1 cu2 cu3 h0 n0 v U'.heap L ∧ FrameEnd s o U' L ({ frames := 2, cells := 0, slots := 0, locals := 24 } : Room).cells ({ frames := 2, cells := 0, slots := 0, locals := 24 } : Room).slots) := ⟨_, rfl⟩
  suffices key : Gl p.tables e below s₁ (mkF m 0 #[.val (.ref ca), .val (.ref c0), .val (.ref c1), .val (.double c2), .second, .val (.double c3), .second] []) G by
    obtain ⟨s₂, k1, k2⟩ := key
    rw [hG] at k2
    obtain ⟨o, k3, k4, k5⟩ := k2
    exact ⟨s₂, o, castTop (ef_t_init m ca c0 c1 c2 c3) k1, k3, k4, k5⟩
  show Gl p.tables e below s₁ (mkF m 0 #[.val (.ref ca), .val (.ref c0), .val (.ref c1), .val (.double c2), .second, .val (.double c3), .second] []) G
  refine Gl.via (fun _ k => XS.aloadN X0.here hx rfl (hb hby d1_0) rfl rfl k) ?_
  show Gl p.tables e below s₁ (mkF m 1 #[.val (.ref ca), .val (.ref c0), .val (.ref c1), .val (.double c2), .second, .val (.double c3), .second] [(.ref ca)]) G
  obtain ⟨_, _, ⟨T1, L1, k1, n1⟩, -, X1, ⟨Lc1, hQ1, l1, y1, z1⟩, st1⟩ := X0.specialBack hx (y := (⟨"java/lang/Record", "<init>", "()V"⟩ : MethodName)) rfl hown (mvT hZ (hw _ (List.mem_of_getElem? (i := 9) rfl))) (mvT hZ (hw _ (List.mem_of_getElem? (i := 10) rfl))) (mvT hZ (hw _ (List.mem_of_getElem? (i := 13) rfl))) (by decide) (backOf (W := 0) (rec_init l Z a0 hw [] ca h0 n0 Z0 ) hZ (hw _ (List.mem_of_getElem? (i := 13) rfl)) (hw _ (List.mem_of_getElem? (i := 12) rfl)) (by decide) (by decide)) (g := (mkF m 1 #[.val (.ref ca), .val (.ref c0), .val (.ref c1), .val (.double c2), .second, .val (.double c3), .second] [(.ref ca)])) rfl (by rw [hml]; rfl) (Steps.refl _) (a := ca) (argsL := []) (rest := []) (lenOf pd_0 rfl) rfl (by show 2 * 0 + _ ≤ _; exact Nat.le_of_eq rfl) (hb hby d1_1) (fun _ _ => ⟨rfl, e0, (by decide : 0 + 0 ≤ _), (by decide : 0 + 0 ≤ _)⟩)
  dsimp only [Pt.U, Pt.locs, Pt.cells, Pt.slots] at X1 l1 y1 z1 st1 hQ1
  subst l1 y1 z1
  obtain ⟨rfl, N1q, eh1⟩ := hQ1
  have N1_ := Fr.app N0 N1q
  refine Gl.via (fun _ k => st1.trans k) ?_
  show Gl p.tables e below T1 (mkF m 4 #[.val (.ref ca), .val (.ref c0), .val (.ref c1), .val (.double c2), .second, .val (.double c3), .second] []) G
  refine Gl.via (fun _ k => XS.aloadN X1.here hx rfl (hb hby d1_4) rfl rfl k) ?_
  show Gl p.tables e below T1 (mkF m 5 #[.val (.ref ca), .val (.ref c0), .val (.ref c1), .val (.double c2), .second, .val (.double c3), .second] [(.ref ca)]) G
  refine Gl.via (fun _ k => XS.aloadN X1.here hx rfl (hb hby d1_5) rfl rfl k) ?_
  show Gl p.tables e below T1 (mkF m 6 #[.val (.ref ca), .val (.ref c0), .val (.ref c1), .val (.double c2), .second, .val (.double c3), .second] [(.ref c0), (.ref ca)]) G
  obtain ⟨T2, h2, X2, e2, W2, st2⟩ := putF X1 hx hZ hown (host := "") (Or.inl (hw _ (List.mem_of_getElem? (i := 17) rfl))) Via.refl eh1 F1_ca_termIds F0_ca (Or.inr ⟨(hw _ (List.mem_of_getElem? (i := 18) rfl)), rfl, hnm⟩) (hw _ (List.mem_of_getElem? (i := 4) rfl)) (ty := (.array .int)) (by decide) rfl rfl (g := (mkF m 6 #[.val (.ref ca), .val (.ref c0), .val (.ref c1), .val (.double c2), .second, .val (.double c3), .second] [(.ref c0), (.ref ca)])) rfl rfl (hb hby d1_6)
  refine Gl.via st2 ?_
  have N2_ := Fr.snoc X2 N1_ hp0
  have Z3 : n0 ≤ h2.size := Nat.le_trans Z0 (Keep.of_wr W2).1
  have Y4 : h0.size ≤ h2.size := Nat.le_trans (Nat.le_refl h0.size) (Keep.of_wr W2).1
  show Gl p.tables e below T2 (mkF m 9 #[.val (.ref ca), .val (.ref c0), .val (.ref c1), .val (.double c2), .second, .val (.double c3), .second] []) G
  refine Gl.via (fun _ k => XS.aloadN X2.here hx rfl (hb hby d1_9) rfl rfl k) ?_
  show Gl p.tables e below T2 (mkF m 10 #[.val (.ref ca), .val (.ref c0), .val (.ref c1), .val (.double c2), .second, .val (.double c3), .second] [(.ref ca)]) G
  refine Gl.via (fun _ k => XS.aloadN X2.here hx rfl (hb hby d1_10) rfl rfl k) ?_
  show Gl p.tables e below T2 (mkF m 11 #[.val (.ref ca), .val (.ref c0), .val (.ref c1), .val (.double c2), .second, .val (.double c3), .second] [(.ref c1), (.ref ca)]) G
  have G5 : Fld Z h2 ca "com/example/koppel/koppel/weighting/TermVector" "weights" "[D" cu1 := (F2_ca_weights.other W2 (Or.inr (slot_ne (Or.inr (hw _ (List.mem_of_getElem? (i := 20) rfl))) (Or.inr (hw _ (List.mem_of_getElem? (i := 18) rfl))) (by decide) (t := (.array .double)) (t' := (.array .int)) (by decide) (by decide))))
  have G6 : Exa Z h2 ca "com/example/koppel/koppel/weighting/TermVector" := (F0_ca.wr W2)
  obtain ⟨T7, h7, X7, e7, W7, st7⟩ := putF X2 hx hZ hown (host := "") (Or.inl (hw _ (List.mem_of_getElem? (i := 19) rfl))) Via.refl e2 G5 G6 (Or.inr ⟨(hw _ (List.mem_of_getElem? (i := 20) rfl)), rfl, hnm⟩) (hw _ (List.mem_of_getElem? (i := 4) rfl)) (ty := (.array .double)) (by decide) rfl rfl (g := (mkF m 11 #[.val (.ref ca), .val (.ref c0), .val (.ref c1), .val (.double c2), .second, .val (.double c3), .second] [(.ref c1), (.ref ca)])) rfl rfl (hb hby d1_11)
  refine Gl.via st7 ?_
  have N7_ := Fr.snoc X7 N2_ hp0
  have Z8 : n0 ≤ h7.size := Nat.le_trans Z3 (Keep.of_wr W7).1
  have Y9 : h0.size ≤ h7.size := Nat.le_trans Y4 (Keep.of_wr W7).1
  show Gl p.tables e below T7 (mkF m 14 #[.val (.ref ca), .val (.ref c0), .val (.ref c1), .val (.double c2), .second, .val (.double c3), .second] []) G
  refine Gl.via (fun _ k => XS.aloadN X7.here hx rfl (hb hby d1_14) rfl rfl k) ?_
  show Gl p.tables e below T7 (mkF m 15 #[.val (.ref ca), .val (.ref c0), .val (.ref c1), .val (.double c2), .second, .val (.double c3), .second] [(.ref ca)]) G
  refine Gl.via (fun _ k => XS.dloadN X7.here hx rfl (hb hby d1_15) rfl k) ?_
  show Gl p.tables e below T7 (mkF m 16 #[.val (.ref ca), .val (.ref c0), .val (.ref c1), .val (.double c2), .second, .val (.double c3), .second] [(.double c2), (.ref ca)]) G
  have G10 : Fld Z h7 ca "com/example/koppel/koppel/weighting/TermVector" "norm" "D" cu2 := ((F3_ca_norm.other W2 (Or.inr (slot_ne (Or.inr (hw _ (List.mem_of_getElem? (i := 22) rfl))) (Or.inr (hw _ (List.mem_of_getElem? (i := 18) rfl))) (by decide) (t := .double) (t' := (.array .int)) (by decide) (by decide)))).other W7 (Or.inr (slot_ne (Or.inr (hw _ (List.mem_of_getElem? (i := 22) rfl))) (Or.inr (hw _ (List.mem_of_getElem? (i := 20) rfl))) (by decide) (t := .double) (t' := (.array .double)) (by decide) (by decide))))
  have G11 : Exa Z h7 ca "com/example/koppel/koppel/weighting/TermVector" := (G6.wr W7)
  obtain ⟨T12, h12, X12, e12, W12, st12⟩ := putF X7 hx hZ hown (host := "") (Or.inl (hw _ (List.mem_of_getElem? (i := 21) rfl))) Via.refl e7 G10 G11 (Or.inr ⟨(hw _ (List.mem_of_getElem? (i := 22) rfl)), rfl, hnm⟩) (hw _ (List.mem_of_getElem? (i := 4) rfl)) (ty := .double) (by decide) rfl rfl (g := (mkF m 16 #[.val (.ref ca), .val (.ref c0), .val (.ref c1), .val (.double c2), .second, .val (.double c3), .second] [(.double c2), (.ref ca)])) rfl rfl (hb hby d1_16)
  refine Gl.via st12 ?_
  have N12_ := Fr.snoc X12 N7_ hp0
  have Z13 : n0 ≤ h12.size := Nat.le_trans Z8 (Keep.of_wr W12).1
  have Y14 : h0.size ≤ h12.size := Nat.le_trans Y9 (Keep.of_wr W12).1
  show Gl p.tables e below T12 (mkF m 19 #[.val (.ref ca), .val (.ref c0), .val (.ref c1), .val (.double c2), .second, .val (.double c3), .second] []) G
  refine Gl.via (fun _ k => XS.aloadN X12.here hx rfl (hb hby d1_19) rfl rfl k) ?_
  show Gl p.tables e below T12 (mkF m 20 #[.val (.ref ca), .val (.ref c0), .val (.ref c1), .val (.double c2), .second, .val (.double c3), .second] [(.ref ca)]) G
  refine Gl.via (fun _ k => XS.dload X12.here hx rfl (hb hby d1_20) rfl k) ?_
  show Gl p.tables e below T12 (mkF m 22 #[.val (.ref ca), .val (.ref c0), .val (.ref c1), .val (.double c2), .second, .val (.double c3), .second] [(.double c3), (.ref ca)]) G
  have G15 : Fld Z h12 ca "com/example/koppel/koppel/weighting/TermVector" "sum" "D" cu3 := (((F4_ca_sum.other W2 (Or.inr (slot_ne (Or.inr (hw _ (List.mem_of_getElem? (i := 24) rfl))) (Or.inr (hw _ (List.mem_of_getElem? (i := 18) rfl))) (by decide) (t := .double) (t' := (.array .int)) (by decide) (by decide)))).other W7 (Or.inr (slot_ne (Or.inr (hw _ (List.mem_of_getElem? (i := 24) rfl))) (Or.inr (hw _ (List.mem_of_getElem? (i := 20) rfl))) (by decide) (t := .double) (t' := (.array .double)) (by decide) (by decide)))).other W12 (Or.inr (slot_ne (Or.inr (hw _ (List.mem_of_getElem? (i := 24) rfl))) (Or.inr (hw _ (List.mem_of_getElem? (i := 22) rfl))) (by decide) (t := .double) (t' := .double) (by decide) (by decide))))
  have G16 : Exa Z h12 ca "com/example/koppel/koppel/weighting/TermVector" := (G11.wr W12)
  obtain ⟨T17, h17, X17, e17, W17, st17⟩ := putF X12 hx hZ hown (host := "") (Or.inl (hw _ (List.mem_of_getElem? (i := 23) rfl))) Via.refl e12 G15 G16 (Or.inr ⟨(hw _ (List.mem_of_getElem? (i := 24) rfl)), rfl, hnm⟩) (hw _ (List.mem_of_getElem? (i := 4) rfl)) (ty := .double) (by decide) rfl rfl (g := (mkF m 22 #[.val (.ref ca), .val (.ref c0), .val (.ref c1), .val (.double c2), .second, .val (.double c3), .second] [(.double c3), (.ref ca)])) rfl rfl (hb hby d1_22)
  refine Gl.via st17 ?_
  have N17_ := Fr.snoc X17 N12_ hp0
  have Z18 : n0 ≤ h17.size := Nat.le_trans Z13 (Keep.of_wr W17).1
  have Y19 : h0.size ≤ h17.size := Nat.le_trans Y14 (Keep.of_wr W17).1
  show Gl p.tables e below T17 (mkF m 25 #[.val (.ref ca), .val (.ref c0), .val (.ref c1), .val (.double c2), .second, .val (.double c3), .second] []) G
  obtain ⟨fs, hr, hrun, hended, hW, hsame⟩ := X17.leave (v := none) (fun _ => rfl)
  have G20 : Exa Z h17 ca "com/example/koppel/koppel/weighting/TermVector" := (G16.wr W17)
  have G21 : Fld Z h17 ca "com/example/koppel/koppel/weighting/TermVector" "norm" "D" (.double c2) := ((Fld.same W12 G10).other W17 (Or.inr (slot_ne (Or.inr (hw _ (List.mem_of_getElem? (i := 22) rfl))) (Or.inr (hw _ (List.mem_of_getElem? (i := 24) rfl))) (by decide) (t := .double) (t' := .double) (by decide) (by decide))))
  have hq : ∀ L, Fr n0 L → Q_t_init Z ca c0 c1 c2 c3 cu0 cu1 cu2 cu3 h0 n0 (none) T17.heap L := by
    intro L hN
    rw [e17]
    exact ⟨rfl, hN, (((((Keep.refl h0 [ca]).wr W2 (Or.inl (List.mem_of_getElem? (i := 0) rfl))).wr W7 (Or.inl (List.mem_of_getElem? (i := 0) rfl))).wr W12 (Or.inl (List.mem_of_getElem? (i := 0) rfl))).wr W17 (Or.inl (List.mem_of_getElem? (i := 0) rfl))), G20, G21⟩
  rw [hG]
  exact Gl.fin (X17.returnOut hx Bd.returns (hb hby d1_25) hr) ⟨_, hrun, hended, _, _, rfl, hq _ N17_, ⟨_, rfl⟩, hW, hsame.mono (by decide) (by decide)⟩
theorem d4_0 : decode prog_26_method_2_code 0 = .ok (.aload_n 0, 1) := by decide +kernel
theorem d4_1 : decode prog_26_method_2_code 1 = .ok (.getfield 17, 3) := by decide +kernel
theorem d4_4 : decode prog_26_method_2_code 4 = .ok (.dconst 0, 1) := by decide +kernel
theorem d4_5 : decode prog_26_method_2_code 5 = .ok (.dcmp .l, 1) := by decide +kernel
theorem d4_6 : decode prog_26_method_2_code 6 = .ok (.ifCond .ne 7, 3) := by decide +kernel
theorem d4_9 : decode prog_26_method_2_code 9 = .ok (.iconst 1, 1) := by decide +kernel
theorem d4_10 : decode prog_26_method_2_code 10 = .ok (.goto 4, 3) := by decide +kernel
theorem d4_14 : decode prog_26_method_2_code 14 = .ok (.ireturn, 1) := by decide +kernel
theorem ef_isz1 (m : MethodId) (x0 : Addr) : entryFrame m #[(.ref x0)] 1 = mkF m 0 #[.val (.ref x0)] [] := by first | (simp [entryFrame, mkF, argsToLocals, Value.category]; done) | rfl | (simp [entryFrame, mkF, argsToLocals, *]; done)
def Q_isz1 (Z : State) (za : Addr) (zx : UInt64) (h0 : Heap) (n0 : Nat) (v : Option Value) (h : Heap) (L : List Loc) : Prop := v = some (.int (1 : Int32)) ∧ Fr n0 L ∧ h = h0
set_option maxRecDepth 65536 in
set_option maxHeartbeats 40000000 in
theorem isz1 (l : Launch) (Z : State) (a0 : Array Value) (hw : ∀ d ∈ tables_1, d.before a0 Z = true) (ws : List Jvm.Cond) (za : Addr) (zx : UInt64) (h0 : Heap) (n0 : Nat) (Z0 : n0 ≤ h0.size) (F0_za_norm : Fld Z h0 za "com/example/koppel/koppel/weighting/TermVector" "norm" "D" (.double zx)) (hz : cmpValue (FP.dcmp zx FP.dconst0) .l = 0) :
    MetFree l (⟨"com/example/koppel/koppel/weighting/TermVector", "isZero", "()Z"⟩ : MethodName) (head1 (Jvm.Cond.code (⟨"com/example/koppel/koppel/weighting/TermVector", "isZero", "()Z"⟩ : MethodName) prog_26_method_2_code 1 (some .boolean) :: ws) ({ frames := 0, cells := 0, slots := 0, locals := 0 } : Room)) (fun a U => a = #[(.ref za)] ∧ Z.Warmed39 U.vm ∧ U.heap = h0) (fun _ _ _ _ _ => True) (fun _ U o U' => ∃ v L, o = .returned v ∧ Q_isz1 Z za zx h0 n0 v U'.heap L ∧ FrameEnd U o U' L ({ frames := 0, cells := 0, slots := 0, locals := 0 } : Room).cells ({ frames := 0, cells := 0, slots := 0, locals := 0 } : Room).slots) := by
  refine MetFree.of_bodySF (plainFor_of_name pn_1) hisR ?_
  intro p e s m args below meth c s₁ Bd hml0 hP hK
  obtain ⟨rfl, hZ, hh⟩ := hP
  have hx := Bd.exec
  have hby := Bd.bytes
  have hml : c.maxLocals = 1 := hml0
  have hown : s.vm.findClass "com/example/koppel/koppel/weighting/TermVector" = some m.cls := findClass_of_methodNamed Bd.named
  have hnm := (name_of_methodNamed Bd.named Bd.method).1
  have X0 : Stand p l e ({ frames := 0, cells := 0, slots := 0, locals := 0 } : Room) s m #[(.ref za)] below meth c s₁ [] 0 0 := Stand.of_body Bd
  have e0 : s₁.heap = h0 := by rw [← hh, Bd.state]; rfl
  have N0 := Fr.nil n0
  obtain ⟨G, hG⟩ : ∃ G : State → Prop, G = (fun U' => ∃ o, U'.status = .running ∧ Ended U' below o ∧ ∃ v L, o = .returned v ∧ Q_isz1 Z za zx h0 n0 v U'.heap L ∧ FrameEnd s o U' L ({ frames := 0, cells := 0, slots := 0, locals := 0 } : Room).cells ({ frames := 0, cells := 0, slots := 0, locals := 0 } : Room).slots) := ⟨_, rfl⟩
  suffices key : Gl p.tables e below s₁ (mkF m 0 #[.val (.ref za)] []) G by
    obtain ⟨s₂, k1, k2⟩ := key
    rw [hG] at k2
    obtain ⟨o, k3, k4, k5⟩ := k2
    exact ⟨s₂, o, castTop (ef_isz1 m za) k1, k3, k4, k5⟩
  show Gl p.tables e below s₁ (mkF m 0 #[.val (.ref za)] []) G
  refine Gl.via (fun _ k => XS.aloadN X0.here hx rfl (hb hby d4_0) rfl rfl k) ?_
  show Gl p.tables e below s₁ (mkF m 1 #[.val (.ref za)] [(.ref za)]) G
  obtain ⟨T1, X1, e1, st1⟩ := getF X0 hx hZ hown (host := "") (Or.inl (hw _ (List.mem_of_getElem? (i := 21) rfl))) Via.refl e0 F0_za_norm (g := (mkF m 1 #[.val (.ref za)] [(.ref za)])) rfl rfl (hb hby d4_1)
  refine Gl.via st1 ?_
  show Gl p.tables e below T1 (mkF m 4 #[.val (.ref za)] [(.double zx)]) G
  refine Gl.via (fun _ k => XS.dconst0 X1.here hx rfl (hb hby d4_4) rfl k) ?_
  show Gl p.tables e below T1 (mkF m 5 #[.val (.ref za)] [(.double FP.dconst0), (.double zx)]) G
  refine Gl.via (fun _ k => XS.dcmpS X1.here hx rfl (v := (0 : Int32)) (hb hby d4_5) rfl hz k) ?_
  show Gl p.tables e below T1 (mkF m 6 #[.val (.ref za)] [(.int (0 : Int32))]) G
  refine Gl.via (fun _ k => XS.ifNo X1.here hx rfl (hb hby d4_6) rfl ((if0 _ _).trans (teq (by decide)).2) k) ?_
  show Gl p.tables e below T1 (mkF m 9 #[.val (.ref za)] []) G
  refine Gl.via (fun _ k => XS.iconst X1.here hx rfl (hb hby d4_9) k) ?_
  show Gl p.tables e below T1 (mkF m 10 #[.val (.ref za)] [(.int (1 : Int32))]) G
  refine Gl.via (fun _ k => XS.goto X1.here hx rfl (pc0 := 10) (pc' := 14) rfl (hb hby d4_10) (by decide) (by decide) k) ?_
  show Gl p.tables e below T1 (mkF m 14 #[.val (.ref za)] [(.int (1 : Int32))]) G
  obtain ⟨fs, hr, hrun, hended, hW, hsame⟩ := X1.leave (v := some (.int (1 : Int32))) (fun h => by rw [Bd.returns] at h; cases h)
  have hq : ∀ L, Fr n0 L → Q_isz1 Z za zx h0 n0 (some (.int (1 : Int32))) T1.heap L := by
    intro L hN
    rw [e1]
    exact ⟨rfl, hN, rfl⟩
  rw [hG]
  exact Gl.fin (retN X1 hx (t := .boolean) Bd.returns (by simp) (hb hby d4_14) hr) ⟨_, hrun, hended, _, _, rfl, hq _ N0, ⟨_, rfl⟩, hW, hsame.mono (by decide) (by decide)⟩
theorem d4_13 : decode prog_26_method_2_code 13 = .ok (.iconst 0, 1) := by decide +kernel
theorem ef_isz0 (m : MethodId) (x0 : Addr) : entryFrame m #[(.ref x0)] 1 = mkF m 0 #[.val (.ref x0)] [] := by first | (simp [entryFrame, mkF, argsToLocals, Value.category]; done) | rfl | (simp [entryFrame, mkF, argsToLocals, *]; done)
def Q_isz0 (Z : State) (za : Addr) (zx : UInt64) (h0 : Heap) (n0 : Nat) (v : Option Value) (h : Heap) (L : List Loc) : Prop := v = some (.int (0 : Int32)) ∧ Fr n0 L ∧ h = h0
set_option maxRecDepth 65536 in
set_option maxHeartbeats 40000000 in
theorem isz0 (l : Launch) (Z : State) (a0 : Array Value) (hw : ∀ d ∈ tables_1, d.before a0 Z = true) (ws : List Jvm.Cond) (za : Addr) (zx : UInt64) (h0 : Heap) (n0 : Nat) (Z0 : n0 ≤ h0.size) (F0_za_norm : Fld Z h0 za "com/example/koppel/koppel/weighting/TermVector" "norm" "D" (.double zx)) (hz : ¬ (cmpValue (FP.dcmp zx FP.dconst0) .l = 0)) :
    MetFree l (⟨"com/example/koppel/koppel/weighting/TermVector", "isZero", "()Z"⟩ : MethodName) (head1 (Jvm.Cond.code (⟨"com/example/koppel/koppel/weighting/TermVector", "isZero", "()Z"⟩ : MethodName) prog_26_method_2_code 1 (some .boolean) :: ws) ({ frames := 0, cells := 0, slots := 0, locals := 0 } : Room)) (fun a U => a = #[(.ref za)] ∧ Z.Warmed39 U.vm ∧ U.heap = h0) (fun _ _ _ _ _ => True) (fun _ U o U' => ∃ v L, o = .returned v ∧ Q_isz0 Z za zx h0 n0 v U'.heap L ∧ FrameEnd U o U' L ({ frames := 0, cells := 0, slots := 0, locals := 0 } : Room).cells ({ frames := 0, cells := 0, slots := 0, locals := 0 } : Room).slots) := by
  refine MetFree.of_bodySF (plainFor_of_name pn_1) hisR ?_
  intro p e s m args below meth c s₁ Bd hml0 hP hK
  obtain ⟨rfl, hZ, hh⟩ := hP
  have hx := Bd.exec
  have hby := Bd.bytes
  have hml : c.maxLocals = 1 := hml0
  have hown : s.vm.findClass "com/example/koppel/koppel/weighting/TermVector" = some m.cls := findClass_of_methodNamed Bd.named
  have hnm := (name_of_methodNamed Bd.named Bd.method).1
  have X0 : Stand p l e ({ frames := 0, cells := 0, slots := 0, locals := 0 } : Room) s m #[(.ref za)] below meth c s₁ [] 0 0 := Stand.of_body Bd
  have e0 : s₁.heap = h0 := by rw [← hh, Bd.state]; rfl
  have N0 := Fr.nil n0
  obtain ⟨G, hG⟩ : ∃ G : State → Prop, G = (fun U' => ∃ o, U'.status = .running ∧ Ended U' below o ∧ ∃ v L, o = .returned v ∧ Q_isz0 Z za zx h0 n0 v U'.heap L ∧ FrameEnd s o U' L ({ frames := 0, cells := 0, slots := 0, locals := 0 } : Room).cells ({ frames := 0, cells := 0, slots := 0, locals := 0 } : Room).slots) := ⟨_, rfl⟩
  suffices key : Gl p.tables e below s₁ (mkF m 0 #[.val (.ref za)] []) G by
    obtain ⟨s₂, k1, k2⟩ := key
    rw [hG] at k2
    obtain ⟨o, k3, k4, k5⟩ := k2
    exact ⟨s₂, o, castTop (ef_isz0 m za) k1, k3, k4, k5⟩
  show Gl p.tables e below s₁ (mkF m 0 #[.val (.ref za)] []) G
  refine Gl.via (fun _ k => XS.aloadN X0.here hx rfl (hb hby d4_0) rfl rfl k) ?_
  show Gl p.tables e below s₁ (mkF m 1 #[.val (.ref za)] [(.ref za)]) G
  obtain ⟨T1, X1, e1, st1⟩ := getF X0 hx hZ hown (host := "") (Or.inl (hw _ (List.mem_of_getElem? (i := 21) rfl))) Via.refl e0 F0_za_norm (g := (mkF m 1 #[.val (.ref za)] [(.ref za)])) rfl rfl (hb hby d4_1)
  refine Gl.via st1 ?_
  show Gl p.tables e below T1 (mkF m 4 #[.val (.ref za)] [(.double zx)]) G
  refine Gl.via (fun _ k => XS.dconst0 X1.here hx rfl (hb hby d4_4) rfl k) ?_
  show Gl p.tables e below T1 (mkF m 5 #[.val (.ref za)] [(.double FP.dconst0), (.double zx)]) G
  refine Gl.via (fun _ k => XS.dcmpS X1.here hx rfl (v := (cmpValue (FP.dcmp zx FP.dconst0) .l)) (hb hby d4_5) rfl rfl k) ?_
  show Gl p.tables e below T1 (mkF m 6 #[.val (.ref za)] [(.int (cmpValue (FP.dcmp zx FP.dconst0) .l))]) G
  refine Gl.via (fun _ k => XS.ifYes X1.here hx rfl (pc0 := 6) (pc' := 13) rfl (hb hby d4_6) rfl ((if0 _ _).trans (feq hz).2) (by decide) (by decide) k) ?_
  show Gl p.tables e below T1 (mkF m 13 #[.val (.ref za)] []) G
  refine Gl.via (fun _ k => XS.iconst X1.here hx rfl (hb hby d4_13) k) ?_
  show Gl p.tables e below T1 (mkF m 14 #[.val (.ref za)] [(.int (0 : Int32))]) G
  obtain ⟨fs, hr, hrun, hended, hW, hsame⟩ := X1.leave (v := some (.int (0 : Int32))) (fun h => by rw [Bd.returns] at h; cases h)
  have hq : ∀ L, Fr n0 L → Q_isz0 Z za zx h0 n0 (some (.int (0 : Int32))) T1.heap L := by
    intro L hN
    rw [e1]
    exact ⟨rfl, hN, rfl⟩
  rw [hG]
  exact Gl.fin (retN X1 hx (t := .boolean) Bd.returns (by simp) (hb hby d4_14) hr) ⟨_, hrun, hended, _, _, rfl, hq _ N0, ⟨_, rfl⟩, hW, hsame.mono (by decide) (by decide)⟩
theorem pn_2 : plainName "com/example/koppel/koppel/weighting/TermVectorIsZeroPinLaw" = true := by first | (simp [plainName, overriddenIn]; done) | decide +kernel
theorem pd_1 : parseMethodDescriptor "([I[DDD)V" = some ⟨[(.array .int), (.array .double), .double, .double], none⟩ := by decide +kernel
theorem pd_2 : parseMethodDescriptor "()Z" = some ⟨[], some .boolean⟩ := by decide +kernel
theorem ef_rm0 (m : MethodId) (x0 : Int32) (x1 : Int32) (x2 : Int32) (x3 : Int32) : entryFrame m #[(.int x0), (.int x1), (.int x2), (.int x3)] maxLocals = mkF m 0 #[.val (.int x0), .val (.int x1), .val (.int x2), .val (.int x3), .unset, .unset, .unset, .unset, .unset, .unset, .unset, .unset, .unset] [] := by first | (simp [entryFrame, mkF, argsToLocals, Value.category, maxLocals]; done) | rfl | (simp [entryFrame, mkF, argsToLocals, *]; done)
def Q_rm0 (Z : State) (p0 : Int32) (p1 : Int32) (p2 : Int32) (p3 : Int32) (h0 : Heap) (n0 : Nat) (v : Option Value) (h : Heap) (L : List Loc) : Prop := v = some (.int (1 : Int32)) ∧ Fr n0 L
set_option maxRecDepth 65536 in
set_option maxHeartbeats 40000000 in
theorem rm0 (l : Launch) (Z : State) (a0 : Array Value) (hw : ∀ d ∈ tables_1, d.before a0 Z = true) (ws : List Jvm.Cond) (p0 : Int32) (p1 : Int32) (p2 : Int32) (p3 : Int32) (h0 : Heap) (n0 : Nat) (Z0 : n0 ≤ h0.size) :
    MetFree l x (head1 (Jvm.Cond.code x code maxLocals ret :: ws) room_1) (fun a U => a = #[(.int p0), (.int p1), (.int p2), (.int p3)] ∧ Z.Warmed39 U.vm ∧ U.heap = h0) (fun _ _ _ _ _ => True) (fun _ U o U' => ∃ v L, o = .returned v ∧ Q_rm0 Z p0 p1 p2 p3 h0 n0 v U'.heap L ∧ FrameEnd U o U' L 3 6) := by
  refine MetFree.of_bodySF (plainFor_of_name pn_2) hisR ?_
  intro p e s m args below meth c s₁ Bd hml0 hP hK
  obtain ⟨rfl, hZ, hh⟩ := hP
  have hx := Bd.exec
  have hby := Bd.bytes
  have hml : c.maxLocals = 13 := hml0
  have hown : s.vm.findClass "com/example/koppel/koppel/weighting/TermVectorIsZeroPinLaw" = some m.cls := findClass_of_methodNamed Bd.named
  have hnm := (name_of_methodNamed Bd.named Bd.method).1
  have X0 : Stand p l e room_1 s m #[(.int p0), (.int p1), (.int p2), (.int p3)] below meth c s₁ [] 0 0 := Stand.of_body Bd
  have e0 : s₁.heap = h0 := by rw [← hh, Bd.state]; rfl
  have N0 := Fr.nil n0
  obtain ⟨G, hG⟩ : ∃ G : State → Prop, G = (fun U' => ∃ o, U'.status = .running ∧ Ended U' below o ∧ ∃ v L, o = .returned v ∧ Q_rm0 Z p0 p1 p2 p3 h0 n0 v U'.heap L ∧ FrameEnd s o U' L 3 6) := ⟨_, rfl⟩
  suffices key : Gl p.tables e below s₁ (mkF m 0 #[.val (.int p0), .val (.int p1), .val (.int p2), .val (.int p3), .unset, .unset, .unset, .unset, .unset, .unset, .unset, .unset, .unset] []) G by
    obtain ⟨s₂, k1, k2⟩ := key
    rw [hG] at k2
    obtain ⟨o, k3, k4, k5⟩ := k2
    exact ⟨s₂, o, castTop (ef_rm0 m p0 p1 p2 p3) k1, k3, k4, k5⟩
  show Gl p.tables e below s₁ (mkF m 0 #[.val (.int p0), .val (.int p1), .val (.int p2), .val (.int p3), .unset, .unset, .unset, .unset, .unset, .unset, .unset, .unset, .unset] []) G
  refine Gl.via (fun _ k => XS.iloadN X0.here hx rfl (hb hby at_0) rfl k) ?_
  show Gl p.tables e below s₁ (mkF m 1 #[.val (.int p0), .val (.int p1), .val (.int p2), .val (.int p3), .unset, .unset, .unset, .unset, .unset, .unset, .unset, .unset, .unset] [(.int p0)]) G
  refine Gl.via (fun _ k => XS.bipush X0.here hx rfl (hb hby at_1) k) ?_
  show Gl p.tables e below s₁ (mkF m 3 #[.val (.int p0), .val (.int p1), .val (.int p2), .val (.int p3), .unset, .unset, .unset, .unset, .unset, .unset, .unset, .unset, .unset] [(.int (7 : Int32)), (.int p0)]) G
  refine Gl.via (fun _ k => XS.iand X0.here hx rfl (hb hby at_3) rfl k) ?_
  show Gl p.tables e below s₁ (mkF m 4 #[.val (.int p0), .val (.int p1), .val (.int p2), .val (.int p3), .unset, .unset, .unset, .unset, .unset, .unset, .unset, .unset, .unset] [(.int (p0 &&& (7 : Int32)))]) G
  refine Gl.via (fun _ k => XS.istore X0.here hx rfl (hb hby at_4) rfl (l' := #[.val (.int p0), .val (.int p1), .val (.int p2), .val (.int p3), .val (.int (p0 &&& (7 : Int32))), .unset, .unset, .unset, .unset, .unset, .unset, .unset, .unset]) rfl k) ?_
  show Gl p.tables e below s₁ (mkF m 6 #[.val (.int p0), .val (.int p1), .val (.int p2), .val (.int p3), .val (.int (p0 &&& (7 : Int32))), .unset, .unset, .unset, .unset, .unset, .unset, .unset, .unset] []) G
  refine Gl.via (fun _ k => XS.iload X0.here hx rfl (hb hby at_6) rfl k) ?_
  show Gl p.tables e below s₁ (mkF m 8 #[.val (.int p0), .val (.int p1), .val (.int p2), .val (.int p3), .val (.int (p0 &&& (7 : Int32))), .unset, .unset, .unset, .unset, .unset, .unset, .unset, .unset] [(.int (p0 &&& (7 : Int32)))]) G
  refine Gl.via (fun _ k => XS.i2dS X0.here hx rfl (hb hby at_8) rfl rfl k) ?_
  show Gl p.tables e below s₁ (mkF m 9 #[.val (.int p0), .val (.int p1), .val (.int p2), .val (.int p3), .val (.int (p0 &&& (7 : Int32))), .unset, .unset, .unset, .unset, .unset, .unset, .unset, .unset] [(.double (FP.i2d (p0 &&& (7 : Int32))))]) G
  refine Gl.via (fun _ k => X0.ldc2DoubleC hx hown (mvT hZ (hw _ (List.mem_of_getElem? (i := 0) rfl))) (g := (mkF m 9 #[.val (.int p0), .val (.int p1), .val (.int p2), .val (.int p3), .val (.int (p0 &&& (7 : Int32))), .unset, .unset, .unset, .unset, .unset, .unset, .unset, .unset] [(.double (FP.i2d (p0 &&& (7 : Int32))))])) rfl (hb hby at_9) _ k) ?_
  show Gl p.tables e below s₁ (mkF m 12 #[.val (.int p0), .val (.int p1), .val (.int p2), .val (.int p3), .val (.int (p0 &&& (7 : Int32))), .unset, .unset, .unset, .unset, .unset, .unset, .unset, .unset] [(.double (4616189618054758400 : UInt64)), (.double (FP.i2d (p0 &&& (7 : Int32))))]) G
  refine Gl.via (fun _ k => XS.ddivS X0.here hx rfl (hb hby at_12) rfl (own_div _) rfl k) ?_
  show Gl p.tables e below s₁ (mkF m 13 #[.val (.int p0), .val (.int p1), .val (.int p2), .val (.int p3), .val (.int (p0 &&& (7 : Int32))), .unset, .unset, .unset, .unset, .unset, .unset, .unset, .unset] [(.double (FP.ddiv (FP.i2d (p0 &&& (7 : Int32))) (4616189618054758400 : UInt64)))]) G
  refine Gl.via (fun _ k => XS.dstore X0.here hx rfl (hb hby at_13) rfl (l' := #[.val (.int p0), .val (.int p1), .val (.int p2), .val (.int p3), .val (.int (p0 &&& (7 : Int32))), .val (.double (FP.ddiv (FP.i2d (p0 &&& (7 : Int32))) (4616189618054758400 : UInt64))), .second, .unset, .unset, .unset, .unset, .unset, .unset]) rfl k) ?_
  show Gl p.tables e below s₁ (mkF m 15 #[.val (.int p0), .val (.int p1), .val (.int p2), .val (.int p3), .val (.int (p0 &&& (7 : Int32))), .val (.double (FP.ddiv (FP.i2d (p0 &&& (7 : Int32))) (4616189618054758400 : UInt64))), .second, .unset, .unset, .unset, .unset, .unset, .unset] []) G
  refine Gl.via (fun _ k => XS.iload X0.here hx rfl (hb hby at_15) rfl k) ?_
  show Gl p.tables e below s₁ (mkF m 17 #[.val (.int p0), .val (.int p1), .val (.int p2), .val (.int p3), .val (.int (p0 &&& (7 : Int32))), .val (.double (FP.ddiv (FP.i2d (p0 &&& (7 : Int32))) (4616189618054758400 : UInt64))), .second, .unset, .unset, .unset, .unset, .unset, .unset] [(.int (p0 &&& (7 : Int32)))]) G
  by_cases k0 : (p0 &&& (7 : Int32)) = (0 : Int32)
  · refine Gl.via (fun _ k => XS.ifYes X0.here hx rfl (pc0 := 17) (pc' := 30) rfl (hb hby at_17) rfl ((if0 _ _).trans (teq k0).1) (by decide) (by decide) k) ?_
    show Gl p.tables e below s₁ (mkF m 30 #[.val (.int p0), .val (.int p1), .val (.int p2), .val (.int p3), .val (.int (p0 &&& (7 : Int32))), .val (.double (FP.ddiv (FP.i2d (p0 &&& (7 : Int32))) (4616189618054758400 : UInt64))), .second, .unset, .unset, .unset, .unset, .unset, .unset] []) G
    refine Gl.via (fun _ k => XS.iconst X0.here hx rfl (hb hby at_30) k) ?_
    show Gl p.tables e below s₁ (mkF m 31 #[.val (.int p0), .val (.int p1), .val (.int p2), .val (.int p3), .val (.int (p0 &&& (7 : Int32))), .val (.double (FP.ddiv (FP.i2d (p0 &&& (7 : Int32))) (4616189618054758400 : UInt64))), .second, .unset, .unset, .unset, .unset, .unset, .unset] [(.int (0 : Int32))]) G
    refine Gl.via (fun _ k => XS.istore X0.here hx rfl (hb hby at_31) rfl (l' := #[.val (.int p0), .val (.int p1), .val (.int p2), .val (.int p3), .val (.int (p0 &&& (7 : Int32))), .val (.double (FP.ddiv (FP.i2d (p0 &&& (7 : Int32))) (4616189618054758400 : UInt64))), .second, .val (.int (0 : Int32)), .unset, .unset, .unset, .unset, .unset]) rfl k) ?_
    show Gl p.tables e below s₁ (mkF m 33 #[.val (.int p0), .val (.int p1), .val (.int p2), .val (.int p3), .val (.int (p0 &&& (7 : Int32))), .val (.double (FP.ddiv (FP.i2d (p0 &&& (7 : Int32))) (4616189618054758400 : UInt64))), .second, .val (.int (0 : Int32)), .unset, .unset, .unset, .unset, .unset] []) G
    refine Gl.via (fun _ k => XS.iload X0.here hx rfl (hb hby at_33) rfl k) ?_
    show Gl p.tables e below s₁ (mkF m 35 #[.val (.int p0), .val (.int p1), .val (.int p2), .val (.int p3), .val (.int (p0 &&& (7 : Int32))), .val (.double (FP.ddiv (FP.i2d (p0 &&& (7 : Int32))) (4616189618054758400 : UInt64))), .second, .val (.int (0 : Int32)), .unset, .unset, .unset, .unset, .unset] [(.int (0 : Int32))]) G
    refine Gl.via (fun _ k => XS.ifYes X0.here hx rfl (pc0 := 35) (pc' := 48) rfl (hb hby at_35) rfl ((if0 _ _).trans (teq (by decide)).1) (by decide) (by decide) k) ?_
    show Gl p.tables e below s₁ (mkF m 48 #[.val (.int p0), .val (.int p1), .val (.int p2), .val (.int p3), .val (.int (p0 &&& (7 : Int32))), .val (.double (FP.ddiv (FP.i2d (p0 &&& (7 : Int32))) (4616189618054758400 : UInt64))), .second, .val (.int (0 : Int32)), .unset, .unset, .unset, .unset, .unset] []) G
    refine Gl.via (fun _ k => XS.iconst X0.here hx rfl (hb hby at_48) k) ?_
    show Gl p.tables e below s₁ (mkF m 49 #[.val (.int p0), .val (.int p1), .val (.int p2), .val (.int p3), .val (.int (p0 &&& (7 : Int32))), .val (.double (FP.ddiv (FP.i2d (p0 &&& (7 : Int32))) (4616189618054758400 : UInt64))), .second, .val (.int (0 : Int32)), .unset, .unset, .unset, .unset, .unset] [(.int (0 : Int32))]) G
    obtain ⟨T1, h1, k1, X1, e1, E1, A1, st1⟩ := newP X0 hx hZ (hw _ (List.mem_of_getElem? (i := 1) rfl)) e0 (g := (mkF m 49 #[.val (.int p0), .val (.int p1), .val (.int p2), .val (.int p3), .val (.int (p0 &&& (7 : Int32))), .val (.double (FP.ddiv (FP.i2d (p0 &&& (7 : Int32))) (4616189618054758400 : UInt64))), .second, .val (.int (0 : Int32)), .unset, .unset, .unset, .unset, .unset] [(.int (0 : Int32))])) rfl (hb hby at_49) rfl (by decide) (cap := 0) (by decide) (by decide) (by decide) (by decide)
    obtain ⟨b1, g1⟩ : ∃ z, z = h0.size := ⟨_, rfl⟩
    rw [← g1] at A1 st1
    have ge2 : n0 ≤ b1 := Nat.le_trans Z0 (Nat.le_of_eq g1.symm)
    have gz3 : h0.size ≤ b1 := Nat.le_trans (Nat.le_refl h0.size) (Nat.le_of_eq g1.symm)
    refine Gl.via st1 ?_
    have Z4 : n0 ≤ h1.size := Nat.le_trans Z0 E1.1
    have Y5 : h0.size ≤ h1.size := Nat.le_trans (Nat.le_refl h0.size) E1.1
    have V6 : Arv Z h1 b1 k1 .int (0 : Int32) [] (.int (0 : Int32)) := (Arv.new A1 (by decide)).pad (pad_rep [] (.int (0 : Int32)) 0)
    show Gl p.tables e below T1 (mkF m 51 #[.val (.int p0), .val (.int p1), .val (.int p2), .val (.int p3), .val (.int (p0 &&& (7 : Int32))), .val (.double (FP.ddiv (FP.i2d (p0 &&& (7 : Int32))) (4616189618054758400 : UInt64))), .second, .val (.int (0 : Int32)), .unset, .unset, .unset, .unset, .unset] [(.ref b1)]) G
    refine Gl.via (fun _ k => XS.astore X1.here hx rfl (hb hby at_51) rfl rfl (l' := #[.val (.int p0), .val (.int p1), .val (.int p2), .val (.int p3), .val (.int (p0 &&& (7 : Int32))), .val (.double (FP.ddiv (FP.i2d (p0 &&& (7 : Int32))) (4616189618054758400 : UInt64))), .second, .val (.int (0 : Int32)), .val (.ref b1), .unset, .unset, .unset, .unset]) rfl k) ?_
    show Gl p.tables e below T1 (mkF m 53 #[.val (.int p0), .val (.int p1), .val (.int p2), .val (.int p3), .val (.int (p0 &&& (7 : Int32))), .val (.double (FP.ddiv (FP.i2d (p0 &&& (7 : Int32))) (4616189618054758400 : UInt64))), .second, .val (.int (0 : Int32)), .val (.ref b1), .unset, .unset, .unset, .unset] []) G
    refine Gl.via (fun _ k => XS.iload X1.here hx rfl (hb hby at_53) rfl k) ?_
    show Gl p.tables e below T1 (mkF m 55 #[.val (.int p0), .val (.int p1), .val (.int p2), .val (.int p3), .val (.int (p0 &&& (7 : Int32))), .val (.double (FP.ddiv (FP.i2d (p0 &&& (7 : Int32))) (4616189618054758400 : UInt64))), .second, .val (.int (0 : Int32)), .val (.ref b1), .unset, .unset, .unset, .unset] [(.int (0 : Int32))]) G
    refine Gl.via (fun _ k => XS.ifYes X1.here hx rfl (pc0 := 55) (pc' := 69) rfl (hb hby at_55) rfl ((if0 _ _).trans (teq (by decide)).1) (by decide) (by decide) k) ?_
    show Gl p.tables e below T1 (mkF m 69 #[.val (.int p0), .val (.int p1), .val (.int p2), .val (.int p3), .val (.int (p0 &&& (7 : Int32))), .val (.double (FP.ddiv (FP.i2d (p0 &&& (7 : Int32))) (4616189618054758400 : UInt64))), .second, .val (.int (0 : Int32)), .val (.ref b1), .unset, .unset, .unset, .unset] []) G
    refine Gl.via (fun _ k => XS.iconst X1.here hx rfl (hb hby at_69) k) ?_
    show Gl p.tables e below T1 (mkF m 70 #[.val (.int p0), .val (.int p1), .val (.int p2), .val (.int p3), .val (.int (p0 &&& (7 : Int32))), .val (.double (FP.ddiv (FP.i2d (p0 &&& (7 : Int32))) (4616189618054758400 : UInt64))), .second, .val (.int (0 : Int32)), .val (.ref b1), .unset, .unset, .unset, .unset] [(.int (0 : Int32))]) G
    obtain ⟨T7, h7, k7, X7, e7, E7, A7, st7⟩ := newP X1 hx hZ (hw _ (List.mem_of_getElem? (i := 2) rfl)) e1 (g := (mkF m 70 #[.val (.int p0), .val (.int p1), .val (.int p2), .val (.int p3), .val (.int (p0 &&& (7 : Int32))), .val (.double (FP.ddiv (FP.i2d (p0 &&& (7 : Int32))) (4616189618054758400 : UInt64))), .second, .val (.int (0 : Int32)), .val (.ref b1), .unset, .unset, .unset, .unset] [(.int (0 : Int32))])) rfl (hb hby at_70) rfl (by decide) (cap := 0) (by decide) (by decide) (by decide) (by decide)
    obtain ⟨b7, g7⟩ : ∃ z, z = h1.size := ⟨_, rfl⟩
    rw [← g7] at A7 st7
    have ne8 : b1 ≠ b7 := Nat.ne_of_lt (Nat.lt_of_lt_of_le V6.lt (Nat.le_of_eq g7.symm))
    have ge9 : n0 ≤ b7 := Nat.le_trans Z4 (Nat.le_of_eq g7.symm)
    have gz10 : h0.size ≤ b7 := Nat.le_trans Y5 (Nat.le_of_eq g7.symm)
    refine Gl.via st7 ?_
    have Z11 : n0 ≤ h7.size := Nat.le_trans Z4 E7.1
    have Y12 : h0.size ≤ h7.size := Nat.le_trans Y5 E7.1
    have V13 : Arv Z h7 b7 k7 .double (0 : Int32) [] (.double (0 : UInt64)) := (Arv.new A7 (by decide)).pad (pad_rep [] (.double (0 : UInt64)) 0)
    show Gl p.tables e below T7 (mkF m 72 #[.val (.int p0), .val (.int p1), .val (.int p2), .val (.int p3), .val (.int (p0 &&& (7 : Int32))), .val (.double (FP.ddiv (FP.i2d (p0 &&& (7 : Int32))) (4616189618054758400 : UInt64))), .second, .val (.int (0 : Int32)), .val (.ref b1), .unset, .unset, .unset, .unset] [(.ref b7)]) G
    refine Gl.via (fun _ k => XS.astore X7.here hx rfl (hb hby at_72) rfl rfl (l' := #[.val (.int p0), .val (.int p1), .val (.int p2), .val (.int p3), .val (.int (p0 &&& (7 : Int32))), .val (.double (FP.ddiv (FP.i2d (p0 &&& (7 : Int32))) (4616189618054758400 : UInt64))), .second, .val (.int (0 : Int32)), .val (.ref b1), .val (.ref b7), .unset, .unset, .unset]) rfl k) ?_
    show Gl p.tables e below T7 (mkF m 74 #[.val (.int p0), .val (.int p1), .val (.int p2), .val (.int p3), .val (.int (p0 &&& (7 : Int32))), .val (.double (FP.ddiv (FP.i2d (p0 &&& (7 : Int32))) (4616189618054758400 : UInt64))), .second, .val (.int (0 : Int32)), .val (.ref b1), .val (.ref b7), .unset, .unset, .unset] []) G
    refine Gl.via (fun _ k => XS.iload X7.here hx rfl (hb hby at_74) rfl k) ?_
    show Gl p.tables e below T7 (mkF m 76 #[.val (.int p0), .val (.int p1), .val (.int p2), .val (.int p3), .val (.int (p0 &&& (7 : Int32))), .val (.double (FP.ddiv (FP.i2d (p0 &&& (7 : Int32))) (4616189618054758400 : UInt64))), .second, .val (.int (0 : Int32)), .val (.ref b1), .val (.ref b7), .unset, .unset, .unset] [(.int (p0 &&& (7 : Int32)))]) G
    refine Gl.via (fun _ k => XS.ifNo X7.here hx rfl (hb hby at_76) rfl ((if0 _ _).trans (teq k0).2) k) ?_
    show Gl p.tables e below T7 (mkF m 79 #[.val (.int p0), .val (.int p1), .val (.int p2), .val (.int p3), .val (.int (p0 &&& (7 : Int32))), .val (.double (FP.ddiv (FP.i2d (p0 &&& (7 : Int32))) (4616189618054758400 : UInt64))), .second, .val (.int (0 : Int32)), .val (.ref b1), .val (.ref b7), .unset, .unset, .unset] []) G
    refine Gl.via (fun _ k => XS.dconst0 X7.here hx rfl (hb hby at_79) rfl k) ?_
    show Gl p.tables e below T7 (mkF m 80 #[.val (.int p0), .val (.int p1), .val (.int p2), .val (.int p3), .val (.int (p0 &&& (7 : Int32))), .val (.double (FP.ddiv (FP.i2d (p0 &&& (7 : Int32))) (4616189618054758400 : UInt64))), .second, .val (.int (0 : Int32)), .val (.ref b1), .val (.ref b7), .unset, .unset, .unset] [(.double FP.dconst0)]) G
    refine Gl.via (fun _ k => XS.goto X7.here hx rfl (pc0 := 80) (pc' := 91) rfl (hb hby at_80) (by decide) (by decide) k) ?_
    show Gl p.tables e below T7 (mkF m 91 #[.val (.int p0), .val (.int p1), .val (.int p2), .val (.int p3), .val (.int (p0 &&& (7 : Int32))), .val (.double (FP.ddiv (FP.i2d (p0 &&& (7 : Int32))) (4616189618054758400 : UInt64))), .second, .val (.int (0 : Int32)), .val (.ref b1), .val (.ref b7), .unset, .unset, .unset] [(.double FP.dconst0)]) G
    refine Gl.via (fun _ k => XS.dstore X7.here hx rfl (hb hby at_91) rfl (l' := #[.val (.int p0), .val (.int p1), .val (.int p2), .val (.int p3), .val (.int (p0 &&& (7 : Int32))), .val (.double (FP.ddiv (FP.i2d (p0 &&& (7 : Int32))) (4616189618054758400 : UInt64))), .second, .val (.int (0 : Int32)), .val (.ref b1), .val (.ref b7), .val (.double FP.dconst0), .second, .unset]) rfl k) ?_
    show Gl p.tables e below T7 (mkF m 93 #[.val (.int p0), .val (.int p1), .val (.int p2), .val (.int p3), .val (.int (p0 &&& (7 : Int32))), .val (.double (FP.ddiv (FP.i2d (p0 &&& (7 : Int32))) (4616189618054758400 : UInt64))), .second, .val (.int (0 : Int32)), .val (.ref b1), .val (.ref b7), .val (.double FP.dconst0), .second, .unset] []) G
    obtain ⟨T14, h14, X14, e14, E14, A14, D14, -, st14⟩ := newO X7 hx hZ hown (hw _ (List.mem_of_getElem? (i := 3) rfl)) (hw _ (List.mem_of_getElem? (i := 4) rfl)) (hw _ (List.mem_of_getElem? (i := 5) rfl)) e7 (g := (mkF m 93 #[.val (.int p0), .val (.int p1), .val (.int p2), .val (.int p3), .val (.int (p0 &&& (7 : Int32))), .val (.double (FP.ddiv (FP.i2d (p0 &&& (7 : Int32))) (4616189618054758400 : UInt64))), .second, .val (.int (0 : Int32)), .val (.ref b1), .val (.ref b7), .val (.double FP.dconst0), .second, .unset] [])) rfl (hb hby at_93) (by decide) (by decide)
    obtain ⟨b14, g14⟩ : ∃ z, z = h7.size := ⟨_, rfl⟩
    rw [← g14] at A14 D14 st14
    have G15 : Arv Z h7 b1 k1 .int (0 : Int32) [] (.int (0 : Int32)) := (V6.ext E7)
    have ne16 : b1 ≠ b14 := Nat.ne_of_lt (Nat.lt_of_lt_of_le G15.lt (Nat.le_of_eq g14.symm))
    have ne17 : b7 ≠ b14 := Nat.ne_of_lt (Nat.lt_of_lt_of_le V13.lt (Nat.le_of_eq g14.symm))
    have ge18 : n0 ≤ b14 := Nat.le_trans Z11 (Nat.le_of_eq g14.symm)
    have gz19 : h0.size ≤ b14 := Nat.le_trans Y12 (Nat.le_of_eq g14.symm)
    refine Gl.via st14 ?_
    have Z20 : n0 ≤ h14.size := Nat.le_trans Z11 E14.1
    have Y21 : h0.size ≤ h14.size := Nat.le_trans Y12 E14.1
    have F22 : Fld Z h14 b14 "com/example/koppel/koppel/weighting/TermVector" "termIds" "[I" .null := D14 (Or.inr (hw _ (List.mem_of_getElem? (i := 18) rfl))) (ty := (.array .int)) (by decide)
    have F23 : Fld Z h14 b14 "com/example/koppel/koppel/weighting/TermVector" "weights" "[D" .null := D14 (Or.inr (hw _ (List.mem_of_getElem? (i := 20) rfl))) (ty := (.array .double)) (by decide)
    have F24 : Fld Z h14 b14 "com/example/koppel/koppel/weighting/TermVector" "norm" "D" (.double (0 : UInt64)) := D14 (Or.inr (hw _ (List.mem_of_getElem? (i := 22) rfl))) (ty := .double) (by decide)
    have F25 : Fld Z h14 b14 "com/example/koppel/koppel/weighting/TermVector" "sum" "D" (.double (0 : UInt64)) := D14 (Or.inr (hw _ (List.mem_of_getElem? (i := 24) rfl))) (ty := .double) (by decide)
    show Gl p.tables e below T14 (mkF m 96 #[.val (.int p0), .val (.int p1), .val (.int p2), .val (.int p3), .val (.int (p0 &&& (7 : Int32))), .val (.double (FP.ddiv (FP.i2d (p0 &&& (7 : Int32))) (4616189618054758400 : UInt64))), .second, .val (.int (0 : Int32)), .val (.ref b1), .val (.ref b7), .val (.double FP.dconst0), .second, .unset] [(.ref b14)]) G
    refine Gl.via (fun _ k => XS.dup X14.here hx rfl (hb hby at_96) rfl rfl k) ?_
    show Gl p.tables e below T14 (mkF m 97 #[.val (.int p0), .val (.int p1), .val (.int p2), .val (.int p3), .val (.int (p0 &&& (7 : Int32))), .val (.double (FP.ddiv (FP.i2d (p0 &&& (7 : Int32))) (4616189618054758400 : UInt64))), .second, .val (.int (0 : Int32)), .val (.ref b1), .val (.ref b7), .val (.double FP.dconst0), .second, .unset] [(.ref b14), (.ref b14)]) G
    refine Gl.via (fun _ k => XS.aload X14.here hx rfl (hb hby at_97) rfl rfl k) ?_
    show Gl p.tables e below T14 (mkF m 99 #[.val (.int p0), .val (.int p1), .val (.int p2), .val (.int p3), .val (.int (p0 &&& (7 : Int32))), .val (.double (FP.ddiv (FP.i2d (p0 &&& (7 : Int32))) (4616189618054758400 : UInt64))), .second, .val (.int (0 : Int32)), .val (.ref b1), .val (.ref b7), .val (.double FP.dconst0), .second, .unset] [(.ref b1), (.ref b14), (.ref b14)]) G
    refine Gl.via (fun _ k => XS.aload X14.here hx rfl (hb hby at_99) rfl rfl k) ?_
    show Gl p.tables e below T14 (mkF m 101 #[.val (.int p0), .val (.int p1), .val (.int p2), .val (.int p3), .val (.int (p0 &&& (7 : Int32))), .val (.double (FP.ddiv (FP.i2d (p0 &&& (7 : Int32))) (4616189618054758400 : UInt64))), .second, .val (.int (0 : Int32)), .val (.ref b1), .val (.ref b7), .val (.double FP.dconst0), .second, .unset] [(.ref b7), (.ref b1), (.ref b14), (.ref b14)]) G
    refine Gl.via (fun _ k => XS.dload X14.here hx rfl (hb hby at_101) rfl k) ?_
    show Gl p.tables e below T14 (mkF m 103 #[.val (.int p0), .val (.int p1), .val (.int p2), .val (.int p3), .val (.int (p0 &&& (7 : Int32))), .val (.double (FP.ddiv (FP.i2d (p0 &&& (7 : Int32))) (4616189618054758400 : UInt64))), .second, .val (.int (0 : Int32)), .val (.ref b1), .val (.ref b7), .val (.double FP.dconst0), .second, .unset] [(.double (FP.ddiv (FP.i2d (p0 &&& (7 : Int32))) (4616189618054758400 : UInt64))), (.ref b7), (.ref b1), (.ref b14), (.ref b14)]) G
    refine Gl.via (fun _ k => XS.dload X14.here hx rfl (hb hby at_103) rfl k) ?_
    show Gl p.tables e below T14 (mkF m 105 #[.val (.int p0), .val (.int p1), .val (.int p2), .val (.int p3), .val (.int (p0 &&& (7 : Int32))), .val (.double (FP.ddiv (FP.i2d (p0 &&& (7 : Int32))) (4616189618054758400 : UInt64))), .second, .val (.int (0 : Int32)), .val (.ref b1), .val (.ref b7), .val (.double FP.dconst0), .second, .unset] [(.double FP.dconst0), (.double (FP.ddiv (FP.i2d (p0 &&& (7 : Int32))) (4616189618054758400 : UInt64))), (.ref b7), (.ref b1), (.ref b14), (.ref b14)]) G
    obtain ⟨_, _, ⟨T26, L26, k26, n26⟩, -, X26, ⟨Lc26, hQ26, l26, y26, z26⟩, st26⟩ := X14.specialBack hx (y := (⟨"com/example/koppel/koppel/weighting/TermVector", "<init>", "([I[DDD)V"⟩ : MethodName)) rfl hown (mvT hZ (hw _ (List.mem_of_getElem? (i := 6) rfl))) (mvT hZ (hw _ (List.mem_of_getElem? (i := 7) rfl))) (mvT hZ (hw _ (List.mem_of_getElem? (i := 8) rfl))) (by decide) (backOf (W := 1) (t_init l Z a0 hw [] b14 b1 b7 (FP.ddiv (FP.i2d (p0 &&& (7 : Int32))) (4616189618054758400 : UInt64)) FP.dconst0 .null .null (.double (0 : UInt64)) (.double (0 : UInt64)) h14 n0 Z20 A14 F22 F23 F24 F25 ge18) hZ (hw _ (List.mem_of_getElem? (i := 8) rfl)) (hw _ (List.mem_of_getElem? (i := 5) rfl)) (by decide) (by decide)) (g := (mkF m 105 #[.val (.int p0), .val (.int p1), .val (.int p2), .val (.int p3), .val (.int (p0 &&& (7 : Int32))), .val (.double (FP.ddiv (FP.i2d (p0 &&& (7 : Int32))) (4616189618054758400 : UInt64))), .second, .val (.int (0 : Int32)), .val (.ref b1), .val (.ref b7), .val (.double FP.dconst0), .second, .unset] [(.double FP.dconst0), (.double (FP.ddiv (FP.i2d (p0 &&& (7 : Int32))) (4616189618054758400 : UInt64))), (.ref b7), (.ref b1), (.ref b14), (.ref b14)])) rfl (by rw [hml]; rfl) (Steps.refl _) (a := b14) (argsL := [(.ref b1), (.ref b7), (.double (FP.ddiv (FP.i2d (p0 &&& (7 : Int32))) (4616189618054758400 : UInt64))), (.double FP.dconst0)]) (rest := [(.ref b14)]) (lenOf pd_1 rfl) rfl (by show 2 * 0 + _ ≤ _; exact Nat.le_of_eq rfl) (hb hby at_105) (fun _ _ => ⟨rfl, e14, (by decide : 3 + 0 ≤ _), (by decide : 4 + 0 ≤ _)⟩)
    dsimp only [Pt.U, Pt.locs, Pt.cells, Pt.slots] at X26 l26 y26 z26 st26 hQ26
    subst l26 y26 z26
    obtain ⟨rfl, N26q, K26, P27, P28⟩ := hQ26
    have N26_ := Fr.app N0 N26q
    refine Gl.via (fun _ k => st26.trans k) ?_
    have Z29 : n0 ≤ T26.heap.size := Nat.le_trans Z20 K26.1
    have Y30 : h0.size ≤ T26.heap.size := Nat.le_trans Y21 K26.1
    show Gl p.tables e below T26 (mkF m 108 #[.val (.int p0), .val (.int p1), .val (.int p2), .val (.int p3), .val (.int (p0 &&& (7 : Int32))), .val (.double (FP.ddiv (FP.i2d (p0 &&& (7 : Int32))) (4616189618054758400 : UInt64))), .second, .val (.int (0 : Int32)), .val (.ref b1), .val (.ref b7), .val (.double FP.dconst0), .second, .unset] [(.ref b14)]) G
    refine Gl.via (fun _ k => XS.astore X26.here hx rfl (hb hby at_108) rfl rfl (l' := #[.val (.int p0), .val (.int p1), .val (.int p2), .val (.int p3), .val (.int (p0 &&& (7 : Int32))), .val (.double (FP.ddiv (FP.i2d (p0 &&& (7 : Int32))) (4616189618054758400 : UInt64))), .second, .val (.int (0 : Int32)), .val (.ref b1), .val (.ref b7), .val (.double FP.dconst0), .second, .val (.ref b14)]) rfl k) ?_
    show Gl p.tables e below T26 (mkF m 110 #[.val (.int p0), .val (.int p1), .val (.int p2), .val (.int p3), .val (.int (p0 &&& (7 : Int32))), .val (.double (FP.ddiv (FP.i2d (p0 &&& (7 : Int32))) (4616189618054758400 : UInt64))), .second, .val (.int (0 : Int32)), .val (.ref b1), .val (.ref b7), .val (.double FP.dconst0), .second, .val (.ref b14)] []) G
    refine Gl.via (fun _ k => XS.aload X26.here hx rfl (hb hby at_110) rfl rfl k) ?_
    show Gl p.tables e below T26 (mkF m 112 #[.val (.int p0), .val (.int p1), .val (.int p2), .val (.int p3), .val (.int (p0 &&& (7 : Int32))), .val (.double (FP.ddiv (FP.i2d (p0 &&& (7 : Int32))) (4616189618054758400 : UInt64))), .second, .val (.int (0 : Int32)), .val (.ref b1), .val (.ref b7), .val (.double FP.dconst0), .second, .val (.ref b14)] [(.ref b14)]) G
    obtain ⟨cq31, kq31, q31a, q31b, q31c⟩ := isOf hZ rfl P27
    obtain ⟨_, _, ⟨T31, L31, k31, n31⟩, -, X31, ⟨Lc31, hQ31, l31, y31, z31⟩, st31⟩ := X26.virtualBack hx (y := (⟨"com/example/koppel/koppel/weighting/TermVector", "isZero", "()Z"⟩ : MethodName)) (z := (⟨"com/example/koppel/koppel/weighting/TermVector", "isZero", "()Z"⟩ : MethodName)) hown (mvT hZ (hw _ (List.mem_of_getElem? (i := 25) rfl))) (mvT hZ (hw _ (List.mem_of_getElem? (i := 26) rfl))) (notFace_of_selects (args := #[]) (mvT hZ (hw _ (List.mem_of_getElem? (i := 28) rfl)))) (mvT hZ (hw _ (List.mem_of_getElem? (i := 28) rfl))) (mvT hZ (hw _ (List.mem_of_getElem? (i := 27) rfl))) (by decide) (backOf (W := 0) (isz1 l Z a0 hw [] b14 (FP.ddiv (FP.i2d (p0 &&& (7 : Int32))) (4616189618054758400 : UInt64)) T26.heap n0 Z29 P28 ((own_cmp p0).mpr k0)) hZ (hw _ (List.mem_of_getElem? (i := 29) rfl)) (hw _ (List.mem_of_getElem? (i := 5) rfl)) (by decide) (by decide)) q31a q31c (g := (mkF m 112 #[.val (.int p0), .val (.int p1), .val (.int p2), .val (.int p3), .val (.int (p0 &&& (7 : Int32))), .val (.double (FP.ddiv (FP.i2d (p0 &&& (7 : Int32))) (4616189618054758400 : UInt64))), .second, .val (.int (0 : Int32)), .val (.ref b1), .val (.ref b7), .val (.double FP.dconst0), .second, .val (.ref b14)] [(.ref b14)])) rfl (by rw [hml]; rfl) (Steps.refl _) (argsL := []) (rest := []) (lenOf pd_2 rfl) rfl (by show 2 * 0 + _ ≤ _; exact Nat.le_of_eq rfl) (hb hby at_112) (fun _ _ => ⟨rfl, rfl, (by decide : 3 + 0 ≤ _), (by decide : 4 + 0 ≤ _)⟩)
    dsimp only [Pt.U, Pt.locs, Pt.cells, Pt.slots] at X31 l31 y31 z31 st31 hQ31
    subst l31 y31 z31
    obtain ⟨rfl, N31q, eh31⟩ := hQ31
    have N31_ := Fr.app N26_ N31q
    refine Gl.via (fun _ k => st31.trans k) ?_
    show Gl p.tables e below T31 (mkF m 115 #[.val (.int p0), .val (.int p1), .val (.int p2), .val (.int p3), .val (.int (p0 &&& (7 : Int32))), .val (.double (FP.ddiv (FP.i2d (p0 &&& (7 : Int32))) (4616189618054758400 : UInt64))), .second, .val (.int (0 : Int32)), .val (.ref b1), .val (.ref b7), .val (.double FP.dconst0), .second, .val (.ref b14)] [(.int (1 : Int32))]) G
    refine Gl.via (fun _ k => XS.iload X31.here hx rfl (hb hby at_115) rfl k) ?_
    show Gl p.tables e below T31 (mkF m 117 #[.val (.int p0), .val (.int p1), .val (.int p2), .val (.int p3), .val (.int (p0 &&& (7 : Int32))), .val (.double (FP.ddiv (FP.i2d (p0 &&& (7 : Int32))) (4616189618054758400 : UInt64))), .second, .val (.int (0 : Int32)), .val (.ref b1), .val (.ref b7), .val (.double FP.dconst0), .second, .val (.ref b14)] [(.int (p0 &&& (7 : Int32))), (.int (1 : Int32))]) G
    refine Gl.via (fun _ k => XS.ifNo X31.here hx rfl (hb hby at_117) rfl ((if0 _ _).trans (teq k0).2) k) ?_
    show Gl p.tables e below T31 (mkF m 120 #[.val (.int p0), .val (.int p1), .val (.int p2), .val (.int p3), .val (.int (p0 &&& (7 : Int32))), .val (.double (FP.ddiv (FP.i2d (p0 &&& (7 : Int32))) (4616189618054758400 : UInt64))), .second, .val (.int (0 : Int32)), .val (.ref b1), .val (.ref b7), .val (.double FP.dconst0), .second, .val (.ref b14)] [(.int (1 : Int32))]) G
    refine Gl.via (fun _ k => XS.iconst X31.here hx rfl (hb hby at_120) k) ?_
    show Gl p.tables e below T31 (mkF m 121 #[.val (.int p0), .val (.int p1), .val (.int p2), .val (.int p3), .val (.int (p0 &&& (7 : Int32))), .val (.double (FP.ddiv (FP.i2d (p0 &&& (7 : Int32))) (4616189618054758400 : UInt64))), .second, .val (.int (0 : Int32)), .val (.ref b1), .val (.ref b7), .val (.double FP.dconst0), .second, .val (.ref b14)] [(.int (1 : Int32)), (.int (1 : Int32))]) G
    refine Gl.via (fun _ k => XS.goto X31.here hx rfl (pc0 := 121) (pc' := 125) rfl (hb hby at_121) (by decide) (by decide) k) ?_
    show Gl p.tables e below T31 (mkF m 125 #[.val (.int p0), .val (.int p1), .val (.int p2), .val (.int p3), .val (.int (p0 &&& (7 : Int32))), .val (.double (FP.ddiv (FP.i2d (p0 &&& (7 : Int32))) (4616189618054758400 : UInt64))), .second, .val (.int (0 : Int32)), .val (.ref b1), .val (.ref b7), .val (.double FP.dconst0), .second, .val (.ref b14)] [(.int (1 : Int32)), (.int (1 : Int32))]) G
    refine Gl.via (fun _ k => XS.icmpNo X31.here hx rfl (hb hby at_125) rfl (teq (by decide)).2 k) ?_
    show Gl p.tables e below T31 (mkF m 128 #[.val (.int p0), .val (.int p1), .val (.int p2), .val (.int p3), .val (.int (p0 &&& (7 : Int32))), .val (.double (FP.ddiv (FP.i2d (p0 &&& (7 : Int32))) (4616189618054758400 : UInt64))), .second, .val (.int (0 : Int32)), .val (.ref b1), .val (.ref b7), .val (.double FP.dconst0), .second, .val (.ref b14)] []) G
    refine Gl.via (fun _ k => XS.iconst X31.here hx rfl (hb hby at_128) k) ?_
    show Gl p.tables e below T31 (mkF m 129 #[.val (.int p0), .val (.int p1), .val (.int p2), .val (.int p3), .val (.int (p0 &&& (7 : Int32))), .val (.double (FP.ddiv (FP.i2d (p0 &&& (7 : Int32))) (4616189618054758400 : UInt64))), .second, .val (.int (0 : Int32)), .val (.ref b1), .val (.ref b7), .val (.double FP.dconst0), .second, .val (.ref b14)] [(.int (1 : Int32))]) G
    refine Gl.via (fun _ k => XS.goto X31.here hx rfl (pc0 := 129) (pc' := 133) rfl (hb hby at_129) (by decide) (by decide) k) ?_
    show Gl p.tables e below T31 (mkF m 133 #[.val (.int p0), .val (.int p1), .val (.int p2), .val (.int p3), .val (.int (p0 &&& (7 : Int32))), .val (.double (FP.ddiv (FP.i2d (p0 &&& (7 : Int32))) (4616189618054758400 : UInt64))), .second, .val (.int (0 : Int32)), .val (.ref b1), .val (.ref b7), .val (.double FP.dconst0), .second, .val (.ref b14)] [(.int (1 : Int32))]) G
    obtain ⟨fs, hr, hrun, hended, hW, hsame⟩ := X31.leave (v := some (.int (1 : Int32))) (fun h => by rw [Bd.returns] at h; cases h)
    have hq : ∀ L, Fr n0 L → Q_rm0 Z p0 p1 p2 p3 h0 n0 (some (.int (1 : Int32))) T31.heap L := by
      intro L hN
      rw [eh31]
      exact ⟨rfl, hN⟩
    rw [hG]
    exact Gl.fin (retN X31 hx (t := .boolean) Bd.returns (by simp) (hb hby at_133) hr) ⟨_, hrun, hended, _, _, rfl, hq _ N31_, ⟨_, rfl⟩, hW, hsame.mono (by decide) (by decide)⟩
  · refine Gl.via (fun _ k => XS.ifNo X0.here hx rfl (hb hby at_17) rfl ((if0 _ _).trans (feq k0).1) k) ?_
    show Gl p.tables e below s₁ (mkF m 20 #[.val (.int p0), .val (.int p1), .val (.int p2), .val (.int p3), .val (.int (p0 &&& (7 : Int32))), .val (.double (FP.ddiv (FP.i2d (p0 &&& (7 : Int32))) (4616189618054758400 : UInt64))), .second, .unset, .unset, .unset, .unset, .unset, .unset] []) G
    refine Gl.via (fun _ k => XS.iloadN X0.here hx rfl (hb hby at_20) rfl k) ?_
    show Gl p.tables e below s₁ (mkF m 21 #[.val (.int p0), .val (.int p1), .val (.int p2), .val (.int p3), .val (.int (p0 &&& (7 : Int32))), .val (.double (FP.ddiv (FP.i2d (p0 &&& (7 : Int32))) (4616189618054758400 : UInt64))), .second, .unset, .unset, .unset, .unset, .unset, .unset] [(.int p3)]) G
    refine Gl.via (fun _ k => XS.iconst X0.here hx rfl (hb hby at_21) k) ?_
    show Gl p.tables e below s₁ (mkF m 22 #[.val (.int p0), .val (.int p1), .val (.int p2), .val (.int p3), .val (.int (p0 &&& (7 : Int32))), .val (.double (FP.ddiv (FP.i2d (p0 &&& (7 : Int32))) (4616189618054758400 : UInt64))), .second, .unset, .unset, .unset, .unset, .unset, .unset] [(.int (1 : Int32)), (.int p3)]) G
    refine Gl.via (fun _ k => XS.iand X0.here hx rfl (hb hby at_22) rfl k) ?_
    show Gl p.tables e below s₁ (mkF m 23 #[.val (.int p0), .val (.int p1), .val (.int p2), .val (.int p3), .val (.int (p0 &&& (7 : Int32))), .val (.double (FP.ddiv (FP.i2d (p0 &&& (7 : Int32))) (4616189618054758400 : UInt64))), .second, .unset, .unset, .unset, .unset, .unset, .unset] [(.int (p3 &&& (1 : Int32)))]) G
    by_cases f0 : (p3 &&& (1 : Int32)) = (0 : Int32)
    · refine Gl.via (fun _ k => XS.ifYes X0.here hx rfl (pc0 := 23) (pc' := 30) rfl (hb hby at_23) rfl ((if0 _ _).trans (teq f0).1) (by decide) (by decide) k) ?_
      show Gl p.tables e below s₁ (mkF m 30 #[.val (.int p0), .val (.int p1), .val (.int p2), .val (.int p3), .val (.int (p0 &&& (7 : Int32))), .val (.double (FP.ddiv (FP.i2d (p0 &&& (7 : Int32))) (4616189618054758400 : UInt64))), .second, .unset, .unset, .unset, .unset, .unset, .unset] []) G
      refine Gl.via (fun _ k => XS.iconst X0.here hx rfl (hb hby at_30) k) ?_
      show Gl p.tables e below s₁ (mkF m 31 #[.val (.int p0), .val (.int p1), .val (.int p2), .val (.int p3), .val (.int (p0 &&& (7 : Int32))), .val (.double (FP.ddiv (FP.i2d (p0 &&& (7 : Int32))) (4616189618054758400 : UInt64))), .second, .unset, .unset, .unset, .unset, .unset, .unset] [(.int (0 : Int32))]) G
      refine Gl.via (fun _ k => XS.istore X0.here hx rfl (hb hby at_31) rfl (l' := #[.val (.int p0), .val (.int p1), .val (.int p2), .val (.int p3), .val (.int (p0 &&& (7 : Int32))), .val (.double (FP.ddiv (FP.i2d (p0 &&& (7 : Int32))) (4616189618054758400 : UInt64))), .second, .val (.int (0 : Int32)), .unset, .unset, .unset, .unset, .unset]) rfl k) ?_
      show Gl p.tables e below s₁ (mkF m 33 #[.val (.int p0), .val (.int p1), .val (.int p2), .val (.int p3), .val (.int (p0 &&& (7 : Int32))), .val (.double (FP.ddiv (FP.i2d (p0 &&& (7 : Int32))) (4616189618054758400 : UInt64))), .second, .val (.int (0 : Int32)), .unset, .unset, .unset, .unset, .unset] []) G
      refine Gl.via (fun _ k => XS.iload X0.here hx rfl (hb hby at_33) rfl k) ?_
      show Gl p.tables e below s₁ (mkF m 35 #[.val (.int p0), .val (.int p1), .val (.int p2), .val (.int p3), .val (.int (p0 &&& (7 : Int32))), .val (.double (FP.ddiv (FP.i2d (p0 &&& (7 : Int32))) (4616189618054758400 : UInt64))), .second, .val (.int (0 : Int32)), .unset, .unset, .unset, .unset, .unset] [(.int (0 : Int32))]) G
      refine Gl.via (fun _ k => XS.ifYes X0.here hx rfl (pc0 := 35) (pc' := 48) rfl (hb hby at_35) rfl ((if0 _ _).trans (teq (by decide)).1) (by decide) (by decide) k) ?_
      show Gl p.tables e below s₁ (mkF m 48 #[.val (.int p0), .val (.int p1), .val (.int p2), .val (.int p3), .val (.int (p0 &&& (7 : Int32))), .val (.double (FP.ddiv (FP.i2d (p0 &&& (7 : Int32))) (4616189618054758400 : UInt64))), .second, .val (.int (0 : Int32)), .unset, .unset, .unset, .unset, .unset] []) G
      refine Gl.via (fun _ k => XS.iconst X0.here hx rfl (hb hby at_48) k) ?_
      show Gl p.tables e below s₁ (mkF m 49 #[.val (.int p0), .val (.int p1), .val (.int p2), .val (.int p3), .val (.int (p0 &&& (7 : Int32))), .val (.double (FP.ddiv (FP.i2d (p0 &&& (7 : Int32))) (4616189618054758400 : UInt64))), .second, .val (.int (0 : Int32)), .unset, .unset, .unset, .unset, .unset] [(.int (0 : Int32))]) G
      obtain ⟨T32, h32, k32, X32, e32, E32, A32, st32⟩ := newP X0 hx hZ (hw _ (List.mem_of_getElem? (i := 1) rfl)) e0 (g := (mkF m 49 #[.val (.int p0), .val (.int p1), .val (.int p2), .val (.int p3), .val (.int (p0 &&& (7 : Int32))), .val (.double (FP.ddiv (FP.i2d (p0 &&& (7 : Int32))) (4616189618054758400 : UInt64))), .second, .val (.int (0 : Int32)), .unset, .unset, .unset, .unset, .unset] [(.int (0 : Int32))])) rfl (hb hby at_49) rfl (by decide) (cap := 0) (by decide) (by decide) (by decide) (by decide)
      obtain ⟨b32, g32⟩ : ∃ z, z = h0.size := ⟨_, rfl⟩
      rw [← g32] at A32 st32
      have ge33 : n0 ≤ b32 := Nat.le_trans Z0 (Nat.le_of_eq g32.symm)
      have gz34 : h0.size ≤ b32 := Nat.le_trans (Nat.le_refl h0.size) (Nat.le_of_eq g32.symm)
      refine Gl.via st32 ?_
      have Z35 : n0 ≤ h32.size := Nat.le_trans Z0 E32.1
      have Y36 : h0.size ≤ h32.size := Nat.le_trans (Nat.le_refl h0.size) E32.1
      have V37 : Arv Z h32 b32 k32 .int (0 : Int32) [] (.int (0 : Int32)) := (Arv.new A32 (by decide)).pad (pad_rep [] (.int (0 : Int32)) 0)
      show Gl p.tables e below T32 (mkF m 51 #[.val (.int p0), .val (.int p1), .val (.int p2), .val (.int p3), .val (.int (p0 &&& (7 : Int32))), .val (.double (FP.ddiv (FP.i2d (p0 &&& (7 : Int32))) (4616189618054758400 : UInt64))), .second, .val (.int (0 : Int32)), .unset, .unset, .unset, .unset, .unset] [(.ref b32)]) G
      refine Gl.via (fun _ k => XS.astore X32.here hx rfl (hb hby at_51) rfl rfl (l' := #[.val (.int p0), .val (.int p1), .val (.int p2), .val (.int p3), .val (.int (p0 &&& (7 : Int32))), .val (.double (FP.ddiv (FP.i2d (p0 &&& (7 : Int32))) (4616189618054758400 : UInt64))), .second, .val (.int (0 : Int32)), .val (.ref b32), .unset, .unset, .unset, .unset]) rfl k) ?_
      show Gl p.tables e below T32 (mkF m 53 #[.val (.int p0), .val (.int p1), .val (.int p2), .val (.int p3), .val (.int (p0 &&& (7 : Int32))), .val (.double (FP.ddiv (FP.i2d (p0 &&& (7 : Int32))) (4616189618054758400 : UInt64))), .second, .val (.int (0 : Int32)), .val (.ref b32), .unset, .unset, .unset, .unset] []) G
      refine Gl.via (fun _ k => XS.iload X32.here hx rfl (hb hby at_53) rfl k) ?_
      show Gl p.tables e below T32 (mkF m 55 #[.val (.int p0), .val (.int p1), .val (.int p2), .val (.int p3), .val (.int (p0 &&& (7 : Int32))), .val (.double (FP.ddiv (FP.i2d (p0 &&& (7 : Int32))) (4616189618054758400 : UInt64))), .second, .val (.int (0 : Int32)), .val (.ref b32), .unset, .unset, .unset, .unset] [(.int (0 : Int32))]) G
      refine Gl.via (fun _ k => XS.ifYes X32.here hx rfl (pc0 := 55) (pc' := 69) rfl (hb hby at_55) rfl ((if0 _ _).trans (teq (by decide)).1) (by decide) (by decide) k) ?_
      show Gl p.tables e below T32 (mkF m 69 #[.val (.int p0), .val (.int p1), .val (.int p2), .val (.int p3), .val (.int (p0 &&& (7 : Int32))), .val (.double (FP.ddiv (FP.i2d (p0 &&& (7 : Int32))) (4616189618054758400 : UInt64))), .second, .val (.int (0 : Int32)), .val (.ref b32), .unset, .unset, .unset, .unset] []) G
      refine Gl.via (fun _ k => XS.iconst X32.here hx rfl (hb hby at_69) k) ?_
      show Gl p.tables e below T32 (mkF m 70 #[.val (.int p0), .val (.int p1), .val (.int p2), .val (.int p3), .val (.int (p0 &&& (7 : Int32))), .val (.double (FP.ddiv (FP.i2d (p0 &&& (7 : Int32))) (4616189618054758400 : UInt64))), .second, .val (.int (0 : Int32)), .val (.ref b32), .unset, .unset, .unset, .unset] [(.int (0 : Int32))]) G
      obtain ⟨T38, h38, k38, X38, e38, E38, A38, st38⟩ := newP X32 hx hZ (hw _ (List.mem_of_getElem? (i := 2) rfl)) e32 (g := (mkF m 70 #[.val (.int p0), .val (.int p1), .val (.int p2), .val (.int p3), .val (.int (p0 &&& (7 : Int32))), .val (.double (FP.ddiv (FP.i2d (p0 &&& (7 : Int32))) (4616189618054758400 : UInt64))), .second, .val (.int (0 : Int32)), .val (.ref b32), .unset, .unset, .unset, .unset] [(.int (0 : Int32))])) rfl (hb hby at_70) rfl (by decide) (cap := 0) (by decide) (by decide) (by decide) (by decide)
      obtain ⟨b38, g38⟩ : ∃ z, z = h32.size := ⟨_, rfl⟩
      rw [← g38] at A38 st38
      have ne39 : b32 ≠ b38 := Nat.ne_of_lt (Nat.lt_of_lt_of_le V37.lt (Nat.le_of_eq g38.symm))
      have ge40 : n0 ≤ b38 := Nat.le_trans Z35 (Nat.le_of_eq g38.symm)
      have gz41 : h0.size ≤ b38 := Nat.le_trans Y36 (Nat.le_of_eq g38.symm)
      refine Gl.via st38 ?_
      have Z42 : n0 ≤ h38.size := Nat.le_trans Z35 E38.1
      have Y43 : h0.size ≤ h38.size := Nat.le_trans Y36 E38.1
      have V44 : Arv Z h38 b38 k38 .double (0 : Int32) [] (.double (0 : UInt64)) := (Arv.new A38 (by decide)).pad (pad_rep [] (.double (0 : UInt64)) 0)
      show Gl p.tables e below T38 (mkF m 72 #[.val (.int p0), .val (.int p1), .val (.int p2), .val (.int p3), .val (.int (p0 &&& (7 : Int32))), .val (.double (FP.ddiv (FP.i2d (p0 &&& (7 : Int32))) (4616189618054758400 : UInt64))), .second, .val (.int (0 : Int32)), .val (.ref b32), .unset, .unset, .unset, .unset] [(.ref b38)]) G
      refine Gl.via (fun _ k => XS.astore X38.here hx rfl (hb hby at_72) rfl rfl (l' := #[.val (.int p0), .val (.int p1), .val (.int p2), .val (.int p3), .val (.int (p0 &&& (7 : Int32))), .val (.double (FP.ddiv (FP.i2d (p0 &&& (7 : Int32))) (4616189618054758400 : UInt64))), .second, .val (.int (0 : Int32)), .val (.ref b32), .val (.ref b38), .unset, .unset, .unset]) rfl k) ?_
      show Gl p.tables e below T38 (mkF m 74 #[.val (.int p0), .val (.int p1), .val (.int p2), .val (.int p3), .val (.int (p0 &&& (7 : Int32))), .val (.double (FP.ddiv (FP.i2d (p0 &&& (7 : Int32))) (4616189618054758400 : UInt64))), .second, .val (.int (0 : Int32)), .val (.ref b32), .val (.ref b38), .unset, .unset, .unset] []) G
      refine Gl.via (fun _ k => XS.iload X38.here hx rfl (hb hby at_74) rfl k) ?_
      show Gl p.tables e below T38 (mkF m 76 #[.val (.int p0), .val (.int p1), .val (.int p2), .val (.int p3), .val (.int (p0 &&& (7 : Int32))), .val (.double (FP.ddiv (FP.i2d (p0 &&& (7 : Int32))) (4616189618054758400 : UInt64))), .second, .val (.int (0 : Int32)), .val (.ref b32), .val (.ref b38), .unset, .unset, .unset] [(.int (p0 &&& (7 : Int32)))]) G
      refine Gl.via (fun _ k => XS.ifYes X38.here hx rfl (pc0 := 76) (pc' := 83) rfl (hb hby at_76) rfl ((if0 _ _).trans (feq k0).2) (by decide) (by decide) k) ?_
      show Gl p.tables e below T38 (mkF m 83 #[.val (.int p0), .val (.int p1), .val (.int p2), .val (.int p3), .val (.int (p0 &&& (7 : Int32))), .val (.double (FP.ddiv (FP.i2d (p0 &&& (7 : Int32))) (4616189618054758400 : UInt64))), .second, .val (.int (0 : Int32)), .val (.ref b32), .val (.ref b38), .unset, .unset, .unset] []) G
      refine Gl.via (fun _ k => XS.dload X38.here hx rfl (hb hby at_83) rfl k) ?_
      show Gl p.tables e below T38 (mkF m 85 #[.val (.int p0), .val (.int p1), .val (.int p2), .val (.int p3), .val (.int (p0 &&& (7 : Int32))), .val (.double (FP.ddiv (FP.i2d (p0 &&& (7 : Int32))) (4616189618054758400 : UInt64))), .second, .val (.int (0 : Int32)), .val (.ref b32), .val (.ref b38), .unset, .unset, .unset] [(.double (FP.ddiv (FP.i2d (p0 &&& (7 : Int32))) (4616189618054758400 : UInt64)))]) G
      refine Gl.via (fun _ k => XS.iloadN X38.here hx rfl (hb hby at_85) rfl k) ?_
      show Gl p.tables e below T38 (mkF m 86 #[.val (.int p0), .val (.int p1), .val (.int p2), .val (.int p3), .val (.int (p0 &&& (7 : Int32))), .val (.double (FP.ddiv (FP.i2d (p0 &&& (7 : Int32))) (4616189618054758400 : UInt64))), .second, .val (.int (0 : Int32)), .val (.ref b32), .val (.ref b38), .unset, .unset, .unset] [(.int p1), (.double (FP.ddiv (FP.i2d (p0 &&& (7 : Int32))) (4616189618054758400 : UInt64)))]) G
      refine Gl.via (fun _ k => XS.bipush X38.here hx rfl (hb hby at_86) k) ?_
      show Gl p.tables e below T38 (mkF m 88 #[.val (.int p0), .val (.int p1), .val (.int p2), .val (.int p3), .val (.int (p0 &&& (7 : Int32))), .val (.double (FP.ddiv (FP.i2d (p0 &&& (7 : Int32))) (4616189618054758400 : UInt64))), .second, .val (.int (0 : Int32)), .val (.ref b32), .val (.ref b38), .unset, .unset, .unset] [(.int (7 : Int32)), (.int p1), (.double (FP.ddiv (FP.i2d (p0 &&& (7 : Int32))) (4616189618054758400 : UInt64)))]) G
      refine Gl.via (fun _ k => XS.iand X38.here hx rfl (hb hby at_88) rfl k) ?_
      show Gl p.tables e below T38 (mkF m 89 #[.val (.int p0), .val (.int p1), .val (.int p2), .val (.int p3), .val (.int (p0 &&& (7 : Int32))), .val (.double (FP.ddiv (FP.i2d (p0 &&& (7 : Int32))) (4616189618054758400 : UInt64))), .second, .val (.int (0 : Int32)), .val (.ref b32), .val (.ref b38), .unset, .unset, .unset] [(.int (p1 &&& (7 : Int32))), (.double (FP.ddiv (FP.i2d (p0 &&& (7 : Int32))) (4616189618054758400 : UInt64)))]) G
      refine Gl.via (fun _ k => XS.i2dS X38.here hx rfl (hb hby at_89) rfl rfl k) ?_
      show Gl p.tables e below T38 (mkF m 90 #[.val (.int p0), .val (.int p1), .val (.int p2), .val (.int p3), .val (.int (p0 &&& (7 : Int32))), .val (.double (FP.ddiv (FP.i2d (p0 &&& (7 : Int32))) (4616189618054758400 : UInt64))), .second, .val (.int (0 : Int32)), .val (.ref b32), .val (.ref b38), .unset, .unset, .unset] [(.double (FP.i2d (p1 &&& (7 : Int32)))), (.double (FP.ddiv (FP.i2d (p0 &&& (7 : Int32))) (4616189618054758400 : UInt64)))]) G
      refine Gl.via (fun _ k => XS.daddS X38.here hx rfl (hb hby at_90) rfl (dadd_out (own_div _) (i2d_fin _)) rfl k) ?_
      show Gl p.tables e below T38 (mkF m 91 #[.val (.int p0), .val (.int p1), .val (.int p2), .val (.int p3), .val (.int (p0 &&& (7 : Int32))), .val (.double (FP.ddiv (FP.i2d (p0 &&& (7 : Int32))) (4616189618054758400 : UInt64))), .second, .val (.int (0 : Int32)), .val (.ref b32), .val (.ref b38), .unset, .unset, .unset] [(.double (FP.dadd (FP.ddiv (FP.i2d (p0 &&& (7 : Int32))) (4616189618054758400 : UInt64)) (FP.i2d (p1 &&& (7 : Int32)))))]) G
      refine Gl.via (fun _ k => XS.dstore X38.here hx rfl (hb hby at_91) rfl (l' := #[.val (.int p0), .val (.int p1), .val (.int p2), .val (.int p3), .val (.int (p0 &&& (7 : Int32))), .val (.double (FP.ddiv (FP.i2d (p0 &&& (7 : Int32))) (4616189618054758400 : UInt64))), .second, .val (.int (0 : Int32)), .val (.ref b32), .val (.ref b38), .val (.double (FP.dadd (FP.ddiv (FP.i2d (p0 &&& (7 : Int32))) (4616189618054758400 : UInt64)) (FP.i2d (p1 &&& (7 : Int32))))), .second, .unset]) rfl k) ?_
      show Gl p.tables e below T38 (mkF m 93 #[.val (.int p0), .val (.int p1), .val (.int p2), .val (.int p3), .val (.int (p0 &&& (7 : Int32))), .val (.double (FP.ddiv (FP.i2d (p0 &&& (7 : Int32))) (4616189618054758400 : UInt64))), .second, .val (.int (0 : Int32)), .val (.ref b32), .val (.ref b38), .val (.double (FP.dadd (FP.ddiv (FP.i2d (p0 &&& (7 : Int32))) (4616189618054758400 : UInt64)) (FP.i2d (p1 &&& (7 : Int32))))), .second, .unset] []) G
      obtain ⟨T45, h45, X45, e45, E45, A45, D45, -, st45⟩ := newO X38 hx hZ hown (hw _ (List.mem_of_getElem? (i := 3) rfl)) (hw _ (List.mem_of_getElem? (i := 4) rfl)) (hw _ (List.mem_of_getElem? (i := 5) rfl)) e38 (g := (mkF m 93 #[.val (.int p0), .val (.int p1), .val (.int p2), .val (.int p3), .val (.int (p0 &&& (7 : Int32))), .val (.double (FP.ddiv (FP.i2d (p0 &&& (7 : Int32))) (4616189618054758400 : UInt64))), .second, .val (.int (0 : Int32)), .val (.ref b32), .val (.ref b38), .val (.double (FP.dadd (FP.ddiv (FP.i2d (p0 &&& (7 : Int32))) (4616189618054758400 : UInt64)) (FP.i2d (p1 &&& (7 : Int32))))), .second, .unset] [])) rfl (hb hby at_93) (by decide) (by decide)
      obtain ⟨b45, g45⟩ : ∃ z, z = h38.size := ⟨_, rfl⟩
      rw [← g45] at A45 D45 st45
      have G46 : Arv Z h38 b32 k32 .int (0 : Int32) [] (.int (0 : Int32)) := (V37.ext E38)
      have ne47 : b32 ≠ b45 := Nat.ne_of_lt (Nat.lt_of_lt_of_le G46.lt (Nat.le_of_eq g45.symm))
      have ne48 : b38 ≠ b45 := Nat.ne_of_lt (Nat.lt_of_lt_of_le V44.lt (Nat.le_of_eq g45.symm))
      have ge49 : n0 ≤ b45 := Nat.le_trans Z42 (Nat.le_of_eq g45.symm)
      have gz50 : h0.size ≤ b45 := Nat.le_trans Y43 (Nat.le_of_eq g45.symm)
      refine Gl.via st45 ?_
      have Z51 : n0 ≤ h45.size := Nat.le_trans Z42 E45.1
      have Y52 : h0.size ≤ h45.size := Nat.le_trans Y43 E45.1
      have F53 : Fld Z h45 b45 "com/example/koppel/koppel/weighting/TermVector" "termIds" "[I" .null := D45 (Or.inr (hw _ (List.mem_of_getElem? (i := 18) rfl))) (ty := (.array .int)) (by decide)
      have F54 : Fld Z h45 b45 "com/example/koppel/koppel/weighting/TermVector" "weights" "[D" .null := D45 (Or.inr (hw _ (List.mem_of_getElem? (i := 20) rfl))) (ty := (.array .double)) (by decide)
      have F55 : Fld Z h45 b45 "com/example/koppel/koppel/weighting/TermVector" "norm" "D" (.double (0 : UInt64)) := D45 (Or.inr (hw _ (List.mem_of_getElem? (i := 22) rfl))) (ty := .double) (by decide)
      have F56 : Fld Z h45 b45 "com/example/koppel/koppel/weighting/TermVector" "sum" "D" (.double (0 : UInt64)) := D45 (Or.inr (hw _ (List.mem_of_getElem? (i := 24) rfl))) (ty := .double) (by decide)
      show Gl p.tables e below T45 (mkF m 96 #[.val (.int p0), .val (.int p1), .val (.int p2), .val (.int p3), .val (.int (p0 &&& (7 : Int32))), .val (.double (FP.ddiv (FP.i2d (p0 &&& (7 : Int32))) (4616189618054758400 : UInt64))), .second, .val (.int (0 : Int32)), .val (.ref b32), .val (.ref b38), .val (.double (FP.dadd (FP.ddiv (FP.i2d (p0 &&& (7 : Int32))) (4616189618054758400 : UInt64)) (FP.i2d (p1 &&& (7 : Int32))))), .second, .unset] [(.ref b45)]) G
      refine Gl.via (fun _ k => XS.dup X45.here hx rfl (hb hby at_96) rfl rfl k) ?_
      show Gl p.tables e below T45 (mkF m 97 #[.val (.int p0), .val (.int p1), .val (.int p2), .val (.int p3), .val (.int (p0 &&& (7 : Int32))), .val (.double (FP.ddiv (FP.i2d (p0 &&& (7 : Int32))) (4616189618054758400 : UInt64))), .second, .val (.int (0 : Int32)), .val (.ref b32), .val (.ref b38), .val (.double (FP.dadd (FP.ddiv (FP.i2d (p0 &&& (7 : Int32))) (4616189618054758400 : UInt64)) (FP.i2d (p1 &&& (7 : Int32))))), .second, .unset] [(.ref b45), (.ref b45)]) G
      refine Gl.via (fun _ k => XS.aload X45.here hx rfl (hb hby at_97) rfl rfl k) ?_
      show Gl p.tables e below T45 (mkF m 99 #[.val (.int p0), .val (.int p1), .val (.int p2), .val (.int p3), .val (.int (p0 &&& (7 : Int32))), .val (.double (FP.ddiv (FP.i2d (p0 &&& (7 : Int32))) (4616189618054758400 : UInt64))), .second, .val (.int (0 : Int32)), .val (.ref b32), .val (.ref b38), .val (.double (FP.dadd (FP.ddiv (FP.i2d (p0 &&& (7 : Int32))) (4616189618054758400 : UInt64)) (FP.i2d (p1 &&& (7 : Int32))))), .second, .unset] [(.ref b32), (.ref b45), (.ref b45)]) G
      refine Gl.via (fun _ k => XS.aload X45.here hx rfl (hb hby at_99) rfl rfl k) ?_
      show Gl p.tables e below T45 (mkF m 101 #[.val (.int p0), .val (.int p1), .val (.int p2), .val (.int p3), .val (.int (p0 &&& (7 : Int32))), .val (.double (FP.ddiv (FP.i2d (p0 &&& (7 : Int32))) (4616189618054758400 : UInt64))), .second, .val (.int (0 : Int32)), .val (.ref b32), .val (.ref b38), .val (.double (FP.dadd (FP.ddiv (FP.i2d (p0 &&& (7 : Int32))) (4616189618054758400 : UInt64)) (FP.i2d (p1 &&& (7 : Int32))))), .second, .unset] [(.ref b38), (.ref b32), (.ref b45), (.ref b45)]) G
      refine Gl.via (fun _ k => XS.dload X45.here hx rfl (hb hby at_101) rfl k) ?_
      show Gl p.tables e below T45 (mkF m 103 #[.val (.int p0), .val (.int p1), .val (.int p2), .val (.int p3), .val (.int (p0 &&& (7 : Int32))), .val (.double (FP.ddiv (FP.i2d (p0 &&& (7 : Int32))) (4616189618054758400 : UInt64))), .second, .val (.int (0 : Int32)), .val (.ref b32), .val (.ref b38), .val (.double (FP.dadd (FP.ddiv (FP.i2d (p0 &&& (7 : Int32))) (4616189618054758400 : UInt64)) (FP.i2d (p1 &&& (7 : Int32))))), .second, .unset] [(.double (FP.ddiv (FP.i2d (p0 &&& (7 : Int32))) (4616189618054758400 : UInt64))), (.ref b38), (.ref b32), (.ref b45), (.ref b45)]) G
      refine Gl.via (fun _ k => XS.dload X45.here hx rfl (hb hby at_103) rfl k) ?_
      show Gl p.tables e below T45 (mkF m 105 #[.val (.int p0), .val (.int p1), .val (.int p2), .val (.int p3), .val (.int (p0 &&& (7 : Int32))), .val (.double (FP.ddiv (FP.i2d (p0 &&& (7 : Int32))) (4616189618054758400 : UInt64))), .second, .val (.int (0 : Int32)), .val (.ref b32), .val (.ref b38), .val (.double (FP.dadd (FP.ddiv (FP.i2d (p0 &&& (7 : Int32))) (4616189618054758400 : UInt64)) (FP.i2d (p1 &&& (7 : Int32))))), .second, .unset] [(.double (FP.dadd (FP.ddiv (FP.i2d (p0 &&& (7 : Int32))) (4616189618054758400 : UInt64)) (FP.i2d (p1 &&& (7 : Int32))))), (.double (FP.ddiv (FP.i2d (p0 &&& (7 : Int32))) (4616189618054758400 : UInt64))), (.ref b38), (.ref b32), (.ref b45), (.ref b45)]) G
      obtain ⟨_, _, ⟨T57, L57, k57, n57⟩, -, X57, ⟨Lc57, hQ57, l57, y57, z57⟩, st57⟩ := X45.specialBack hx (y := (⟨"com/example/koppel/koppel/weighting/TermVector", "<init>", "([I[DDD)V"⟩ : MethodName)) rfl hown (mvT hZ (hw _ (List.mem_of_getElem? (i := 6) rfl))) (mvT hZ (hw _ (List.mem_of_getElem? (i := 7) rfl))) (mvT hZ (hw _ (List.mem_of_getElem? (i := 8) rfl))) (by decide) (backOf (W := 1) (t_init l Z a0 hw [] b45 b32 b38 (FP.ddiv (FP.i2d (p0 &&& (7 : Int32))) (4616189618054758400 : UInt64)) (FP.dadd (FP.ddiv (FP.i2d (p0 &&& (7 : Int32))) (4616189618054758400 : UInt64)) (FP.i2d (p1 &&& (7 : Int32)))) .null .null (.double (0 : UInt64)) (.double (0 : UInt64)) h45 n0 Z51 A45 F53 F54 F55 F56 ge49) hZ (hw _ (List.mem_of_getElem? (i := 8) rfl)) (hw _ (List.mem_of_getElem? (i := 5) rfl)) (by decide) (by decide)) (g := (mkF m 105 #[.val (.int p0), .val (.int p1), .val (.int p2), .val (.int p3), .val (.int (p0 &&& (7 : Int32))), .val (.double (FP.ddiv (FP.i2d (p0 &&& (7 : Int32))) (4616189618054758400 : UInt64))), .second, .val (.int (0 : Int32)), .val (.ref b32), .val (.ref b38), .val (.double (FP.dadd (FP.ddiv (FP.i2d (p0 &&& (7 : Int32))) (4616189618054758400 : UInt64)) (FP.i2d (p1 &&& (7 : Int32))))), .second, .unset] [(.double (FP.dadd (FP.ddiv (FP.i2d (p0 &&& (7 : Int32))) (4616189618054758400 : UInt64)) (FP.i2d (p1 &&& (7 : Int32))))), (.double (FP.ddiv (FP.i2d (p0 &&& (7 : Int32))) (4616189618054758400 : UInt64))), (.ref b38), (.ref b32), (.ref b45), (.ref b45)])) rfl (by rw [hml]; rfl) (Steps.refl _) (a := b45) (argsL := [(.ref b32), (.ref b38), (.double (FP.ddiv (FP.i2d (p0 &&& (7 : Int32))) (4616189618054758400 : UInt64))), (.double (FP.dadd (FP.ddiv (FP.i2d (p0 &&& (7 : Int32))) (4616189618054758400 : UInt64)) (FP.i2d (p1 &&& (7 : Int32)))))]) (rest := [(.ref b45)]) (lenOf pd_1 rfl) rfl (by show 2 * 0 + _ ≤ _; exact Nat.le_of_eq rfl) (hb hby at_105) (fun _ _ => ⟨rfl, e45, (by decide : 3 + 0 ≤ _), (by decide : 4 + 0 ≤ _)⟩)
      dsimp only [Pt.U, Pt.locs, Pt.cells, Pt.slots] at X57 l57 y57 z57 st57 hQ57
      subst l57 y57 z57
      obtain ⟨rfl, N57q, K57, P58, P59⟩ := hQ57
      have N57_ := Fr.app N0 N57q
      refine Gl.via (fun _ k => st57.trans k) ?_
      have Z60 : n0 ≤ T57.heap.size := Nat.le_trans Z51 K57.1
      have Y61 : h0.size ≤ T57.heap.size := Nat.le_trans Y52 K57.1
      show Gl p.tables e below T57 (mkF m 108 #[.val (.int p0), .val (.int p1), .val (.int p2), .val (.int p3), .val (.int (p0 &&& (7 : Int32))), .val (.double (FP.ddiv (FP.i2d (p0 &&& (7 : Int32))) (4616189618054758400 : UInt64))), .second, .val (.int (0 : Int32)), .val (.ref b32), .val (.ref b38), .val (.double (FP.dadd (FP.ddiv (FP.i2d (p0 &&& (7 : Int32))) (4616189618054758400 : UInt64)) (FP.i2d (p1 &&& (7 : Int32))))), .second, .unset] [(.ref b45)]) G
      refine Gl.via (fun _ k => XS.astore X57.here hx rfl (hb hby at_108) rfl rfl (l' := #[.val (.int p0), .val (.int p1), .val (.int p2), .val (.int p3), .val (.int (p0 &&& (7 : Int32))), .val (.double (FP.ddiv (FP.i2d (p0 &&& (7 : Int32))) (4616189618054758400 : UInt64))), .second, .val (.int (0 : Int32)), .val (.ref b32), .val (.ref b38), .val (.double (FP.dadd (FP.ddiv (FP.i2d (p0 &&& (7 : Int32))) (4616189618054758400 : UInt64)) (FP.i2d (p1 &&& (7 : Int32))))), .second, .val (.ref b45)]) rfl k) ?_
      show Gl p.tables e below T57 (mkF m 110 #[.val (.int p0), .val (.int p1), .val (.int p2), .val (.int p3), .val (.int (p0 &&& (7 : Int32))), .val (.double (FP.ddiv (FP.i2d (p0 &&& (7 : Int32))) (4616189618054758400 : UInt64))), .second, .val (.int (0 : Int32)), .val (.ref b32), .val (.ref b38), .val (.double (FP.dadd (FP.ddiv (FP.i2d (p0 &&& (7 : Int32))) (4616189618054758400 : UInt64)) (FP.i2d (p1 &&& (7 : Int32))))), .second, .val (.ref b45)] []) G
      refine Gl.via (fun _ k => XS.aload X57.here hx rfl (hb hby at_110) rfl rfl k) ?_
      show Gl p.tables e below T57 (mkF m 112 #[.val (.int p0), .val (.int p1), .val (.int p2), .val (.int p3), .val (.int (p0 &&& (7 : Int32))), .val (.double (FP.ddiv (FP.i2d (p0 &&& (7 : Int32))) (4616189618054758400 : UInt64))), .second, .val (.int (0 : Int32)), .val (.ref b32), .val (.ref b38), .val (.double (FP.dadd (FP.ddiv (FP.i2d (p0 &&& (7 : Int32))) (4616189618054758400 : UInt64)) (FP.i2d (p1 &&& (7 : Int32))))), .second, .val (.ref b45)] [(.ref b45)]) G
      obtain ⟨cq62, kq62, q62a, q62b, q62c⟩ := isOf hZ rfl P58
      obtain ⟨_, _, ⟨T62, L62, k62, n62⟩, -, X62, ⟨Lc62, hQ62, l62, y62, z62⟩, st62⟩ := X57.virtualBack hx (y := (⟨"com/example/koppel/koppel/weighting/TermVector", "isZero", "()Z"⟩ : MethodName)) (z := (⟨"com/example/koppel/koppel/weighting/TermVector", "isZero", "()Z"⟩ : MethodName)) hown (mvT hZ (hw _ (List.mem_of_getElem? (i := 25) rfl))) (mvT hZ (hw _ (List.mem_of_getElem? (i := 26) rfl))) (notFace_of_selects (args := #[]) (mvT hZ (hw _ (List.mem_of_getElem? (i := 28) rfl)))) (mvT hZ (hw _ (List.mem_of_getElem? (i := 28) rfl))) (mvT hZ (hw _ (List.mem_of_getElem? (i := 27) rfl))) (by decide) (backOf (W := 0) (isz0 l Z a0 hw [] b45 (FP.ddiv (FP.i2d (p0 &&& (7 : Int32))) (4616189618054758400 : UInt64)) T57.heap n0 Z60 P59 (fun q => k0 ((own_cmp p0).mp q))) hZ (hw _ (List.mem_of_getElem? (i := 29) rfl)) (hw _ (List.mem_of_getElem? (i := 5) rfl)) (by decide) (by decide)) q62a q62c (g := (mkF m 112 #[.val (.int p0), .val (.int p1), .val (.int p2), .val (.int p3), .val (.int (p0 &&& (7 : Int32))), .val (.double (FP.ddiv (FP.i2d (p0 &&& (7 : Int32))) (4616189618054758400 : UInt64))), .second, .val (.int (0 : Int32)), .val (.ref b32), .val (.ref b38), .val (.double (FP.dadd (FP.ddiv (FP.i2d (p0 &&& (7 : Int32))) (4616189618054758400 : UInt64)) (FP.i2d (p1 &&& (7 : Int32))))), .second, .val (.ref b45)] [(.ref b45)])) rfl (by rw [hml]; rfl) (Steps.refl _) (argsL := []) (rest := []) (lenOf pd_2 rfl) rfl (by show 2 * 0 + _ ≤ _; exact Nat.le_of_eq rfl) (hb hby at_112) (fun _ _ => ⟨rfl, rfl, (by decide : 3 + 0 ≤ _), (by decide : 4 + 0 ≤ _)⟩)
      dsimp only [Pt.U, Pt.locs, Pt.cells, Pt.slots] at X62 l62 y62 z62 st62 hQ62
      subst l62 y62 z62
      obtain ⟨rfl, N62q, eh62⟩ := hQ62
      have N62_ := Fr.app N57_ N62q
      refine Gl.via (fun _ k => st62.trans k) ?_
      show Gl p.tables e below T62 (mkF m 115 #[.val (.int p0), .val (.int p1), .val (.int p2), .val (.int p3), .val (.int (p0 &&& (7 : Int32))), .val (.double (FP.ddiv (FP.i2d (p0 &&& (7 : Int32))) (4616189618054758400 : UInt64))), .second, .val (.int (0 : Int32)), .val (.ref b32), .val (.ref b38), .val (.double (FP.dadd (FP.ddiv (FP.i2d (p0 &&& (7 : Int32))) (4616189618054758400 : UInt64)) (FP.i2d (p1 &&& (7 : Int32))))), .second, .val (.ref b45)] [(.int (0 : Int32))]) G
      refine Gl.via (fun _ k => XS.iload X62.here hx rfl (hb hby at_115) rfl k) ?_
      show Gl p.tables e below T62 (mkF m 117 #[.val (.int p0), .val (.int p1), .val (.int p2), .val (.int p3), .val (.int (p0 &&& (7 : Int32))), .val (.double (FP.ddiv (FP.i2d (p0 &&& (7 : Int32))) (4616189618054758400 : UInt64))), .second, .val (.int (0 : Int32)), .val (.ref b32), .val (.ref b38), .val (.double (FP.dadd (FP.ddiv (FP.i2d (p0 &&& (7 : Int32))) (4616189618054758400 : UInt64)) (FP.i2d (p1 &&& (7 : Int32))))), .second, .val (.ref b45)] [(.int (p0 &&& (7 : Int32))), (.int (0 : Int32))]) G
      refine Gl.via (fun _ k => XS.ifYes X62.here hx rfl (pc0 := 117) (pc' := 124) rfl (hb hby at_117) rfl ((if0 _ _).trans (feq k0).2) (by decide) (by decide) k) ?_
      show Gl p.tables e below T62 (mkF m 124 #[.val (.int p0), .val (.int p1), .val (.int p2), .val (.int p3), .val (.int (p0 &&& (7 : Int32))), .val (.double (FP.ddiv (FP.i2d (p0 &&& (7 : Int32))) (4616189618054758400 : UInt64))), .second, .val (.int (0 : Int32)), .val (.ref b32), .val (.ref b38), .val (.double (FP.dadd (FP.ddiv (FP.i2d (p0 &&& (7 : Int32))) (4616189618054758400 : UInt64)) (FP.i2d (p1 &&& (7 : Int32))))), .second, .val (.ref b45)] [(.int (0 : Int32))]) G
      refine Gl.via (fun _ k => XS.iconst X62.here hx rfl (hb hby at_124) k) ?_
      show Gl p.tables e below T62 (mkF m 125 #[.val (.int p0), .val (.int p1), .val (.int p2), .val (.int p3), .val (.int (p0 &&& (7 : Int32))), .val (.double (FP.ddiv (FP.i2d (p0 &&& (7 : Int32))) (4616189618054758400 : UInt64))), .second, .val (.int (0 : Int32)), .val (.ref b32), .val (.ref b38), .val (.double (FP.dadd (FP.ddiv (FP.i2d (p0 &&& (7 : Int32))) (4616189618054758400 : UInt64)) (FP.i2d (p1 &&& (7 : Int32))))), .second, .val (.ref b45)] [(.int (0 : Int32)), (.int (0 : Int32))]) G
      refine Gl.via (fun _ k => XS.icmpNo X62.here hx rfl (hb hby at_125) rfl (teq (by decide)).2 k) ?_
      show Gl p.tables e below T62 (mkF m 128 #[.val (.int p0), .val (.int p1), .val (.int p2), .val (.int p3), .val (.int (p0 &&& (7 : Int32))), .val (.double (FP.ddiv (FP.i2d (p0 &&& (7 : Int32))) (4616189618054758400 : UInt64))), .second, .val (.int (0 : Int32)), .val (.ref b32), .val (.ref b38), .val (.double (FP.dadd (FP.ddiv (FP.i2d (p0 &&& (7 : Int32))) (4616189618054758400 : UInt64)) (FP.i2d (p1 &&& (7 : Int32))))), .second, .val (.ref b45)] []) G
      refine Gl.via (fun _ k => XS.iconst X62.here hx rfl (hb hby at_128) k) ?_
      show Gl p.tables e below T62 (mkF m 129 #[.val (.int p0), .val (.int p1), .val (.int p2), .val (.int p3), .val (.int (p0 &&& (7 : Int32))), .val (.double (FP.ddiv (FP.i2d (p0 &&& (7 : Int32))) (4616189618054758400 : UInt64))), .second, .val (.int (0 : Int32)), .val (.ref b32), .val (.ref b38), .val (.double (FP.dadd (FP.ddiv (FP.i2d (p0 &&& (7 : Int32))) (4616189618054758400 : UInt64)) (FP.i2d (p1 &&& (7 : Int32))))), .second, .val (.ref b45)] [(.int (1 : Int32))]) G
      refine Gl.via (fun _ k => XS.goto X62.here hx rfl (pc0 := 129) (pc' := 133) rfl (hb hby at_129) (by decide) (by decide) k) ?_
      show Gl p.tables e below T62 (mkF m 133 #[.val (.int p0), .val (.int p1), .val (.int p2), .val (.int p3), .val (.int (p0 &&& (7 : Int32))), .val (.double (FP.ddiv (FP.i2d (p0 &&& (7 : Int32))) (4616189618054758400 : UInt64))), .second, .val (.int (0 : Int32)), .val (.ref b32), .val (.ref b38), .val (.double (FP.dadd (FP.ddiv (FP.i2d (p0 &&& (7 : Int32))) (4616189618054758400 : UInt64)) (FP.i2d (p1 &&& (7 : Int32))))), .second, .val (.ref b45)] [(.int (1 : Int32))]) G
      obtain ⟨fs, hr, hrun, hended, hW, hsame⟩ := X62.leave (v := some (.int (1 : Int32))) (fun h => by rw [Bd.returns] at h; cases h)
      have hq : ∀ L, Fr n0 L → Q_rm0 Z p0 p1 p2 p3 h0 n0 (some (.int (1 : Int32))) T62.heap L := by
        intro L hN
        rw [eh62]
        exact ⟨rfl, hN⟩
      rw [hG]
      exact Gl.fin (retN X62 hx (t := .boolean) Bd.returns (by simp) (hb hby at_133) hr) ⟨_, hrun, hended, _, _, rfl, hq _ N62_, ⟨_, rfl⟩, hW, hsame.mono (by decide) (by decide)⟩
    · refine Gl.via (fun _ k => XS.ifNo X0.here hx rfl (hb hby at_23) rfl ((if0 _ _).trans (feq f0).1) k) ?_
      show Gl p.tables e below s₁ (mkF m 26 #[.val (.int p0), .val (.int p1), .val (.int p2), .val (.int p3), .val (.int (p0 &&& (7 : Int32))), .val (.double (FP.ddiv (FP.i2d (p0 &&& (7 : Int32))) (4616189618054758400 : UInt64))), .second, .unset, .unset, .unset, .unset, .unset, .unset] []) G
      refine Gl.via (fun _ k => XS.iconst X0.here hx rfl (hb hby at_26) k) ?_
      show Gl p.tables e below s₁ (mkF m 27 #[.val (.int p0), .val (.int p1), .val (.int p2), .val (.int p3), .val (.int (p0 &&& (7 : Int32))), .val (.double (FP.ddiv (FP.i2d (p0 &&& (7 : Int32))) (4616189618054758400 : UInt64))), .second, .unset, .unset, .unset, .unset, .unset, .unset] [(.int (1 : Int32))]) G
      refine Gl.via (fun _ k => XS.goto X0.here hx rfl (pc0 := 27) (pc' := 31) rfl (hb hby at_27) (by decide) (by decide) k) ?_
      show Gl p.tables e below s₁ (mkF m 31 #[.val (.int p0), .val (.int p1), .val (.int p2), .val (.int p3), .val (.int (p0 &&& (7 : Int32))), .val (.double (FP.ddiv (FP.i2d (p0 &&& (7 : Int32))) (4616189618054758400 : UInt64))), .second, .unset, .unset, .unset, .unset, .unset, .unset] [(.int (1 : Int32))]) G
      refine Gl.via (fun _ k => XS.istore X0.here hx rfl (hb hby at_31) rfl (l' := #[.val (.int p0), .val (.int p1), .val (.int p2), .val (.int p3), .val (.int (p0 &&& (7 : Int32))), .val (.double (FP.ddiv (FP.i2d (p0 &&& (7 : Int32))) (4616189618054758400 : UInt64))), .second, .val (.int (1 : Int32)), .unset, .unset, .unset, .unset, .unset]) rfl k) ?_
      show Gl p.tables e below s₁ (mkF m 33 #[.val (.int p0), .val (.int p1), .val (.int p2), .val (.int p3), .val (.int (p0 &&& (7 : Int32))), .val (.double (FP.ddiv (FP.i2d (p0 &&& (7 : Int32))) (4616189618054758400 : UInt64))), .second, .val (.int (1 : Int32)), .unset, .unset, .unset, .unset, .unset] []) G
      refine Gl.via (fun _ k => XS.iload X0.here hx rfl (hb hby at_33) rfl k) ?_
      show Gl p.tables e below s₁ (mkF m 35 #[.val (.int p0), .val (.int p1), .val (.int p2), .val (.int p3), .val (.int (p0 &&& (7 : Int32))), .val (.double (FP.ddiv (FP.i2d (p0 &&& (7 : Int32))) (4616189618054758400 : UInt64))), .second, .val (.int (1 : Int32)), .unset, .unset, .unset, .unset, .unset] [(.int (1 : Int32))]) G
      refine Gl.via (fun _ k => XS.ifNo X0.here hx rfl (hb hby at_35) rfl ((if0 _ _).trans (feq (by decide)).1) k) ?_
      show Gl p.tables e below s₁ (mkF m 38 #[.val (.int p0), .val (.int p1), .val (.int p2), .val (.int p3), .val (.int (p0 &&& (7 : Int32))), .val (.double (FP.ddiv (FP.i2d (p0 &&& (7 : Int32))) (4616189618054758400 : UInt64))), .second, .val (.int (1 : Int32)), .unset, .unset, .unset, .unset, .unset] []) G
      refine Gl.via (fun _ k => XS.iconst X0.here hx rfl (hb hby at_38) k) ?_
      show Gl p.tables e below s₁ (mkF m 39 #[.val (.int p0), .val (.int p1), .val (.int p2), .val (.int p3), .val (.int (p0 &&& (7 : Int32))), .val (.double (FP.ddiv (FP.i2d (p0 &&& (7 : Int32))) (4616189618054758400 : UInt64))), .second, .val (.int (1 : Int32)), .unset, .unset, .unset, .unset, .unset] [(.int (1 : Int32))]) G
      obtain ⟨T63, h63, k63, X63, e63, E63, A63, st63⟩ := newP X0 hx hZ (hw _ (List.mem_of_getElem? (i := 1) rfl)) e0 (g := (mkF m 39 #[.val (.int p0), .val (.int p1), .val (.int p2), .val (.int p3), .val (.int (p0 &&& (7 : Int32))), .val (.double (FP.ddiv (FP.i2d (p0 &&& (7 : Int32))) (4616189618054758400 : UInt64))), .second, .val (.int (1 : Int32)), .unset, .unset, .unset, .unset, .unset] [(.int (1 : Int32))])) rfl (hb hby at_39) rfl (by decide) (cap := 1) (by decide) (by decide) (by decide) (by decide)
      obtain ⟨b63, g63⟩ : ∃ z, z = h0.size := ⟨_, rfl⟩
      rw [← g63] at A63 st63
      have ge64 : n0 ≤ b63 := Nat.le_trans Z0 (Nat.le_of_eq g63.symm)
      have gz65 : h0.size ≤ b63 := Nat.le_trans (Nat.le_refl h0.size) (Nat.le_of_eq g63.symm)
      refine Gl.via st63 ?_
      have Z66 : n0 ≤ h63.size := Nat.le_trans Z0 E63.1
      have Y67 : h0.size ≤ h63.size := Nat.le_trans (Nat.le_refl h0.size) E63.1
      have V68 : Arv Z h63 b63 k63 .int (1 : Int32) [(.int (0 : Int32))] (.int (0 : Int32)) := (Arv.new A63 (by decide)).pad (pad_rep [] (.int (0 : Int32)) 1)
      show Gl p.tables e below T63 (mkF m 41 #[.val (.int p0), .val (.int p1), .val (.int p2), .val (.int p3), .val (.int (p0 &&& (7 : Int32))), .val (.double (FP.ddiv (FP.i2d (p0 &&& (7 : Int32))) (4616189618054758400 : UInt64))), .second, .val (.int (1 : Int32)), .unset, .unset, .unset, .unset, .unset] [(.ref b63)]) G
      refine Gl.via (fun _ k => XS.dup X63.here hx rfl (hb hby at_41) rfl rfl k) ?_
      show Gl p.tables e below T63 (mkF m 42 #[.val (.int p0), .val (.int p1), .val (.int p2), .val (.int p3), .val (.int (p0 &&& (7 : Int32))), .val (.double (FP.ddiv (FP.i2d (p0 &&& (7 : Int32))) (4616189618054758400 : UInt64))), .second, .val (.int (1 : Int32)), .unset, .unset, .unset, .unset, .unset] [(.ref b63), (.ref b63)]) G
      refine Gl.via (fun _ k => XS.iconst X63.here hx rfl (hb hby at_42) k) ?_
      show Gl p.tables e below T63 (mkF m 43 #[.val (.int p0), .val (.int p1), .val (.int p2), .val (.int p3), .val (.int (p0 &&& (7 : Int32))), .val (.double (FP.ddiv (FP.i2d (p0 &&& (7 : Int32))) (4616189618054758400 : UInt64))), .second, .val (.int (1 : Int32)), .unset, .unset, .unset, .unset, .unset] [(.int (0 : Int32)), (.ref b63), (.ref b63)]) G
      refine Gl.via (fun _ k => XS.iloadN X63.here hx rfl (hb hby at_43) rfl k) ?_
      show Gl p.tables e below T63 (mkF m 44 #[.val (.int p0), .val (.int p1), .val (.int p2), .val (.int p3), .val (.int (p0 &&& (7 : Int32))), .val (.double (FP.ddiv (FP.i2d (p0 &&& (7 : Int32))) (4616189618054758400 : UInt64))), .second, .val (.int (1 : Int32)), .unset, .unset, .unset, .unset, .unset] [(.int p2), (.int (0 : Int32)), (.ref b63), (.ref b63)]) G
      obtain ⟨cl69, Ar69, q69, S69, N69, H69, G69⟩ := V68
      have hin69 : ¬ ((0 : Int32) < 0 ∨ cl69.slots.size ≤ ((0 : Int32)).toNatClampNeg) := inb_of S69 ⟨by decide, by decide⟩
      obtain ⟨T69, h69, X69, e69, W69, st69⟩ := stI X63 hx hZ e63 Ar69 (j := (0 : Int32)) hin69 (g := (mkF m 44 #[.val (.int p0), .val (.int p1), .val (.int p2), .val (.int p3), .val (.int (p0 &&& (7 : Int32))), .val (.double (FP.ddiv (FP.i2d (p0 &&& (7 : Int32))) (4616189618054758400 : UInt64))), .second, .val (.int (1 : Int32)), .unset, .unset, .unset, .unset, .unset] [(.int p2), (.int (0 : Int32)), (.ref b63), (.ref b63)])) rfl rfl (hb hby at_44)
      refine Gl.via st69 ?_
      have N69_ := Fr.snoc X69 N0 ge64
      have Z70 : n0 ≤ h69.size := Nat.le_trans Z66 (Keep.of_wr W69).1
      have Y71 : h0.size ≤ h69.size := Nat.le_trans Y67 (Keep.of_wr W69).1
      have V72 : Arv Z h69 b63 k63 .int (1 : Int32) [(.int p2)] (.int (0 : Int32)) := Arv.set Ar69 q69 S69 N69 H69 G69 rfl W69 0 rfl (Nat.le_of_ble_eq_true rfl)
      show Gl p.tables e below T69 (mkF m 45 #[.val (.int p0), .val (.int p1), .val (.int p2), .val (.int p3), .val (.int (p0 &&& (7 : Int32))), .val (.double (FP.ddiv (FP.i2d (p0 &&& (7 : Int32))) (4616189618054758400 : UInt64))), .second, .val (.int (1 : Int32)), .unset, .unset, .unset, .unset, .unset] [(.ref b63)]) G
      refine Gl.via (fun _ k => XS.goto X69.here hx rfl (pc0 := 45) (pc' := 51) rfl (hb hby at_45) (by decide) (by decide) k) ?_
      show Gl p.tables e below T69 (mkF m 51 #[.val (.int p0), .val (.int p1), .val (.int p2), .val (.int p3), .val (.int (p0 &&& (7 : Int32))), .val (.double (FP.ddiv (FP.i2d (p0 &&& (7 : Int32))) (4616189618054758400 : UInt64))), .second, .val (.int (1 : Int32)), .unset, .unset, .unset, .unset, .unset] [(.ref b63)]) G
      refine Gl.via (fun _ k => XS.astore X69.here hx rfl (hb hby at_51) rfl rfl (l' := #[.val (.int p0), .val (.int p1), .val (.int p2), .val (.int p3), .val (.int (p0 &&& (7 : Int32))), .val (.double (FP.ddiv (FP.i2d (p0 &&& (7 : Int32))) (4616189618054758400 : UInt64))), .second, .val (.int (1 : Int32)), .val (.ref b63), .unset, .unset, .unset, .unset]) rfl k) ?_
      show Gl p.tables e below T69 (mkF m 53 #[.val (.int p0), .val (.int p1), .val (.int p2), .val (.int p3), .val (.int (p0 &&& (7 : Int32))), .val (.double (FP.ddiv (FP.i2d (p0 &&& (7 : Int32))) (4616189618054758400 : UInt64))), .second, .val (.int (1 : Int32)), .val (.ref b63), .unset, .unset, .unset, .unset] []) G
      refine Gl.via (fun _ k => XS.iload X69.here hx rfl (hb hby at_53) rfl k) ?_
      show Gl p.tables e below T69 (mkF m 55 #[.val (.int p0), .val (.int p1), .val (.int p2), .val (.int p3), .val (.int (p0 &&& (7 : Int32))), .val (.double (FP.ddiv (FP.i2d (p0 &&& (7 : Int32))) (4616189618054758400 : UInt64))), .second, .val (.int (1 : Int32)), .val (.ref b63), .unset, .unset, .unset, .unset] [(.int (1 : Int32))]) G
      refine Gl.via (fun _ k => XS.ifNo X69.here hx rfl (hb hby at_55) rfl ((if0 _ _).trans (feq (by decide)).1) k) ?_
      show Gl p.tables e below T69 (mkF m 58 #[.val (.int p0), .val (.int p1), .val (.int p2), .val (.int p3), .val (.int (p0 &&& (7 : Int32))), .val (.double (FP.ddiv (FP.i2d (p0 &&& (7 : Int32))) (4616189618054758400 : UInt64))), .second, .val (.int (1 : Int32)), .val (.ref b63), .unset, .unset, .unset, .unset] []) G
      refine Gl.via (fun _ k => XS.iconst X69.here hx rfl (hb hby at_58) k) ?_
      show Gl p.tables e below T69 (mkF m 59 #[.val (.int p0), .val (.int p1), .val (.int p2), .val (.int p3), .val (.int (p0 &&& (7 : Int32))), .val (.double (FP.ddiv (FP.i2d (p0 &&& (7 : Int32))) (4616189618054758400 : UInt64))), .second, .val (.int (1 : Int32)), .val (.ref b63), .unset, .unset, .unset, .unset] [(.int (1 : Int32))]) G
      obtain ⟨T73, h73, k73, X73, e73, E73, A73, st73⟩ := newP X69 hx hZ (hw _ (List.mem_of_getElem? (i := 2) rfl)) e69 (g := (mkF m 59 #[.val (.int p0), .val (.int p1), .val (.int p2), .val (.int p3), .val (.int (p0 &&& (7 : Int32))), .val (.double (FP.ddiv (FP.i2d (p0 &&& (7 : Int32))) (4616189618054758400 : UInt64))), .second, .val (.int (1 : Int32)), .val (.ref b63), .unset, .unset, .unset, .unset] [(.int (1 : Int32))])) rfl (hb hby at_59) rfl (by decide) (cap := 1) (by decide) (by decide) (by decide) (by decide)
      obtain ⟨b73, g73⟩ : ∃ z, z = h69.size := ⟨_, rfl⟩
      rw [← g73] at A73 st73
      have ne74 : b63 ≠ b73 := Nat.ne_of_lt (Nat.lt_of_lt_of_le V72.lt (Nat.le_of_eq g73.symm))
      have ge75 : n0 ≤ b73 := Nat.le_trans Z70 (Nat.le_of_eq g73.symm)
      have gz76 : h0.size ≤ b73 := Nat.le_trans Y71 (Nat.le_of_eq g73.symm)
      refine Gl.via st73 ?_
      have Z77 : n0 ≤ h73.size := Nat.le_trans Z70 E73.1
      have Y78 : h0.size ≤ h73.size := Nat.le_trans Y71 E73.1
      have V79 : Arv Z h73 b73 k73 .double (1 : Int32) [(.double (0 : UInt64))] (.double (0 : UInt64)) := (Arv.new A73 (by decide)).pad (pad_rep [] (.double (0 : UInt64)) 1)
      show Gl p.tables e below T73 (mkF m 61 #[.val (.int p0), .val (.int p1), .val (.int p2), .val (.int p3), .val (.int (p0 &&& (7 : Int32))), .val (.double (FP.ddiv (FP.i2d (p0 &&& (7 : Int32))) (4616189618054758400 : UInt64))), .second, .val (.int (1 : Int32)), .val (.ref b63), .unset, .unset, .unset, .unset] [(.ref b73)]) G
      refine Gl.via (fun _ k => XS.dup X73.here hx rfl (hb hby at_61) rfl rfl k) ?_
      show Gl p.tables e below T73 (mkF m 62 #[.val (.int p0), .val (.int p1), .val (.int p2), .val (.int p3), .val (.int (p0 &&& (7 : Int32))), .val (.double (FP.ddiv (FP.i2d (p0 &&& (7 : Int32))) (4616189618054758400 : UInt64))), .second, .val (.int (1 : Int32)), .val (.ref b63), .unset, .unset, .unset, .unset] [(.ref b73), (.ref b73)]) G
      refine Gl.via (fun _ k => XS.iconst X73.here hx rfl (hb hby at_62) k) ?_
      show Gl p.tables e below T73 (mkF m 63 #[.val (.int p0), .val (.int p1), .val (.int p2), .val (.int p3), .val (.int (p0 &&& (7 : Int32))), .val (.double (FP.ddiv (FP.i2d (p0 &&& (7 : Int32))) (4616189618054758400 : UInt64))), .second, .val (.int (1 : Int32)), .val (.ref b63), .unset, .unset, .unset, .unset] [(.int (0 : Int32)), (.ref b73), (.ref b73)]) G
      refine Gl.via (fun _ k => XS.dload X73.here hx rfl (hb hby at_63) rfl k) ?_
      show Gl p.tables e below T73 (mkF m 65 #[.val (.int p0), .val (.int p1), .val (.int p2), .val (.int p3), .val (.int (p0 &&& (7 : Int32))), .val (.double (FP.ddiv (FP.i2d (p0 &&& (7 : Int32))) (4616189618054758400 : UInt64))), .second, .val (.int (1 : Int32)), .val (.ref b63), .unset, .unset, .unset, .unset] [(.double (FP.ddiv (FP.i2d (p0 &&& (7 : Int32))) (4616189618054758400 : UInt64))), (.int (0 : Int32)), (.ref b73), (.ref b73)]) G
      obtain ⟨cl80, Ar80, q80, S80, N80, H80, G80⟩ := V79
      have hin80 : ¬ ((0 : Int32) < 0 ∨ cl80.slots.size ≤ ((0 : Int32)).toNatClampNeg) := inb_of S80 ⟨by decide, by decide⟩
      obtain ⟨T80, h80, X80, e80, W80, st80⟩ := stD X73 hx hZ e73 Ar80 (j := (0 : Int32)) hin80 (g := (mkF m 65 #[.val (.int p0), .val (.int p1), .val (.int p2), .val (.int p3), .val (.int (p0 &&& (7 : Int32))), .val (.double (FP.ddiv (FP.i2d (p0 &&& (7 : Int32))) (4616189618054758400 : UInt64))), .second, .val (.int (1 : Int32)), .val (.ref b63), .unset, .unset, .unset, .unset] [(.double (FP.ddiv (FP.i2d (p0 &&& (7 : Int32))) (4616189618054758400 : UInt64))), (.int (0 : Int32)), (.ref b73), (.ref b73)])) rfl rfl (hb hby at_65)
      refine Gl.via st80 ?_
      have N80_ := Fr.snoc X80 N69_ ge75
      have Z81 : n0 ≤ h80.size := Nat.le_trans Z77 (Keep.of_wr W80).1
      have Y82 : h0.size ≤ h80.size := Nat.le_trans Y78 (Keep.of_wr W80).1
      have V83 : Arv Z h80 b73 k73 .double (1 : Int32) [(.double (FP.ddiv (FP.i2d (p0 &&& (7 : Int32))) (4616189618054758400 : UInt64)))] (.double (0 : UInt64)) := Arv.set Ar80 q80 S80 N80 H80 G80 rfl W80 0 rfl (Nat.le_of_ble_eq_true rfl)
      show Gl p.tables e below T80 (mkF m 66 #[.val (.int p0), .val (.int p1), .val (.int p2), .val (.int p3), .val (.int (p0 &&& (7 : Int32))), .val (.double (FP.ddiv (FP.i2d (p0 &&& (7 : Int32))) (4616189618054758400 : UInt64))), .second, .val (.int (1 : Int32)), .val (.ref b63), .unset, .unset, .unset, .unset] [(.ref b73)]) G
      refine Gl.via (fun _ k => XS.goto X80.here hx rfl (pc0 := 66) (pc' := 72) rfl (hb hby at_66) (by decide) (by decide) k) ?_
      show Gl p.tables e below T80 (mkF m 72 #[.val (.int p0), .val (.int p1), .val (.int p2), .val (.int p3), .val (.int (p0 &&& (7 : Int32))), .val (.double (FP.ddiv (FP.i2d (p0 &&& (7 : Int32))) (4616189618054758400 : UInt64))), .second, .val (.int (1 : Int32)), .val (.ref b63), .unset, .unset, .unset, .unset] [(.ref b73)]) G
      refine Gl.via (fun _ k => XS.astore X80.here hx rfl (hb hby at_72) rfl rfl (l' := #[.val (.int p0), .val (.int p1), .val (.int p2), .val (.int p3), .val (.int (p0 &&& (7 : Int32))), .val (.double (FP.ddiv (FP.i2d (p0 &&& (7 : Int32))) (4616189618054758400 : UInt64))), .second, .val (.int (1 : Int32)), .val (.ref b63), .val (.ref b73), .unset, .unset, .unset]) rfl k) ?_
      show Gl p.tables e below T80 (mkF m 74 #[.val (.int p0), .val (.int p1), .val (.int p2), .val (.int p3), .val (.int (p0 &&& (7 : Int32))), .val (.double (FP.ddiv (FP.i2d (p0 &&& (7 : Int32))) (4616189618054758400 : UInt64))), .second, .val (.int (1 : Int32)), .val (.ref b63), .val (.ref b73), .unset, .unset, .unset] []) G
      refine Gl.via (fun _ k => XS.iload X80.here hx rfl (hb hby at_74) rfl k) ?_
      show Gl p.tables e below T80 (mkF m 76 #[.val (.int p0), .val (.int p1), .val (.int p2), .val (.int p3), .val (.int (p0 &&& (7 : Int32))), .val (.double (FP.ddiv (FP.i2d (p0 &&& (7 : Int32))) (4616189618054758400 : UInt64))), .second, .val (.int (1 : Int32)), .val (.ref b63), .val (.ref b73), .unset, .unset, .unset] [(.int (p0 &&& (7 : Int32)))]) G
      refine Gl.via (fun _ k => XS.ifYes X80.here hx rfl (pc0 := 76) (pc' := 83) rfl (hb hby at_76) rfl ((if0 _ _).trans (feq k0).2) (by decide) (by decide) k) ?_
      show Gl p.tables e below T80 (mkF m 83 #[.val (.int p0), .val (.int p1), .val (.int p2), .val (.int p3), .val (.int (p0 &&& (7 : Int32))), .val (.double (FP.ddiv (FP.i2d (p0 &&& (7 : Int32))) (4616189618054758400 : UInt64))), .second, .val (.int (1 : Int32)), .val (.ref b63), .val (.ref b73), .unset, .unset, .unset] []) G
      refine Gl.via (fun _ k => XS.dload X80.here hx rfl (hb hby at_83) rfl k) ?_
      show Gl p.tables e below T80 (mkF m 85 #[.val (.int p0), .val (.int p1), .val (.int p2), .val (.int p3), .val (.int (p0 &&& (7 : Int32))), .val (.double (FP.ddiv (FP.i2d (p0 &&& (7 : Int32))) (4616189618054758400 : UInt64))), .second, .val (.int (1 : Int32)), .val (.ref b63), .val (.ref b73), .unset, .unset, .unset] [(.double (FP.ddiv (FP.i2d (p0 &&& (7 : Int32))) (4616189618054758400 : UInt64)))]) G
      refine Gl.via (fun _ k => XS.iloadN X80.here hx rfl (hb hby at_85) rfl k) ?_
      show Gl p.tables e below T80 (mkF m 86 #[.val (.int p0), .val (.int p1), .val (.int p2), .val (.int p3), .val (.int (p0 &&& (7 : Int32))), .val (.double (FP.ddiv (FP.i2d (p0 &&& (7 : Int32))) (4616189618054758400 : UInt64))), .second, .val (.int (1 : Int32)), .val (.ref b63), .val (.ref b73), .unset, .unset, .unset] [(.int p1), (.double (FP.ddiv (FP.i2d (p0 &&& (7 : Int32))) (4616189618054758400 : UInt64)))]) G
      refine Gl.via (fun _ k => XS.bipush X80.here hx rfl (hb hby at_86) k) ?_
      show Gl p.tables e below T80 (mkF m 88 #[.val (.int p0), .val (.int p1), .val (.int p2), .val (.int p3), .val (.int (p0 &&& (7 : Int32))), .val (.double (FP.ddiv (FP.i2d (p0 &&& (7 : Int32))) (4616189618054758400 : UInt64))), .second, .val (.int (1 : Int32)), .val (.ref b63), .val (.ref b73), .unset, .unset, .unset] [(.int (7 : Int32)), (.int p1), (.double (FP.ddiv (FP.i2d (p0 &&& (7 : Int32))) (4616189618054758400 : UInt64)))]) G
      refine Gl.via (fun _ k => XS.iand X80.here hx rfl (hb hby at_88) rfl k) ?_
      show Gl p.tables e below T80 (mkF m 89 #[.val (.int p0), .val (.int p1), .val (.int p2), .val (.int p3), .val (.int (p0 &&& (7 : Int32))), .val (.double (FP.ddiv (FP.i2d (p0 &&& (7 : Int32))) (4616189618054758400 : UInt64))), .second, .val (.int (1 : Int32)), .val (.ref b63), .val (.ref b73), .unset, .unset, .unset] [(.int (p1 &&& (7 : Int32))), (.double (FP.ddiv (FP.i2d (p0 &&& (7 : Int32))) (4616189618054758400 : UInt64)))]) G
      refine Gl.via (fun _ k => XS.i2dS X80.here hx rfl (hb hby at_89) rfl rfl k) ?_
      show Gl p.tables e below T80 (mkF m 90 #[.val (.int p0), .val (.int p1), .val (.int p2), .val (.int p3), .val (.int (p0 &&& (7 : Int32))), .val (.double (FP.ddiv (FP.i2d (p0 &&& (7 : Int32))) (4616189618054758400 : UInt64))), .second, .val (.int (1 : Int32)), .val (.ref b63), .val (.ref b73), .unset, .unset, .unset] [(.double (FP.i2d (p1 &&& (7 : Int32)))), (.double (FP.ddiv (FP.i2d (p0 &&& (7 : Int32))) (4616189618054758400 : UInt64)))]) G
      refine Gl.via (fun _ k => XS.daddS X80.here hx rfl (hb hby at_90) rfl (dadd_out (own_div _) (i2d_fin _)) rfl k) ?_
      show Gl p.tables e below T80 (mkF m 91 #[.val (.int p0), .val (.int p1), .val (.int p2), .val (.int p3), .val (.int (p0 &&& (7 : Int32))), .val (.double (FP.ddiv (FP.i2d (p0 &&& (7 : Int32))) (4616189618054758400 : UInt64))), .second, .val (.int (1 : Int32)), .val (.ref b63), .val (.ref b73), .unset, .unset, .unset] [(.double (FP.dadd (FP.ddiv (FP.i2d (p0 &&& (7 : Int32))) (4616189618054758400 : UInt64)) (FP.i2d (p1 &&& (7 : Int32)))))]) G
      refine Gl.via (fun _ k => XS.dstore X80.here hx rfl (hb hby at_91) rfl (l' := #[.val (.int p0), .val (.int p1), .val (.int p2), .val (.int p3), .val (.int (p0 &&& (7 : Int32))), .val (.double (FP.ddiv (FP.i2d (p0 &&& (7 : Int32))) (4616189618054758400 : UInt64))), .second, .val (.int (1 : Int32)), .val (.ref b63), .val (.ref b73), .val (.double (FP.dadd (FP.ddiv (FP.i2d (p0 &&& (7 : Int32))) (4616189618054758400 : UInt64)) (FP.i2d (p1 &&& (7 : Int32))))), .second, .unset]) rfl k) ?_
      show Gl p.tables e below T80 (mkF m 93 #[.val (.int p0), .val (.int p1), .val (.int p2), .val (.int p3), .val (.int (p0 &&& (7 : Int32))), .val (.double (FP.ddiv (FP.i2d (p0 &&& (7 : Int32))) (4616189618054758400 : UInt64))), .second, .val (.int (1 : Int32)), .val (.ref b63), .val (.ref b73), .val (.double (FP.dadd (FP.ddiv (FP.i2d (p0 &&& (7 : Int32))) (4616189618054758400 : UInt64)) (FP.i2d (p1 &&& (7 : Int32))))), .second, .unset] []) G
      obtain ⟨T84, h84, X84, e84, E84, A84, D84, -, st84⟩ := newO X80 hx hZ hown (hw _ (List.mem_of_getElem? (i := 3) rfl)) (hw _ (List.mem_of_getElem? (i := 4) rfl)) (hw _ (List.mem_of_getElem? (i := 5) rfl)) e80 (g := (mkF m 93 #[.val (.int p0), .val (.int p1), .val (.int p2), .val (.int p3), .val (.int (p0 &&& (7 : Int32))), .val (.double (FP.ddiv (FP.i2d (p0 &&& (7 : Int32))) (4616189618054758400 : UInt64))), .second, .val (.int (1 : Int32)), .val (.ref b63), .val (.ref b73), .val (.double (FP.dadd (FP.ddiv (FP.i2d (p0 &&& (7 : Int32))) (4616189618054758400 : UInt64)) (FP.i2d (p1 &&& (7 : Int32))))), .second, .unset] [])) rfl (hb hby at_93) (by decide) (by decide)
      obtain ⟨b84, g84⟩ : ∃ z, z = h80.size := ⟨_, rfl⟩
      rw [← g84] at A84 D84 st84
      have G85 : Arv Z h80 b63 k63 .int (1 : Int32) [(.int p2)] (.int (0 : Int32)) := ((V72.ext E73).other W80 ne74)
      have ne86 : b63 ≠ b84 := Nat.ne_of_lt (Nat.lt_of_lt_of_le G85.lt (Nat.le_of_eq g84.symm))
      have ne87 : b73 ≠ b84 := Nat.ne_of_lt (Nat.lt_of_lt_of_le V83.lt (Nat.le_of_eq g84.symm))
      have ge88 : n0 ≤ b84 := Nat.le_trans Z81 (Nat.le_of_eq g84.symm)
      have gz89 : h0.size ≤ b84 := Nat.le_trans Y82 (Nat.le_of_eq g84.symm)
      refine Gl.via st84 ?_
      have Z90 : n0 ≤ h84.size := Nat.le_trans Z81 E84.1
      have Y91 : h0.size ≤ h84.size := Nat.le_trans Y82 E84.1
      have F92 : Fld Z h84 b84 "com/example/koppel/koppel/weighting/TermVector" "termIds" "[I" .null := D84 (Or.inr (hw _ (List.mem_of_getElem? (i := 18) rfl))) (ty := (.array .int)) (by decide)
      have F93 : Fld Z h84 b84 "com/example/koppel/koppel/weighting/TermVector" "weights" "[D" .null := D84 (Or.inr (hw _ (List.mem_of_getElem? (i := 20) rfl))) (ty := (.array .double)) (by decide)
      have F94 : Fld Z h84 b84 "com/example/koppel/koppel/weighting/TermVector" "norm" "D" (.double (0 : UInt64)) := D84 (Or.inr (hw _ (List.mem_of_getElem? (i := 22) rfl))) (ty := .double) (by decide)
      have F95 : Fld Z h84 b84 "com/example/koppel/koppel/weighting/TermVector" "sum" "D" (.double (0 : UInt64)) := D84 (Or.inr (hw _ (List.mem_of_getElem? (i := 24) rfl))) (ty := .double) (by decide)
      show Gl p.tables e below T84 (mkF m 96 #[.val (.int p0), .val (.int p1), .val (.int p2), .val (.int p3), .val (.int (p0 &&& (7 : Int32))), .val (.double (FP.ddiv (FP.i2d (p0 &&& (7 : Int32))) (4616189618054758400 : UInt64))), .second, .val (.int (1 : Int32)), .val (.ref b63), .val (.ref b73), .val (.double (FP.dadd (FP.ddiv (FP.i2d (p0 &&& (7 : Int32))) (4616189618054758400 : UInt64)) (FP.i2d (p1 &&& (7 : Int32))))), .second, .unset] [(.ref b84)]) G
      refine Gl.via (fun _ k => XS.dup X84.here hx rfl (hb hby at_96) rfl rfl k) ?_
      show Gl p.tables e below T84 (mkF m 97 #[.val (.int p0), .val (.int p1), .val (.int p2), .val (.int p3), .val (.int (p0 &&& (7 : Int32))), .val (.double (FP.ddiv (FP.i2d (p0 &&& (7 : Int32))) (4616189618054758400 : UInt64))), .second, .val (.int (1 : Int32)), .val (.ref b63), .val (.ref b73), .val (.double (FP.dadd (FP.ddiv (FP.i2d (p0 &&& (7 : Int32))) (4616189618054758400 : UInt64)) (FP.i2d (p1 &&& (7 : Int32))))), .second, .unset] [(.ref b84), (.ref b84)]) G
      refine Gl.via (fun _ k => XS.aload X84.here hx rfl (hb hby at_97) rfl rfl k) ?_
      show Gl p.tables e below T84 (mkF m 99 #[.val (.int p0), .val (.int p1), .val (.int p2), .val (.int p3), .val (.int (p0 &&& (7 : Int32))), .val (.double (FP.ddiv (FP.i2d (p0 &&& (7 : Int32))) (4616189618054758400 : UInt64))), .second, .val (.int (1 : Int32)), .val (.ref b63), .val (.ref b73), .val (.double (FP.dadd (FP.ddiv (FP.i2d (p0 &&& (7 : Int32))) (4616189618054758400 : UInt64)) (FP.i2d (p1 &&& (7 : Int32))))), .second, .unset] [(.ref b63), (.ref b84), (.ref b84)]) G
      refine Gl.via (fun _ k => XS.aload X84.here hx rfl (hb hby at_99) rfl rfl k) ?_
      show Gl p.tables e below T84 (mkF m 101 #[.val (.int p0), .val (.int p1), .val (.int p2), .val (.int p3), .val (.int (p0 &&& (7 : Int32))), .val (.double (FP.ddiv (FP.i2d (p0 &&& (7 : Int32))) (4616189618054758400 : UInt64))), .second, .val (.int (1 : Int32)), .val (.ref b63), .val (.ref b73), .val (.double (FP.dadd (FP.ddiv (FP.i2d (p0 &&& (7 : Int32))) (4616189618054758400 : UInt64)) (FP.i2d (p1 &&& (7 : Int32))))), .second, .unset] [(.ref b73), (.ref b63), (.ref b84), (.ref b84)]) G
      refine Gl.via (fun _ k => XS.dload X84.here hx rfl (hb hby at_101) rfl k) ?_
      show Gl p.tables e below T84 (mkF m 103 #[.val (.int p0), .val (.int p1), .val (.int p2), .val (.int p3), .val (.int (p0 &&& (7 : Int32))), .val (.double (FP.ddiv (FP.i2d (p0 &&& (7 : Int32))) (4616189618054758400 : UInt64))), .second, .val (.int (1 : Int32)), .val (.ref b63), .val (.ref b73), .val (.double (FP.dadd (FP.ddiv (FP.i2d (p0 &&& (7 : Int32))) (4616189618054758400 : UInt64)) (FP.i2d (p1 &&& (7 : Int32))))), .second, .unset] [(.double (FP.ddiv (FP.i2d (p0 &&& (7 : Int32))) (4616189618054758400 : UInt64))), (.ref b73), (.ref b63), (.ref b84), (.ref b84)]) G
      refine Gl.via (fun _ k => XS.dload X84.here hx rfl (hb hby at_103) rfl k) ?_
      show Gl p.tables e below T84 (mkF m 105 #[.val (.int p0), .val (.int p1), .val (.int p2), .val (.int p3), .val (.int (p0 &&& (7 : Int32))), .val (.double (FP.ddiv (FP.i2d (p0 &&& (7 : Int32))) (4616189618054758400 : UInt64))), .second, .val (.int (1 : Int32)), .val (.ref b63), .val (.ref b73), .val (.double (FP.dadd (FP.ddiv (FP.i2d (p0 &&& (7 : Int32))) (4616189618054758400 : UInt64)) (FP.i2d (p1 &&& (7 : Int32))))), .second, .unset] [(.double (FP.dadd (FP.ddiv (FP.i2d (p0 &&& (7 : Int32))) (4616189618054758400 : UInt64)) (FP.i2d (p1 &&& (7 : Int32))))), (.double (FP.ddiv (FP.i2d (p0 &&& (7 : Int32))) (4616189618054758400 : UInt64))), (.ref b73), (.ref b63), (.ref b84), (.ref b84)]) G
      obtain ⟨_, _, ⟨T96, L96, k96, n96⟩, -, X96, ⟨Lc96, hQ96, l96, y96, z96⟩, st96⟩ := X84.specialBack hx (y := (⟨"com/example/koppel/koppel/weighting/TermVector", "<init>", "([I[DDD)V"⟩ : MethodName)) rfl hown (mvT hZ (hw _ (List.mem_of_getElem? (i := 6) rfl))) (mvT hZ (hw _ (List.mem_of_getElem? (i := 7) rfl))) (mvT hZ (hw _ (List.mem_of_getElem? (i := 8) rfl))) (by decide) (backOf (W := 1) (t_init l Z a0 hw [] b84 b63 b73 (FP.ddiv (FP.i2d (p0 &&& (7 : Int32))) (4616189618054758400 : UInt64)) (FP.dadd (FP.ddiv (FP.i2d (p0 &&& (7 : Int32))) (4616189618054758400 : UInt64)) (FP.i2d (p1 &&& (7 : Int32)))) .null .null (.double (0 : UInt64)) (.double (0 : UInt64)) h84 n0 Z90 A84 F92 F93 F94 F95 ge88) hZ (hw _ (List.mem_of_getElem? (i := 8) rfl)) (hw _ (List.mem_of_getElem? (i := 5) rfl)) (by decide) (by decide)) (g := (mkF m 105 #[.val (.int p0), .val (.int p1), .val (.int p2), .val (.int p3), .val (.int (p0 &&& (7 : Int32))), .val (.double (FP.ddiv (FP.i2d (p0 &&& (7 : Int32))) (4616189618054758400 : UInt64))), .second, .val (.int (1 : Int32)), .val (.ref b63), .val (.ref b73), .val (.double (FP.dadd (FP.ddiv (FP.i2d (p0 &&& (7 : Int32))) (4616189618054758400 : UInt64)) (FP.i2d (p1 &&& (7 : Int32))))), .second, .unset] [(.double (FP.dadd (FP.ddiv (FP.i2d (p0 &&& (7 : Int32))) (4616189618054758400 : UInt64)) (FP.i2d (p1 &&& (7 : Int32))))), (.double (FP.ddiv (FP.i2d (p0 &&& (7 : Int32))) (4616189618054758400 : UInt64))), (.ref b73), (.ref b63), (.ref b84), (.ref b84)])) rfl (by rw [hml]; rfl) (Steps.refl _) (a := b84) (argsL := [(.ref b63), (.ref b73), (.double (FP.ddiv (FP.i2d (p0 &&& (7 : Int32))) (4616189618054758400 : UInt64))), (.double (FP.dadd (FP.ddiv (FP.i2d (p0 &&& (7 : Int32))) (4616189618054758400 : UInt64)) (FP.i2d (p1 &&& (7 : Int32)))))]) (rest := [(.ref b84)]) (lenOf pd_1 rfl) rfl (by show 2 * 0 + _ ≤ _; exact Nat.le_of_eq rfl) (hb hby at_105) (fun _ _ => ⟨rfl, e84, (by decide : 3 + 0 ≤ _), (by decide : 6 + 0 ≤ _)⟩)
      dsimp only [Pt.U, Pt.locs, Pt.cells, Pt.slots] at X96 l96 y96 z96 st96 hQ96
      subst l96 y96 z96
      obtain ⟨rfl, N96q, K96, P97, P98⟩ := hQ96
      have N96_ := Fr.app N80_ N96q
      refine Gl.via (fun _ k => st96.trans k) ?_
      have Z99 : n0 ≤ T96.heap.size := Nat.le_trans Z90 K96.1
      have Y100 : h0.size ≤ T96.heap.size := Nat.le_trans Y91 K96.1
      show Gl p.tables e below T96 (mkF m 108 #[.val (.int p0), .val (.int p1), .val (.int p2), .val (.int p3), .val (.int (p0 &&& (7 : Int32))), .val (.double (FP.ddiv (FP.i2d (p0 &&& (7 : Int32))) (4616189618054758400 : UInt64))), .second, .val (.int (1 : Int32)), .val (.ref b63), .val (.ref b73), .val (.double (FP.dadd (FP.ddiv (FP.i2d (p0 &&& (7 : Int32))) (4616189618054758400 : UInt64)) (FP.i2d (p1 &&& (7 : Int32))))), .second, .unset] [(.ref b84)]) G
      refine Gl.via (fun _ k => XS.astore X96.here hx rfl (hb hby at_108) rfl rfl (l' := #[.val (.int p0), .val (.int p1), .val (.int p2), .val (.int p3), .val (.int (p0 &&& (7 : Int32))), .val (.double (FP.ddiv (FP.i2d (p0 &&& (7 : Int32))) (4616189618054758400 : UInt64))), .second, .val (.int (1 : Int32)), .val (.ref b63), .val (.ref b73), .val (.double (FP.dadd (FP.ddiv (FP.i2d (p0 &&& (7 : Int32))) (4616189618054758400 : UInt64)) (FP.i2d (p1 &&& (7 : Int32))))), .second, .val (.ref b84)]) rfl k) ?_
      show Gl p.tables e below T96 (mkF m 110 #[.val (.int p0), .val (.int p1), .val (.int p2), .val (.int p3), .val (.int (p0 &&& (7 : Int32))), .val (.double (FP.ddiv (FP.i2d (p0 &&& (7 : Int32))) (4616189618054758400 : UInt64))), .second, .val (.int (1 : Int32)), .val (.ref b63), .val (.ref b73), .val (.double (FP.dadd (FP.ddiv (FP.i2d (p0 &&& (7 : Int32))) (4616189618054758400 : UInt64)) (FP.i2d (p1 &&& (7 : Int32))))), .second, .val (.ref b84)] []) G
      refine Gl.via (fun _ k => XS.aload X96.here hx rfl (hb hby at_110) rfl rfl k) ?_
      show Gl p.tables e below T96 (mkF m 112 #[.val (.int p0), .val (.int p1), .val (.int p2), .val (.int p3), .val (.int (p0 &&& (7 : Int32))), .val (.double (FP.ddiv (FP.i2d (p0 &&& (7 : Int32))) (4616189618054758400 : UInt64))), .second, .val (.int (1 : Int32)), .val (.ref b63), .val (.ref b73), .val (.double (FP.dadd (FP.ddiv (FP.i2d (p0 &&& (7 : Int32))) (4616189618054758400 : UInt64)) (FP.i2d (p1 &&& (7 : Int32))))), .second, .val (.ref b84)] [(.ref b84)]) G
      obtain ⟨cq101, kq101, q101a, q101b, q101c⟩ := isOf hZ rfl P97
      obtain ⟨_, _, ⟨T101, L101, k101, n101⟩, -, X101, ⟨Lc101, hQ101, l101, y101, z101⟩, st101⟩ := X96.virtualBack hx (y := (⟨"com/example/koppel/koppel/weighting/TermVector", "isZero", "()Z"⟩ : MethodName)) (z := (⟨"com/example/koppel/koppel/weighting/TermVector", "isZero", "()Z"⟩ : MethodName)) hown (mvT hZ (hw _ (List.mem_of_getElem? (i := 25) rfl))) (mvT hZ (hw _ (List.mem_of_getElem? (i := 26) rfl))) (notFace_of_selects (args := #[]) (mvT hZ (hw _ (List.mem_of_getElem? (i := 28) rfl)))) (mvT hZ (hw _ (List.mem_of_getElem? (i := 28) rfl))) (mvT hZ (hw _ (List.mem_of_getElem? (i := 27) rfl))) (by decide) (backOf (W := 0) (isz0 l Z a0 hw [] b84 (FP.ddiv (FP.i2d (p0 &&& (7 : Int32))) (4616189618054758400 : UInt64)) T96.heap n0 Z99 P98 (fun q => k0 ((own_cmp p0).mp q))) hZ (hw _ (List.mem_of_getElem? (i := 29) rfl)) (hw _ (List.mem_of_getElem? (i := 5) rfl)) (by decide) (by decide)) q101a q101c (g := (mkF m 112 #[.val (.int p0), .val (.int p1), .val (.int p2), .val (.int p3), .val (.int (p0 &&& (7 : Int32))), .val (.double (FP.ddiv (FP.i2d (p0 &&& (7 : Int32))) (4616189618054758400 : UInt64))), .second, .val (.int (1 : Int32)), .val (.ref b63), .val (.ref b73), .val (.double (FP.dadd (FP.ddiv (FP.i2d (p0 &&& (7 : Int32))) (4616189618054758400 : UInt64)) (FP.i2d (p1 &&& (7 : Int32))))), .second, .val (.ref b84)] [(.ref b84)])) rfl (by rw [hml]; rfl) (Steps.refl _) (argsL := []) (rest := []) (lenOf pd_2 rfl) rfl (by show 2 * 0 + _ ≤ _; exact Nat.le_of_eq rfl) (hb hby at_112) (fun _ _ => ⟨rfl, rfl, (by decide : 3 + 0 ≤ _), (by decide : 6 + 0 ≤ _)⟩)
      dsimp only [Pt.U, Pt.locs, Pt.cells, Pt.slots] at X101 l101 y101 z101 st101 hQ101
      subst l101 y101 z101
      obtain ⟨rfl, N101q, eh101⟩ := hQ101
      have N101_ := Fr.app N96_ N101q
      refine Gl.via (fun _ k => st101.trans k) ?_
      show Gl p.tables e below T101 (mkF m 115 #[.val (.int p0), .val (.int p1), .val (.int p2), .val (.int p3), .val (.int (p0 &&& (7 : Int32))), .val (.double (FP.ddiv (FP.i2d (p0 &&& (7 : Int32))) (4616189618054758400 : UInt64))), .second, .val (.int (1 : Int32)), .val (.ref b63), .val (.ref b73), .val (.double (FP.dadd (FP.ddiv (FP.i2d (p0 &&& (7 : Int32))) (4616189618054758400 : UInt64)) (FP.i2d (p1 &&& (7 : Int32))))), .second, .val (.ref b84)] [(.int (0 : Int32))]) G
      refine Gl.via (fun _ k => XS.iload X101.here hx rfl (hb hby at_115) rfl k) ?_
      show Gl p.tables e below T101 (mkF m 117 #[.val (.int p0), .val (.int p1), .val (.int p2), .val (.int p3), .val (.int (p0 &&& (7 : Int32))), .val (.double (FP.ddiv (FP.i2d (p0 &&& (7 : Int32))) (4616189618054758400 : UInt64))), .second, .val (.int (1 : Int32)), .val (.ref b63), .val (.ref b73), .val (.double (FP.dadd (FP.ddiv (FP.i2d (p0 &&& (7 : Int32))) (4616189618054758400 : UInt64)) (FP.i2d (p1 &&& (7 : Int32))))), .second, .val (.ref b84)] [(.int (p0 &&& (7 : Int32))), (.int (0 : Int32))]) G
      refine Gl.via (fun _ k => XS.ifYes X101.here hx rfl (pc0 := 117) (pc' := 124) rfl (hb hby at_117) rfl ((if0 _ _).trans (feq k0).2) (by decide) (by decide) k) ?_
      show Gl p.tables e below T101 (mkF m 124 #[.val (.int p0), .val (.int p1), .val (.int p2), .val (.int p3), .val (.int (p0 &&& (7 : Int32))), .val (.double (FP.ddiv (FP.i2d (p0 &&& (7 : Int32))) (4616189618054758400 : UInt64))), .second, .val (.int (1 : Int32)), .val (.ref b63), .val (.ref b73), .val (.double (FP.dadd (FP.ddiv (FP.i2d (p0 &&& (7 : Int32))) (4616189618054758400 : UInt64)) (FP.i2d (p1 &&& (7 : Int32))))), .second, .val (.ref b84)] [(.int (0 : Int32))]) G
      refine Gl.via (fun _ k => XS.iconst X101.here hx rfl (hb hby at_124) k) ?_
      show Gl p.tables e below T101 (mkF m 125 #[.val (.int p0), .val (.int p1), .val (.int p2), .val (.int p3), .val (.int (p0 &&& (7 : Int32))), .val (.double (FP.ddiv (FP.i2d (p0 &&& (7 : Int32))) (4616189618054758400 : UInt64))), .second, .val (.int (1 : Int32)), .val (.ref b63), .val (.ref b73), .val (.double (FP.dadd (FP.ddiv (FP.i2d (p0 &&& (7 : Int32))) (4616189618054758400 : UInt64)) (FP.i2d (p1 &&& (7 : Int32))))), .second, .val (.ref b84)] [(.int (0 : Int32)), (.int (0 : Int32))]) G
      refine Gl.via (fun _ k => XS.icmpNo X101.here hx rfl (hb hby at_125) rfl (teq (by decide)).2 k) ?_
      show Gl p.tables e below T101 (mkF m 128 #[.val (.int p0), .val (.int p1), .val (.int p2), .val (.int p3), .val (.int (p0 &&& (7 : Int32))), .val (.double (FP.ddiv (FP.i2d (p0 &&& (7 : Int32))) (4616189618054758400 : UInt64))), .second, .val (.int (1 : Int32)), .val (.ref b63), .val (.ref b73), .val (.double (FP.dadd (FP.ddiv (FP.i2d (p0 &&& (7 : Int32))) (4616189618054758400 : UInt64)) (FP.i2d (p1 &&& (7 : Int32))))), .second, .val (.ref b84)] []) G
      refine Gl.via (fun _ k => XS.iconst X101.here hx rfl (hb hby at_128) k) ?_
      show Gl p.tables e below T101 (mkF m 129 #[.val (.int p0), .val (.int p1), .val (.int p2), .val (.int p3), .val (.int (p0 &&& (7 : Int32))), .val (.double (FP.ddiv (FP.i2d (p0 &&& (7 : Int32))) (4616189618054758400 : UInt64))), .second, .val (.int (1 : Int32)), .val (.ref b63), .val (.ref b73), .val (.double (FP.dadd (FP.ddiv (FP.i2d (p0 &&& (7 : Int32))) (4616189618054758400 : UInt64)) (FP.i2d (p1 &&& (7 : Int32))))), .second, .val (.ref b84)] [(.int (1 : Int32))]) G
      refine Gl.via (fun _ k => XS.goto X101.here hx rfl (pc0 := 129) (pc' := 133) rfl (hb hby at_129) (by decide) (by decide) k) ?_
      show Gl p.tables e below T101 (mkF m 133 #[.val (.int p0), .val (.int p1), .val (.int p2), .val (.int p3), .val (.int (p0 &&& (7 : Int32))), .val (.double (FP.ddiv (FP.i2d (p0 &&& (7 : Int32))) (4616189618054758400 : UInt64))), .second, .val (.int (1 : Int32)), .val (.ref b63), .val (.ref b73), .val (.double (FP.dadd (FP.ddiv (FP.i2d (p0 &&& (7 : Int32))) (4616189618054758400 : UInt64)) (FP.i2d (p1 &&& (7 : Int32))))), .second, .val (.ref b84)] [(.int (1 : Int32))]) G
      obtain ⟨fs, hr, hrun, hended, hW, hsame⟩ := X101.leave (v := some (.int (1 : Int32))) (fun h => by rw [Bd.returns] at h; cases h)
      have hq : ∀ L, Fr n0 L → Q_rm0 Z p0 p1 p2 p3 h0 n0 (some (.int (1 : Int32))) T101.heap L := by
        intro L hN
        rw [eh101]
        exact ⟨rfl, hN⟩
      rw [hG]
      exact Gl.fin (retN X101 hx (t := .boolean) Bd.returns (by simp) (hb hby at_133) hr) ⟨_, hrun, hended, _, _, rfl, hq _ N101_, ⟨_, rfl⟩, hW, hsame.mono (by decide) (by decide)⟩
set_option maxRecDepth 65536 in
set_option maxHeartbeats 40000000 in
theorem comes_1 {Post : Tables → Env → Array Value → State → Outcome → State → Prop} (hpost : ∀ tb e args s v u, (limb_1_1.after args s (.returned v) u = true ∧ limb_1_2.after args s (.returned v) u = true ∧ True) → FrameEnd s (.returned v) u (Jvm.fieldLocs frame_1_writes args s ++ Jvm.arrayLocs frame_1_arrays args s ++ Jvm.staticLocs frame_1_statics s) 16 128 → Post tb e args s (.returned v) u) :
    ArmFor flags0 classFile x code maxLocals ret World_1 tables_1 room_1 Calls_1 rest_1 Pre_1 Post := by
  intro l hfl _ _ p e ha hc hk s m args below hf hA hF happ hP
  obtain ⟨hcalls, hrest, hpre⟩ := hP
  obtain ⟨-, -, -, hnamed, -, -, -, hat⟩ := (Spec.applies_iff hf).mp happ
  obtain ⟨hg, hn⟩ := and_e (Cond.before_iff.mp (show (Jvm.Cond.and given_1 narrow_1).before args s = true from hpre))
  obtain ⟨g1, g2⟩ := and_e hg
  obtain ⟨g3, g4⟩ := and_e g2
  obtain ⟨g5, g6⟩ := and_e g4
  obtain ⟨g7, g8⟩ := and_e g6
  obtain ⟨w0, w1, w2, w3, rfl⟩ : ∃ w0 w1 w2 w3 : Value, args = #[w0, w1, w2, w3] := by
    have hs : args.size = 4 := by simpa [Cond.value, given_1] using g1
    obtain ⟨L⟩ := args
    match L, hs with
    | [w0, w1, w2, w3], _ => exact ⟨w0, w1, w2, w3, rfl⟩
  have hw := fun d (hd : d ∈ tables_1) => atoms_spec (ws := Jvm.Cond.code x code maxLocals ret :: tables_1) hat d (List.mem_cons_of_mem _ hd)
  have hfit : Fit s := fun {y c} hc i hi => by
    obtain ⟨ha, rfl⟩ := Array.getElem?_eq_some_iff.mp hc
    have q := List.all_eq_true.mp ((Array.all_eq_true_iff_forall_mem.mp hF) _ (Array.getElem_mem ha)) i (List.mem_range.mpr hi)
    simpa [Array.getElem?_eq_getElem hi] using q
  obtain ⟨i0, ei0⟩ := is_v g3
  obtain rfl : w0 = (.int i0) := Option.some.inj ei0
  obtain ⟨i1, ei1⟩ := is_v g5
  obtain rfl : w1 = (.int i1) := Option.some.inj ei1
  obtain ⟨i2, ei2⟩ := is_v g7
  obtain rfl : w2 = (.int i2) := Option.some.inj ei2
  obtain ⟨i3, ei3⟩ := is_v g8
  obtain rfl : w3 = (.int i3) := Option.some.inj ei3
  obtain ⟨n, o, h1, h2, h3, _, L, rfl, ⟨rfl, N⟩, hq⟩ := rm0 l s _ hw tables_1 i0 i1 i2 i3 s.heap s.heap.size (Nat.le_refl _)  p e ha hc hk s m _ below hf ((Spec.applies_iff_loose hf).mp happ).1 ⟨rfl, State.Warmed39.refl s, rfl⟩ trivial
  refine ⟨n, _, h1, h2, h3, hpost _ _ _ _ _ _ ⟨Cond.after_iff.mpr rfl, Cond.after_iff.mpr (eq_i res_at (Term.int_eval (1)) rfl), trivial⟩ ⟨hq.1, hq.2.1, (hq.2.2.sift fun y hy => Or.inr (N y hy)).mono (by decide) (by decide)⟩⟩
theorem main_1_1 : Claimed_1_1 := comes_1 fun _ _ _ _ _ _ h hF => ⟨h.1, hF⟩
theorem main_1_2 : Claimed_1_2 := comes_1 fun _ _ _ _ _ _ h hF => ⟨h.2.1, hF⟩
end Jvm.Pilot.@@N@@
namespace Jvm.Pilot.@@N@@
open Jvm Jvm.ClassFile Sem Op Lib Jvm.Free Jvm.Stand Jvm.Pilot.@@N@@.Jvm.D
/-! MADE BY PROGRAM (witnessworld.py) out of the Statement's table words and the real class files: 12 classes; the members and pool entries that the words name. The judged class is class 1, her method 1. -/
namespace start1
open Jvm.ClassFile
def u (s : String) : CpInfo := .utf8 (stringToUtf16 s)
/-- a pool by its gaps: so many unusable entries, then the entry; so many at the end -/
def gap : Nat → List CpInfo → List CpInfo
  | 0, r => r
  | n + 1, r => .unusable :: gap n r
def poolList (es : List (Nat × CpInfo)) (last : Nat) : List CpInfo := es.foldr (fun e r => gap e.1 (e.2 :: r)) (gap last [])
def pool (es : List (Nat × CpInfo)) (last : Nat) : Array CpInfo := ⟨poolList es last⟩
def fileOf (pool : Array CpInfo) (this : Nat) (attrs : Array Attribute := #[]) (ms : Array MethodInfo := #[]) (fl : Nat := 33) (sup : Nat := 0) (ifs : Array Nat := #[]) (fds : Array FieldInfo := #[]) : ClassFile where
  minorVersion := 0
  majorVersion := 65
  constantPool := pool
  accessFlags := fl
  thisClass := this
  superClass := sup
  interfaces := ifs
  fields := fds
  methods := ms
  attributes := attrs
def plain (name : String) (sup : Option ClassId) : Class where
  name := name
  kind := .ordinary
  loader := none
  accessFlags := 33
  super := sup
  interfaces := #[]
  cf := none
  fields := #[]
  methods := #[]
  instanceTypes := #[]
  staticTypes := #[]
  resolved := #[]
  callSites := []
  init := .initialized
  statics := none
  mirror := none

def pool0 : Array CpInfo := pool [(5, u "<init>"), (0, u "()V"), (1, .class_ 10), (1, u "java/lang/Object")] 113

def k0c0 : Code := { maxStack := 0, maxLocals := 1, code := object_method_1_code, exceptionTable := #[], attributes := #[] }
def k0m0 : Method := { name := "<init>", desc := "()V", sig := { parameters := [], returnType := none }, accessFlags := 1, code := some k0c0 }
/-- java/lang/Object -/
def k0 : Class := { plain "java/lang/Object" none with
  accessFlags := 33
  interfaces := #[]
  cf := some (fileOf pool0 8 #[] #[{ accessFlags := 1, nameIndex := 5, descriptorIndex := 6, attributes := #[] }] 33 0 #[] #[])
  fields := #[]
  methods := #[k0m0]
  instanceTypes := #[]
  staticTypes := #[]
  resolved := Array.replicate 124 none
  statics := none }

def pool1 : Array CpInfo := pool [(2, .class_ 4), (1, u "java/lang/Object"), (0, u "<init>"), (0, u "()V"), (0, .double 4616189618054758400), (1, .class_ 10), (0, u "com/example/koppel/koppel/weighting/TermVector"), (0, .methodref 9 12), (0, .nameAndType 5 13), (0, u "([I[DDD)V"), (0, .methodref 9 15), (0, .nameAndType 16 17), (0, u "isZero"), (0, u "()Z"), (0, .class_ 19), (0, u "com/example/koppel/koppel/weighting/TermVectorIsZeroPinLaw"), (2, u "law"), (0, u "(IIII)Z")] 7

def k1m0 : Method := { name := "<init>", desc := "()V", sig := { parameters := [], returnType := none }, accessFlags := 1, code := none }
def k1c1 : Code := { maxStack := 8, maxLocals := 13, code := code, exceptionTable := #[], attributes := #[] }
def k1m1 : Method := { name := "law", desc := "(IIII)Z", sig := { parameters := [.int, .int, .int, .int], returnType := some .boolean }, accessFlags := 9, code := some k1c1 }
/-- com/example/koppel/koppel/weighting/TermVectorIsZeroPinLaw -/
def k1 : Class := { plain "com/example/koppel/koppel/weighting/TermVectorIsZeroPinLaw" (some 0) with
  accessFlags := 49
  interfaces := #[]
  cf := some (fileOf pool1 18 #[] #[{ accessFlags := 1, nameIndex := 5, descriptorIndex := 6, attributes := #[] }, { accessFlags := 9, nameIndex := 22, descriptorIndex := 23, attributes := #[] }] 49 2 #[] #[])
  fields := #[]
  methods := #[k1m0, k1m1]
  instanceTypes := #[]
  staticTypes := #[]
  resolved := Array.replicate 31 none
  statics := none }

def pool2 : Array CpInfo := pool [(1, .methodref 2 3), (0, .class_ 4), (0, .nameAndType 5 6), (0, u "java/lang/Object"), (0, u "<init>"), (0, u "()V"), (0, .class_ 8), (0, u "java/lang/Record")] 13

def k2c0 : Code := { maxStack := 1, maxLocals := 1, code := jdk_30_method_1_code, exceptionTable := #[], attributes := #[] }
def k2m0 : Method := { name := "<init>", desc := "()V", sig := { parameters := [], returnType := none }, accessFlags := 4, code := some k2c0 }
/-- java/lang/Record -/
def k2 : Class := { plain "java/lang/Record" (some 0) with
  accessFlags := 1057
  interfaces := #[]
  cf := some (fileOf pool2 7 #[] #[{ accessFlags := 4, nameIndex := 5, descriptorIndex := 6, attributes := #[] }] 1057 2 #[] #[])
  fields := #[]
  methods := #[k2m0]
  instanceTypes := #[]
  staticTypes := #[]
  resolved := Array.replicate 22 none
  statics := none }

def pool3 : Array CpInfo := pool [(1, .methodref 2 3), (0, .class_ 4), (0, .nameAndType 5 6), (0, u "java/lang/Record"), (0, u "<init>"), (0, u "()V"), (0, .fieldref 8 9), (0, .class_ 10), (0, .nameAndType 11 12), (0, u "com/example/koppel/koppel/weighting/TermVector"), (0, u "termIds"), (0, u "[I"), (0, .fieldref 8 14), (0, .nameAndType 15 16), (0, u "weights"), (0, u "[D"), (0, .fieldref 8 18), (0, .nameAndType 19 20), (0, u "norm"), (0, u "D"), (0, .fieldref 8 22), (0, .nameAndType 23 20), (0, u "sum"), (18, u "([I[DDD)V"), (3, u "isZero"), (0, u "()Z")] 32

def k3c0 : Code := { maxStack := 3, maxLocals := 7, code := prog_26_method_1_code, exceptionTable := #[], attributes := #[] }
def k3m0 : Method := { name := "<init>", desc := "([I[DDD)V", sig := { parameters := [(.array .int), (.array .double), .double, .double], returnType := none }, accessFlags := 1, code := some k3c0 }
def k3c1 : Code := { maxStack := 4, maxLocals := 1, code := prog_26_method_2_code, exceptionTable := #[], attributes := #[] }
def k3m1 : Method := { name := "isZero", desc := "()Z", sig := { parameters := [], returnType := some .boolean }, accessFlags := 1, code := some k3c1 }
/-- com/example/koppel/koppel/weighting/TermVector -/
def k3 : Class := { plain "com/example/koppel/koppel/weighting/TermVector" (some 2) with
  accessFlags := 49
  interfaces := #[]
  cf := some (fileOf pool3 8 #[] #[{ accessFlags := 1, nameIndex := 5, descriptorIndex := 42, attributes := #[] }, { accessFlags := 1, nameIndex := 46, descriptorIndex := 47, attributes := #[] }] 49 2 #[] #[{ accessFlags := 18, nameIndex := 11, descriptorIndex := 12, attributes := #[] }, { accessFlags := 18, nameIndex := 15, descriptorIndex := 16, attributes := #[] }, { accessFlags := 18, nameIndex := 19, descriptorIndex := 20, attributes := #[] }, { accessFlags := 18, nameIndex := 23, descriptorIndex := 20, attributes := #[] }])
  fields := #[{ name := "termIds", type := (.array .int), accessFlags := 18, slot := 0, constantValue := 0 }, { name := "weights", type := (.array .double), accessFlags := 18, slot := 1, constantValue := 0 }, { name := "norm", type := .double, accessFlags := 18, slot := 2, constantValue := 0 }, { name := "sum", type := .double, accessFlags := 18, slot := 3, constantValue := 0 }]
  methods := #[k3m0, k3m1]
  instanceTypes := #[(.array .int), (.array .double), .double, .double]
  staticTypes := #[]
  resolved := Array.replicate 80 none
  statics := none }

def pool4 : Array CpInfo := pool [(1, u "java/lang/Cloneable"), (0, .class_ 1), (0, u "java/lang/Object"), (0, .class_ 3)] 3

/-- java/lang/Cloneable -/
def k4 : Class := { plain "java/lang/Cloneable" (some 0) with
  accessFlags := 1537
  interfaces := #[]
  cf := some (fileOf pool4 2 #[] #[] 1537 4 #[] #[])
  fields := #[]
  methods := #[]
  instanceTypes := #[]
  staticTypes := #[]
  resolved := Array.replicate 8 none
  statics := none }

def pool5 : Array CpInfo := pool [(1, u "java/io/Serializable"), (0, .class_ 1), (0, u "java/lang/Object"), (0, .class_ 3)] 3

/-- java/io/Serializable -/
def k5 : Class := { plain "java/io/Serializable" (some 0) with
  accessFlags := 1537
  interfaces := #[]
  cf := some (fileOf pool5 2 #[] #[] 1537 4 #[] #[])
  fields := #[]
  methods := #[]
  instanceTypes := #[]
  staticTypes := #[]
  resolved := Array.replicate 8 none
  statics := none }

/-- the primitive byte -/
def k6 : Class := { plain "byte" none with kind := .primitive 'B', accessFlags := 0x411 }
/-- [B -/
def k7 : Class := { plain "[B" (some 0) with kind := .array 6 .byte, interfaces := #[4, 5], accessFlags := 1041 }

/-- the primitive double -/
def k8 : Class := { plain "double" none with kind := .primitive 'D', accessFlags := 0x411 }
/-- [D -/
def k9 : Class := { plain "[D" (some 0) with kind := .array 8 .double, interfaces := #[4, 5], accessFlags := 1041 }

/-- the primitive int -/
def k10 : Class := { plain "int" none with kind := .primitive 'I', accessFlags := 0x411 }
/-- [I -/
def k11 : Class := { plain "[I" (some 0) with kind := .array 10 .int, interfaces := #[4, 5], accessFlags := 1041 }

def heap : Heap := #[]
def classes : Array Class := #[k0, k1, k2, k3, k4, k5, k6, k7, k8, k9, k10, k11]
def interned : List (Array UInt16 × Addr) := []
def slotsUsed : Nat := 0
def theMethod : MethodId := ⟨1, 1⟩
def args0 : Array Value := #[.int 5, .int 7, .int 2, .int 9]
def aboutOver (below : List Frame) : State where
  vm := { classes := classes, interned := interned.toArray }
  heap := heap
  slotsUsed := slotsUsed
  threads := #[{ frames := .invoking theMethod args0 :: below }]
def below0 : List Frame := [.native { method := ⟨0, 0⟩, args := #[] }]
def about1 : State := aboutOver below0
def p0 : Program := .bare "" "" ""
def e0 : Env := launch0.env 0 0 0
theorem w_frames : about1.frames = Frame.invoking theMethod args0 :: below0 := rfl
set_option maxRecDepth 65536 in
theorem w_args : argsFit about1.vm theMethod args0 = true := by decide +kernel
set_option maxRecDepth 65536 in
theorem w_heap : heapFits about1 = true := by decide +kernel
set_option maxRecDepth 65536 in
theorem w_runnable : about1.curStatus? = some .runnable := by decide +kernel
set_option maxRecDepth 65536 in
theorem w_alone : about1.alone = true := by decide +kernel
set_option maxRecDepth 65536 in
theorem w_named : about1.methodNamed? x = some theMethod := by decide +kernel
set_option maxRecDepth 65536 in
theorem w_hears : about1.hears theMethod below0 = true := by decide +kernel
set_option maxRecDepth 65536 in
theorem w_ripe : about1.ripe theMethod args0 below0 = true := by decide +kernel
theorem w_running : about1.status = .running := rfl
set_option maxRecDepth 65536 in
theorem w_room : about1.hasRoom e0.platform room_1 = true :=
  launch0.hasRoom_least _ room_1 (by decide +kernel) (by decide +kernel) (by decide +kernel) (by decide +kernel) (by decide +kernel) (by decide +kernel)
theorem allAtoms_all (ts : List Jvm.Cond) (a : Array Jvm.Value) (st : Jvm.State) : (allAtoms ts).before a st = ts.all (fun c => c.before a st) := by
  induction ts with
  | nil => rfl
  | cons c t ih =>
    show (Jvm.Cond.and c (allAtoms t)).before a st = _
    rw [Jvm.Cond.before_and, ih, List.all_cons]
def words1 : List Jvm.Cond := Jvm.Cond.code x code maxLocals ret :: tables_1
/-- a 'code' word, met by the world's own term for the bytes: nothing is compared byte by byte -/
theorem code_word {y : MethodName} {bytes : ByteArray} {mx : Nat} {rt : Option FieldType} {a : Array Value} {s : State} {m : MethodId} {meth : Method} {c : Code} (h1 : s.methodNamed? y = some m) (h2 : s.vm.method? m = some meth) (h3 : meth.code = some c) (h4 : c.code = bytes)
    (h5 : (c.maxLocals == mx && c.exceptionTable.isEmpty && decide (c.maxStack ≤ mostOperands) && decide (meth.sig.returnType = rt) && !meth.locks && decide (parseMethodDescriptor y.desc = some meth.sig)) = true) : (Jvm.Cond.code y bytes mx rt).before a s = true := by
  simp only [Bool.and_eq_true, beq_iff_eq, Bool.not_eq_true', decide_eq_true_eq] at h5
  obtain ⟨⟨⟨⟨⟨g1, g2⟩, g3⟩, g4⟩, g5⟩, g6⟩ := h5
  simp [Cond.before, Cond.holds, Cond.value, h1, h2, h3, h4, g1, g2, g3, g4, g5, g6]
def isCode : Jvm.Cond → Bool
  | .code _ _ _ _ => true
  | _ => false
theorem all_split {L : List Jvm.Cond} {P : Jvm.Cond → Bool} (h1 : L.all (fun c => isCode c || P c) = true) (h2 : ∀ c ∈ L.filter isCode, P c = true) : L.all P = true := by
  refine List.all_eq_true.mpr fun c hc => ?_
  have h := List.all_eq_true.mp h1 c hc
  rcases Bool.eq_false_or_eq_true (isCode c) with hi | hi
  · exact h2 c (List.mem_filter.mpr ⟨hc, hi⟩)
  · simpa [hi] using h
set_option maxRecDepth 65536 in
theorem w_c0 : (Jvm.Cond.code x code maxLocals ret).before args0 about1 = true := code_word (m := ⟨1, 1⟩) (meth := k1m1) (c := k1c1) (by decide +kernel) rfl rfl rfl (by decide +kernel)
set_option maxRecDepth 65536 in
theorem w_c1 : (Jvm.Cond.code ({ cls := "com/example/koppel/koppel/weighting/TermVector", name := "<init>", desc := "([I[DDD)V" } : Jvm.MethodName) prog_26_method_1_code (7 : Nat) (Option.none : Option Jvm.ClassFile.FieldType)).before args0 about1 = true := code_word (m := ⟨3, 0⟩) (meth := k3m0) (c := k3c0) (by decide +kernel) rfl rfl rfl (by decide +kernel)
set_option maxRecDepth 65536 in
theorem w_c2 : (Jvm.Cond.code ({ cls := "java/lang/Record", name := "<init>", desc := "()V" } : Jvm.MethodName) jdk_30_method_1_code (1 : Nat) (Option.none : Option Jvm.ClassFile.FieldType)).before args0 about1 = true := code_word (m := ⟨2, 0⟩) (meth := k2m0) (c := k2c0) (by decide +kernel) rfl rfl rfl (by decide +kernel)
set_option maxRecDepth 65536 in
theorem w_c3 : (Jvm.Cond.code ({ cls := "java/lang/Object", name := "<init>", desc := "()V" } : Jvm.MethodName) object_method_1_code (1 : Nat) (Option.none : Option Jvm.ClassFile.FieldType)).before args0 about1 = true := code_word (m := ⟨0, 0⟩) (meth := k0m0) (c := k0c0) (by decide +kernel) rfl rfl rfl (by decide +kernel)
set_option maxRecDepth 65536 in
theorem w_c4 : (Jvm.Cond.code ({ cls := "com/example/koppel/koppel/weighting/TermVector", name := "isZero", desc := "()Z" } : Jvm.MethodName) prog_26_method_2_code (1 : Nat) (Option.some Jvm.ClassFile.FieldType.boolean)).before args0 about1 = true := code_word (m := ⟨3, 1⟩) (meth := k3m1) (c := k3c1) (by decide +kernel) rfl rfl rfl (by decide +kernel)
def codes1 : List Jvm.Cond := [Jvm.Cond.code x code maxLocals ret, Jvm.Cond.code ({ cls := "com/example/koppel/koppel/weighting/TermVector", name := "<init>", desc := "([I[DDD)V" } : Jvm.MethodName) prog_26_method_1_code (7 : Nat) (Option.none : Option Jvm.ClassFile.FieldType), Jvm.Cond.code ({ cls := "java/lang/Record", name := "<init>", desc := "()V" } : Jvm.MethodName) jdk_30_method_1_code (1 : Nat) (Option.none : Option Jvm.ClassFile.FieldType), Jvm.Cond.code ({ cls := "java/lang/Object", name := "<init>", desc := "()V" } : Jvm.MethodName) object_method_1_code (1 : Nat) (Option.none : Option Jvm.ClassFile.FieldType), Jvm.Cond.code ({ cls := "com/example/koppel/koppel/weighting/TermVector", name := "isZero", desc := "()Z" } : Jvm.MethodName) prog_26_method_2_code (1 : Nat) (Option.some Jvm.ClassFile.FieldType.boolean)]
set_option maxRecDepth 65536 in
theorem codes_eq : words1.filter isCode = codes1 := rfl
theorem w_codes : ∀ c ∈ words1.filter isCode, c.before args0 about1 = true := by
  rw [codes_eq]
  intro c hc
  simp only [codes1, List.mem_cons, List.not_mem_nil, or_false] at hc
  rcases hc with rfl | rfl | rfl | rfl | rfl
  · exact w_c0
  · exact w_c1
  · exact w_c2
  · exact w_c3
  · exact w_c4
set_option maxRecDepth 65536 in
theorem w_t1 : (words1.take 24).all (fun c => isCode c || c.before args0 about1) = true := by decide +kernel
set_option maxRecDepth 65536 in
theorem w_t2 : (words1.drop 24).all (fun c => isCode c || c.before args0 about1) = true := by decide +kernel
theorem w_tables : (allAtoms (Jvm.Cond.code x code maxLocals ret :: tables_1)).before args0 about1 = true := by
  rw [allAtoms_all]
  show words1.all (fun c => c.before args0 about1) = true
  refine all_split ?_ w_codes
  rw [← List.take_append_drop 24 words1, List.all_append, w_t1, w_t2]
  rfl
set_option maxRecDepth 65536 in
theorem w_case : (Jvm.Cond.and given_1 narrow_1).before args0 about1 = true := by decide +kernel
theorem w_applies : (headSpec (Jvm.Cond.code x code maxLocals ret :: tables_1) room_1).applies x e0.platform about1 = true :=
  (Spec.applies_iff w_frames).mpr ⟨w_running, w_runnable, w_alone, w_named, w_hears, w_ripe, w_room, w_tables⟩
theorem atStart : AtStart classFile x code maxLocals ret World_1 tables_1 room_1 Calls_1 rest_1 Pre_1 launch0 p0 e0 about1 theMethod args0 below0 :=
  ⟨lists_1, trivial, launch0.admits_env _ _ _, launch0.least_env, fairChoices_fair.cas, fairChoices_fair.clock, w_frames, w_args, w_heap, w_applies, trivial, trivial, w_case⟩
end start1
theorem witness_1 : WitnessClaimed_1 := ⟨start1.p0, start1.e0, start1.about1, start1.theMethod, start1.args0, start1.below0, start1.atStart⟩
end Jvm.Pilot.@@N@@
