import JvmDerived
import JvmDerived.Pilot.@@N@@Statement
import JvmDerived.Pilot.@@N@@Code
set_option linter.unusedVariables false
set_option linter.unusedSimpArgs false
namespace Jvm.Pilot.@@N@@
open Jvm Jvm.ClassFile Sem Op Lib Jvm.Free Jvm.Stand Jvm.LawKit Jvm.RoadKit Jvm.Free.Fl Bundle Jvm.Pilot.@@N@@.Jvm.D
/-- from here the run comes to some end at which G holds -/
def Gl (tb : Tables) (e : Env) (below : List Frame) (T : State) (g : JFrame) (G : State → Prop) : Prop := ∃ s₂, Steps tb e below (T.setTop g) s₂ ∧ G s₂
theorem Gl.via {tb : Tables} {e : Env} {below : List Frame} {T T' : State} {g g' : JFrame} {G : State → Prop} (st : ∀ t, Steps tb e below (T'.setTop g') t → Steps tb e below (T.setTop g) t) (k : Gl tb e below T' g' G) : Gl tb e below T g G := by
  obtain ⟨s₂, h1, h2⟩ := k
  exact ⟨s₂, st _ h1, h2⟩
theorem Gl.fin {tb : Tables} {e : Env} {below : List Frame} {T U : State} {g : JFrame} {G : State → Prop} (st : Steps tb e below (T.setTop g) U) (k : G U) : Gl tb e below T g G := ⟨U, st, k⟩
theorem own_arr0 {Z : State} {args : Array Value} {t : Term} {a : Addr} {ty : FieldType} {dv : Value} (hf : Fit Z) (ev : t.eval args Z none [] Z = some (.ref a)) (hA : (Jvm.Cond.arrayOf t ty).value args Z none Z [] = some true) (hl : (Jvm.Cond.eq (Term.length t) (Term.int (0 : Int32))).value args Z none Z [] = some true) : ∃ k, Arv Z Z.heap a k ty (0 : Int32) [] dv := by
  obtain ⟨c, A⟩ := Arr.start ev hA
  have hlen := eqv_i (Term.int_eval _) hl
  have hat := A.fin (Vm.Alike.refl _)
  have q : c.slots.size < 2 ^ 31 ∧ c.slots.size.toInt32 = 0 := by
    simp only [Term.eval, ev, hat, Option.bind_eq_bind, Option.bind_some] at hlen
    by_cases hs : c.slots.size < 2 ^ 31
    · simp [hs] at hlen
      exact ⟨hs, hlen⟩
    · simp [hs] at hlen
  exact ⟨c.cls, Arv.start hf A q.1 q.2 (by decide) rfl trivial⟩
theorem own_chr (x : Int32) : ¬ ((255 : Int32) < (x &&& (255 : Int32)).toUInt32.toUInt16.toUInt32.toInt32) := by
  rw [i2c_mask]
  have h := (c_and x 255 (by decide)).2
  rw [Int32.lt_iff_toInt_lt]
  have e : (255 : Int32).toInt = 255 := by decide
  omega
theorem own_two {n : Int32} (h : n < (2 : Int32)) : ¬ ((1 : Int32) < n) := by
  have e : n.toInt < 2 := Int32.lt_iff_toInt_lt.mp h
  intro q
  have e2 : 1 < n.toInt := Int32.lt_iff_toInt_lt.mp q
  omega
theorem own_two' {n : Int32} (h : ¬ (n < (2 : Int32))) : (1 : Int32) < n := by
  have e : ¬ n.toInt < 2 := fun q => h (Int32.lt_iff_toInt_lt.mpr q)
  exact Int32.lt_iff_toInt_lt.mpr (show (1 : Int) < n.toInt by omega)
theorem pn_0 : plainName "java/lang/Record" = true := by first | (simp [plainName, overriddenIn]; done) | decide +kernel
theorem d10_0 : decode jdk_30_method_1_code 0 = .ok (.aload_n 0, 1) := by decide +kernel
theorem d10_1 : decode jdk_30_method_1_code 1 = .ok (.invokespecial 1, 3) := by decide +kernel
theorem d10_4 : decode jdk_30_method_1_code 4 = .ok (.return_, 1) := by decide +kernel
theorem ef_rec_init (m : MethodId) (x0 : Addr) : entryFrame m #[(.ref x0)] 1 = mkF m 0 #[.val (.ref x0)] [] := by first | (simp [entryFrame, mkF, argsToLocals, Value.category]; done) | rfl
def Q_rec_init (Z : State) (ra : Addr) (h0 : Heap) (n0 : Nat) (v : Option Value) (h : Heap) (L : List Loc) : Prop := v = none ∧ Fr n0 L ∧ h = h0
set_option maxRecDepth 65536 in
set_option maxHeartbeats 40000000 in
theorem rec_init (l : Launch) (Z : State) (a0 : Array Value) (hw : ∀ d ∈ tables_1, d.before a0 Z = true) (ws : List Jvm.Cond) (ra : Addr) (h0 : Heap) (n0 : Nat) (Z0 : n0 ≤ h0.size) :
    MetFree l (⟨"java/lang/Record", "<init>", "()V"⟩ : MethodName) (head1 (Jvm.Cond.code (⟨"java/lang/Record", "<init>", "()V"⟩ : MethodName) jdk_30_method_1_code 1 none :: ws) ({ frames := 1, cells := 0, slots := 0, locals := 12 } : Room)) (fun a U => a = #[(.ref ra)] ∧ Z.Warmed39 U.vm ∧ U.heap = h0) (fun _ _ _ _ _ => True) (fun _ U o U' => ∃ v L, o = .returned v ∧ Q_rec_init Z ra h0 n0 v U'.heap L ∧ FrameEnd U o U' L ({ frames := 1, cells := 0, slots := 0, locals := 12 } : Room).cells ({ frames := 1, cells := 0, slots := 0, locals := 12 } : Room).slots) := by
  refine MetFree.of_bodySF (plainFor_of_name pn_0) hisR ?_
  intro p e s m args below meth c s₁ Bd hml0 hP hK
  obtain ⟨rfl, hZ, hh⟩ := hP
  have hx := Bd.exec
  have hby := Bd.bytes
  have hml : c.maxLocals = 1 := hml0
  have hown : s.vm.findClass "java/lang/Record" = some m.cls := findClass_of_methodNamed Bd.named
  have hnm := (name_of_methodNamed Bd.named Bd.method).1
  have X0 : Stand p l e ({ frames := 1, cells := 0, slots := 0, locals := 12 } : Room) s m #[(.ref ra)] below meth c s₁ [] 0 0 := Stand.of_body Bd
  have e0 : s₁.heap = h0 := by rw [← hh, Bd.state]; rfl
  have N0 := Fr.nil n0
  obtain ⟨G, hG⟩ : ∃ G : State → Prop, G = (fun U' => ∃ o, U'.status = .running ∧ Ended U' below o ∧ ∃ v L, o = .returned v ∧ Q_rec_init Z ra h0 n0 v U'.heap L ∧ FrameEnd s o U' L ({ frames := 1, cells := 0, slots := 0, locals := 12 } : Room).cells ({ frames := 1, cells := 0, slots := 0, locals := 12 } : Room).slots) := ⟨_, rfl⟩
  suffices key : Gl p.tables e below s₁ (mkF m 0 #[.val (.ref ra)] []) G by
    obtain ⟨s₂, k1, k2⟩ := key
    rw [hG] at k2
    obtain ⟨o, k3, k4, k5⟩ := k2
    exact ⟨s₂, o, castTop (ef_rec_init m ra) k1, k3, k4, k5⟩
  show Gl p.tables e below s₁ (mkF m 0 #[.val (.ref ra)] []) G
  refine Gl.via (fun _ k => XS.aloadN X0.here hx rfl (hb hby d10_0) rfl rfl k) ?_
  show Gl p.tables e below s₁ (mkF m 1 #[.val (.ref ra)] [(.ref ra)]) G
  obtain ⟨T1, X1, e1, st1⟩ := initO X0 hx hZ hown (hw _ (List.mem_of_getElem? (i := 61) rfl)) (hw _ (List.mem_of_getElem? (i := 19) rfl)) (hw _ (List.mem_of_getElem? (i := 20) rfl)) e0 (g := (mkF m 1 #[.val (.ref ra)] [(.ref ra)])) rfl (by rw [hml]; rfl) rfl (hb hby d10_1) (by decide) (W := 0) (by show 2 * 0 + _ ≤ _; exact Nat.le_of_eq rfl) (by decide)
  refine Gl.via st1 ?_
  show Gl p.tables e below T1 (mkF m 4 #[.val (.ref ra)] []) G
  obtain ⟨fs, hr, hrun, hended, hW, hsame⟩ := X1.leave (v := none) (fun _ => rfl)
  have hq : ∀ L, Fr n0 L → Q_rec_init Z ra h0 n0 (none) T1.heap L := by
    intro L hN
    rw [e1]
    exact ⟨rfl, hN, rfl⟩
  rw [hG]
  exact Gl.fin (X1.returnOut hx Bd.returns (hb hby d10_4) hr) ⟨_, hrun, hended, _, _, rfl, hq _ N0, ⟨_, rfl⟩, hW, hsame.mono (by decide) (by decide)⟩
theorem pn_1 : plainName "java/util/AbstractCollection" = true := by first | (simp [plainName, overriddenIn]; done) | decide +kernel
theorem d3_0 : decode jdk_22_method_1_code 0 = .ok (.aload_n 0, 1) := by decide +kernel
theorem d3_1 : decode jdk_22_method_1_code 1 = .ok (.invokespecial 1, 3) := by decide +kernel
theorem d3_4 : decode jdk_22_method_1_code 4 = .ok (.return_, 1) := by decide +kernel
theorem ef_ac_init (m : MethodId) (x0 : Addr) : entryFrame m #[(.ref x0)] 1 = mkF m 0 #[.val (.ref x0)] [] := by first | (simp [entryFrame, mkF, argsToLocals, Value.category]; done) | rfl
def Q_ac_init (Z : State) (ra : Addr) (h0 : Heap) (n0 : Nat) (v : Option Value) (h : Heap) (L : List Loc) : Prop := v = none ∧ Fr n0 L ∧ h = h0
set_option maxRecDepth 65536 in
set_option maxHeartbeats 40000000 in
theorem ac_init (l : Launch) (Z : State) (a0 : Array Value) (hw : ∀ d ∈ tables_1, d.before a0 Z = true) (ws : List Jvm.Cond) (ra : Addr) (h0 : Heap) (n0 : Nat) (Z0 : n0 ≤ h0.size) :
    MetFree l (⟨"java/util/AbstractCollection", "<init>", "()V"⟩ : MethodName) (head1 (Jvm.Cond.code (⟨"java/util/AbstractCollection", "<init>", "()V"⟩ : MethodName) jdk_22_method_1_code 1 none :: ws) ({ frames := 1, cells := 0, slots := 0, locals := 12 } : Room)) (fun a U => a = #[(.ref ra)] ∧ Z.Warmed39 U.vm ∧ U.heap = h0) (fun _ _ _ _ _ => True) (fun _ U o U' => ∃ v L, o = .returned v ∧ Q_ac_init Z ra h0 n0 v U'.heap L ∧ FrameEnd U o U' L ({ frames := 1, cells := 0, slots := 0, locals := 12 } : Room).cells ({ frames := 1, cells := 0, slots := 0, locals := 12 } : Room).slots) := by
  refine MetFree.of_bodySF (plainFor_of_name pn_1) hisR ?_
  intro p e s m args below meth c s₁ Bd hml0 hP hK
  obtain ⟨rfl, hZ, hh⟩ := hP
  have hx := Bd.exec
  have hby := Bd.bytes
  have hml : c.maxLocals = 1 := hml0
  have hown : s.vm.findClass "java/util/AbstractCollection" = some m.cls := findClass_of_methodNamed Bd.named
  have hnm := (name_of_methodNamed Bd.named Bd.method).1
  have X0 : Stand p l e ({ frames := 1, cells := 0, slots := 0, locals := 12 } : Room) s m #[(.ref ra)] below meth c s₁ [] 0 0 := Stand.of_body Bd
  have e0 : s₁.heap = h0 := by rw [← hh, Bd.state]; rfl
  have N0 := Fr.nil n0
  obtain ⟨G, hG⟩ : ∃ G : State → Prop, G = (fun U' => ∃ o, U'.status = .running ∧ Ended U' below o ∧ ∃ v L, o = .returned v ∧ Q_ac_init Z ra h0 n0 v U'.heap L ∧ FrameEnd s o U' L ({ frames := 1, cells := 0, slots := 0, locals := 12 } : Room).cells ({ frames := 1, cells := 0, slots := 0, locals := 12 } : Room).slots) := ⟨_, rfl⟩
  suffices key : Gl p.tables e below s₁ (mkF m 0 #[.val (.ref ra)] []) G by
    obtain ⟨s₂, k1, k2⟩ := key
    rw [hG] at k2
    obtain ⟨o, k3, k4, k5⟩ := k2
    exact ⟨s₂, o, castTop (ef_ac_init m ra) k1, k3, k4, k5⟩
  show Gl p.tables e below s₁ (mkF m 0 #[.val (.ref ra)] []) G
  refine Gl.via (fun _ k => XS.aloadN X0.here hx rfl (hb hby d3_0) rfl rfl k) ?_
  show Gl p.tables e below s₁ (mkF m 1 #[.val (.ref ra)] [(.ref ra)]) G
  obtain ⟨T1, X1, e1, st1⟩ := initO X0 hx hZ hown (hw _ (List.mem_of_getElem? (i := 18) rfl)) (hw _ (List.mem_of_getElem? (i := 19) rfl)) (hw _ (List.mem_of_getElem? (i := 20) rfl)) e0 (g := (mkF m 1 #[.val (.ref ra)] [(.ref ra)])) rfl (by rw [hml]; rfl) rfl (hb hby d3_1) (by decide) (W := 0) (by show 2 * 0 + _ ≤ _; exact Nat.le_of_eq rfl) (by decide)
  refine Gl.via st1 ?_
  show Gl p.tables e below T1 (mkF m 4 #[.val (.ref ra)] []) G
  obtain ⟨fs, hr, hrun, hended, hW, hsame⟩ := X1.leave (v := none) (fun _ => rfl)
  have hq : ∀ L, Fr n0 L → Q_ac_init Z ra h0 n0 (none) T1.heap L := by
    intro L hN
    rw [e1]
    exact ⟨rfl, hN, rfl⟩
  rw [hG]
  exact Gl.fin (X1.returnOut hx Bd.returns (hb hby d3_4) hr) ⟨_, hrun, hended, _, _, rfl, hq _ N0, ⟨_, rfl⟩, hW, hsame.mono (by decide) (by decide)⟩
theorem pn_2 : plainName "java/util/AbstractList" = true := by first | (simp [plainName, overriddenIn]; done) | decide +kernel
theorem d2_0 : decode jdk_39_method_1_code 0 = .ok (.aload_n 0, 1) := by decide +kernel
theorem d2_1 : decode jdk_39_method_1_code 1 = .ok (.invokespecial 1, 3) := by decide +kernel
theorem pd_0 : parseMethodDescriptor "()V" = some ⟨[], none⟩ := by decide +kernel
theorem d2_4 : decode jdk_39_method_1_code 4 = .ok (.aload_n 0, 1) := by decide +kernel
theorem d2_5 : decode jdk_39_method_1_code 5 = .ok (.iconst 0, 1) := by decide +kernel
theorem d2_6 : decode jdk_39_method_1_code 6 = .ok (.putfield 7, 3) := by decide +kernel
theorem d2_9 : decode jdk_39_method_1_code 9 = .ok (.return_, 1) := by decide +kernel
theorem ef_al_init (m : MethodId) (x0 : Addr) : entryFrame m #[(.ref x0)] 1 = mkF m 0 #[.val (.ref x0)] [] := by first | (simp [entryFrame, mkF, argsToLocals, Value.category]; done) | rfl
def Q_al_init (Z : State) (aa : Addr) (u1 : Value) (u2 : Value) (u3 : Value) (h0 : Heap) (n0 : Nat) (v : Option Value) (h : Heap) (L : List Loc) : Prop := v = none ∧ Fr n0 L ∧ Keep h0 h [aa] ∧ Exa Z h aa "java/util/ArrayList" ∧ Fld Z h aa "java/util/AbstractList" "modCount" "I" (.int (0 : Int32)) ∧ Fld Z h aa "java/util/ArrayList" "elementData" "[Ljava/lang/Object;" u2 ∧ Fld Z h aa "java/util/ArrayList" "size" "I" u3
set_option maxRecDepth 65536 in
set_option maxHeartbeats 40000000 in
theorem al_init (l : Launch) (Z : State) (a0 : Array Value) (hw : ∀ d ∈ tables_1, d.before a0 Z = true) (ws : List Jvm.Cond) (aa : Addr) (u1 : Value) (u2 : Value) (u3 : Value) (h0 : Heap) (n0 : Nat) (Z0 : n0 ≤ h0.size) (F0_aa : Exa Z h0 aa "java/util/ArrayList") (F1_aa_modCount : Fld Z h0 aa "java/util/AbstractList" "modCount" "I" u1) (F2_aa_elementData : Fld Z h0 aa "java/util/ArrayList" "elementData" "[Ljava/lang/Object;" u2) (F3_aa_size : Fld Z h0 aa "java/util/ArrayList" "size" "I" u3) (hp0 : n0 ≤ aa) :
    MetFree l (⟨"java/util/AbstractList", "<init>", "()V"⟩ : MethodName) (head1 (Jvm.Cond.code (⟨"java/util/AbstractList", "<init>", "()V"⟩ : MethodName) jdk_39_method_1_code 1 none :: ws) ({ frames := 2, cells := 0, slots := 0, locals := 24 } : Room)) (fun a U => a = #[(.ref aa)] ∧ Z.Warmed39 U.vm ∧ U.heap = h0) (fun _ _ _ _ _ => True) (fun _ U o U' => ∃ v L, o = .returned v ∧ Q_al_init Z aa u1 u2 u3 h0 n0 v U'.heap L ∧ FrameEnd U o U' L ({ frames := 2, cells := 0, slots := 0, locals := 24 } : Room).cells ({ frames := 2, cells := 0, slots := 0, locals := 24 } : Room).slots) := by
  refine MetFree.of_bodySF (plainFor_of_name pn_2) hisR ?_
  intro p e s m args below meth c s₁ Bd hml0 hP hK
  obtain ⟨rfl, hZ, hh⟩ := hP
  have hx := Bd.exec
  have hby := Bd.bytes
  have hml : c.maxLocals = 1 := hml0
  have hown : s.vm.findClass "java/util/AbstractList" = some m.cls := findClass_of_methodNamed Bd.named
  have hnm := (name_of_methodNamed Bd.named Bd.method).1
  have X0 : Stand p l e ({ frames := 2, cells := 0, slots := 0, locals := 24 } : Room) s m #[(.ref aa)] below meth c s₁ [] 0 0 := Stand.of_body Bd
  have e0 : s₁.heap = h0 := by rw [← hh, Bd.state]; rfl
  have N0 := Fr.nil n0
  obtain ⟨G, hG⟩ : ∃ G : State → Prop, G = (fun U' => ∃ o, U'.status = .running ∧ Ended U' below o ∧ ∃ v L, o = .returned v ∧ Q_al_init Z aa u1 u2 u3 h0 n0 v U'.heap L ∧ FrameEnd s o U' L ({ frames := 2, cells := 0, slots := 0, locals := 24 } : Room).cells ({ frames := 2, cells := 0, slots := 0, locals := 24 } : Room).slots) := ⟨_, rfl⟩
  suffices key : Gl p.tables e below s₁ (mkF m 0 #[.val (.ref aa)] []) G by
    obtain ⟨s₂, k1, k2⟩ := key
    rw [hG] at k2
    obtain ⟨o, k3, k4, k5⟩ := k2
    exact ⟨s₂, o, castTop (ef_al_init m aa) k1, k3, k4, k5⟩
  show Gl p.tables e below s₁ (mkF m 0 #[.val (.ref aa)] []) G
  refine Gl.via (fun _ k => XS.aloadN X0.here hx rfl (hb hby d2_0) rfl rfl k) ?_
  show Gl p.tables e below s₁ (mkF m 1 #[.val (.ref aa)] [(.ref aa)]) G
  obtain ⟨_, _, ⟨T1, L1, k1, n1⟩, -, X1, ⟨Lc1, hQ1, l1, y1, z1⟩, st1⟩ := X0.specialBack hx (y := (⟨"java/util/AbstractCollection", "<init>", "()V"⟩ : MethodName)) rfl hown (mvT hZ (hw _ (List.mem_of_getElem? (i := 12) rfl))) (mvT hZ (hw _ (List.mem_of_getElem? (i := 13) rfl))) (mvT hZ (hw _ (List.mem_of_getElem? (i := 17) rfl))) (by decide) (backOf (W := 0) (ac_init l Z a0 hw [] aa h0 n0 Z0 ) hZ (hw _ (List.mem_of_getElem? (i := 17) rfl)) (hw _ (List.mem_of_getElem? (i := 16) rfl)) (by decide) (by decide)) (g := (mkF m 1 #[.val (.ref aa)] [(.ref aa)])) rfl (by rw [hml]; rfl) (Steps.refl _) (a := aa) (argsL := []) (rest := []) (lenOf pd_0 rfl) rfl (by show 2 * 0 + _ ≤ _; exact Nat.le_of_eq rfl) (hb hby d2_1) (fun _ _ => ⟨rfl, e0, (by decide : 0 + 0 ≤ _), (by decide : 0 + 0 ≤ _)⟩)
  dsimp only [Pt.U, Pt.locs, Pt.cells, Pt.slots] at X1 l1 y1 z1 st1 hQ1
  subst l1 y1 z1
  obtain ⟨rfl, N1q, eh1⟩ := hQ1
  have N1_ := Fr.app N0 N1q
  refine Gl.via (fun _ k => st1.trans k) ?_
  show Gl p.tables e below T1 (mkF m 4 #[.val (.ref aa)] []) G
  refine Gl.via (fun _ k => XS.aloadN X1.here hx rfl (hb hby d2_4) rfl rfl k) ?_
  show Gl p.tables e below T1 (mkF m 5 #[.val (.ref aa)] [(.ref aa)]) G
  refine Gl.via (fun _ k => XS.iconst X1.here hx rfl (hb hby d2_5) k) ?_
  show Gl p.tables e below T1 (mkF m 6 #[.val (.ref aa)] [(.int (0 : Int32)), (.ref aa)]) G
  obtain ⟨T2, h2, X2, e2, W2, st2⟩ := putF X1 hx hZ hown (host := "") (Or.inl (hw _ (List.mem_of_getElem? (i := 21) rfl))) Via.refl eh1 F1_aa_modCount F0_aa (Or.inl (hw _ (List.mem_of_getElem? (i := 22) rfl))) (hw _ (List.mem_of_getElem? (i := 1) rfl)) (ty := .int) (by decide) rfl rfl (g := (mkF m 6 #[.val (.ref aa)] [(.int (0 : Int32)), (.ref aa)])) rfl rfl (hb hby d2_6)
  refine Gl.via st2 ?_
  have N2_ := Fr.snoc X2 N1_ hp0
  have Z3 : n0 ≤ h2.size := Nat.le_trans Z0 (Keep.of_wr W2).1
  have Y4 : h0.size ≤ h2.size := Nat.le_trans (Nat.le_refl h0.size) (Keep.of_wr W2).1
  show Gl p.tables e below T2 (mkF m 9 #[.val (.ref aa)] []) G
  obtain ⟨fs, hr, hrun, hended, hW, hsame⟩ := X2.leave (v := none) (fun _ => rfl)
  have G5 : Exa Z h2 aa "java/util/ArrayList" := (F0_aa.wr W2)
  have G6 : Fld Z h2 aa "java/util/ArrayList" "elementData" "[Ljava/lang/Object;" u2 := (F2_aa_elementData.other W2 (Or.inr (slot_ne (Or.inl (hw _ (List.mem_of_getElem? (i := 25) rfl))) (Or.inl (hw _ (List.mem_of_getElem? (i := 22) rfl))) (by decide) (t := (.array (.object "java/lang/Object"))) (t' := .int) (by decide) (by decide))))
  have G7 : Fld Z h2 aa "java/util/ArrayList" "size" "I" u3 := (F3_aa_size.other W2 (Or.inr (slot_ne (Or.inl (hw _ (List.mem_of_getElem? (i := 82) rfl))) (Or.inl (hw _ (List.mem_of_getElem? (i := 22) rfl))) (by decide) (t := .int) (t' := .int) (by decide) (by decide))))
  have hq : ∀ L, Fr n0 L → Q_al_init Z aa u1 u2 u3 h0 n0 (none) T2.heap L := by
    intro L hN
    rw [e2]
    exact ⟨rfl, hN, ((Keep.refl h0 [aa]).wr W2 (Or.inl (List.mem_of_getElem? (i := 0) rfl))), G5, (Fld.same W2 F1_aa_modCount), G6, G7⟩
  rw [hG]
  exact Gl.fin (X2.returnOut hx Bd.returns (hb hby d2_9) hr) ⟨_, hrun, hended, _, _, rfl, hq _ N2_, ⟨_, rfl⟩, hW, hsame.mono (by decide) (by decide)⟩
theorem pn_3 : plainName "java/util/ArrayList" = true := by first | (simp [plainName, overriddenIn]; done) | decide +kernel
theorem d1_0 : decode jdk_38_method_2_code 0 = .ok (.aload_n 0, 1) := by decide +kernel
theorem d1_1 : decode jdk_38_method_2_code 1 = .ok (.invokespecial 1, 3) := by decide +kernel
theorem d1_4 : decode jdk_38_method_2_code 4 = .ok (.aload_n 0, 1) := by decide +kernel
theorem d1_5 : decode jdk_38_method_2_code 5 = .ok (.getstatic 39, 3) := by decide +kernel
theorem d1_8 : decode jdk_38_method_2_code 8 = .ok (.putfield 9, 3) := by decide +kernel
theorem d1_11 : decode jdk_38_method_2_code 11 = .ok (.return_, 1) := by decide +kernel
theorem ef_l_init (m : MethodId) (x0 : Addr) : entryFrame m #[(.ref x0)] 1 = mkF m 0 #[.val (.ref x0)] [] := by first | (simp [entryFrame, mkF, argsToLocals, Value.category]; done) | rfl
def Q_l_init (Z : State) (aa : Addr) (da : Addr) (u1 : Value) (u2 : Value) (u3 : Value) (h0 : Heap) (n0 : Nat) (v : Option Value) (h : Heap) (L : List Loc) : Prop := v = none ∧ Fr n0 L ∧ Keep h0 h [aa] ∧ Exa Z h aa "java/util/ArrayList" ∧ Fld Z h aa "java/util/AbstractList" "modCount" "I" (.int (0 : Int32)) ∧ Fld Z h aa "java/util/ArrayList" "elementData" "[Ljava/lang/Object;" (.ref da) ∧ Fld Z h aa "java/util/ArrayList" "size" "I" u3
set_option maxRecDepth 65536 in
set_option maxHeartbeats 40000000 in
theorem l_init (l : Launch) (Z : State) (a0 : Array Value) (hw : ∀ d ∈ tables_1, d.before a0 Z = true) (ws : List Jvm.Cond) (aa : Addr) (da : Addr) (u1 : Value) (u2 : Value) (u3 : Value) (h0 : Heap) (n0 : Nat) (Z0 : n0 ≤ h0.size) (F0_aa : Exa Z h0 aa "java/util/ArrayList") (F1_aa_modCount : Fld Z h0 aa "java/util/AbstractList" "modCount" "I" u1) (F2_aa_elementData : Fld Z h0 aa "java/util/ArrayList" "elementData" "[Ljava/lang/Object;" u2) (F3_aa_size : Fld Z h0 aa "java/util/ArrayList" "size" "I" u3) (F4_java_util_ArrayList : Sta Z Z.heap "java/util/ArrayList" "DEFAULTCAPACITY_EMPTY_ELEMENTDATA" "[Ljava/lang/Object;" (.ref da)) (F5_ : Old Z n0 h0) (hp0 : n0 ≤ aa) :
    MetFree l (⟨"java/util/ArrayList", "<init>", "()V"⟩ : MethodName) (head1 (Jvm.Cond.code (⟨"java/util/ArrayList", "<init>", "()V"⟩ : MethodName) jdk_38_method_2_code 1 none :: ws) ({ frames := 3, cells := 0, slots := 0, locals := 36 } : Room)) (fun a U => a = #[(.ref aa)] ∧ Z.Warmed39 U.vm ∧ U.heap = h0) (fun _ _ _ _ _ => True) (fun _ U o U' => ∃ v L, o = .returned v ∧ Q_l_init Z aa da u1 u2 u3 h0 n0 v U'.heap L ∧ FrameEnd U o U' L ({ frames := 3, cells := 0, slots := 0, locals := 36 } : Room).cells ({ frames := 3, cells := 0, slots := 0, locals := 36 } : Room).slots) := by
  refine MetFree.of_bodySF (plainFor_of_name pn_3) hisR ?_
  intro p e s m args below meth c s₁ Bd hml0 hP hK
  obtain ⟨rfl, hZ, hh⟩ := hP
  have hx := Bd.exec
  have hby := Bd.bytes
  have hml : c.maxLocals = 1 := hml0
  have hown : s.vm.findClass "java/util/ArrayList" = some m.cls := findClass_of_methodNamed Bd.named
  have hnm := (name_of_methodNamed Bd.named Bd.method).1
  have X0 : Stand p l e ({ frames := 3, cells := 0, slots := 0, locals := 36 } : Room) s m #[(.ref aa)] below meth c s₁ [] 0 0 := Stand.of_body Bd
  have e0 : s₁.heap = h0 := by rw [← hh, Bd.state]; rfl
  have N0 := Fr.nil n0
  obtain ⟨G, hG⟩ : ∃ G : State → Prop, G = (fun U' => ∃ o, U'.status = .running ∧ Ended U' below o ∧ ∃ v L, o = .returned v ∧ Q_l_init Z aa da u1 u2 u3 h0 n0 v U'.heap L ∧ FrameEnd s o U' L ({ frames := 3, cells := 0, slots := 0, locals := 36 } : Room).cells ({ frames := 3, cells := 0, slots := 0, locals := 36 } : Room).slots) := ⟨_, rfl⟩
  suffices key : Gl p.tables e below s₁ (mkF m 0 #[.val (.ref aa)] []) G by
    obtain ⟨s₂, k1, k2⟩ := key
    rw [hG] at k2
    obtain ⟨o, k3, k4, k5⟩ := k2
    exact ⟨s₂, o, castTop (ef_l_init m aa) k1, k3, k4, k5⟩
  show Gl p.tables e below s₁ (mkF m 0 #[.val (.ref aa)] []) G
  refine Gl.via (fun _ k => XS.aloadN X0.here hx rfl (hb hby d1_0) rfl rfl k) ?_
  show Gl p.tables e below s₁ (mkF m 1 #[.val (.ref aa)] [(.ref aa)]) G
  obtain ⟨_, _, ⟨T1, L1, k1, n1⟩, -, X1, ⟨Lc1, hQ1, l1, y1, z1⟩, st1⟩ := X0.specialBack hx (y := (⟨"java/util/AbstractList", "<init>", "()V"⟩ : MethodName)) rfl hown (mvT hZ (hw _ (List.mem_of_getElem? (i := 6) rfl))) (mvT hZ (hw _ (List.mem_of_getElem? (i := 7) rfl))) (mvT hZ (hw _ (List.mem_of_getElem? (i := 11) rfl))) (by decide) (backOf (W := 0) (al_init l Z a0 hw [] aa u1 u2 u3 h0 n0 Z0 F0_aa F1_aa_modCount F2_aa_elementData F3_aa_size hp0) hZ (hw _ (List.mem_of_getElem? (i := 11) rfl)) (hw _ (List.mem_of_getElem? (i := 10) rfl)) (by decide) (by decide)) (g := (mkF m 1 #[.val (.ref aa)] [(.ref aa)])) rfl (by rw [hml]; rfl) (Steps.refl _) (a := aa) (argsL := []) (rest := []) (lenOf pd_0 rfl) rfl (by show 2 * 0 + _ ≤ _; exact Nat.le_of_eq rfl) (hb hby d1_1) (fun _ _ => ⟨rfl, e0, (by decide : 0 + 0 ≤ _), (by decide : 0 + 0 ≤ _)⟩)
  dsimp only [Pt.U, Pt.locs, Pt.cells, Pt.slots] at X1 l1 y1 z1 st1 hQ1
  subst l1 y1 z1
  obtain ⟨rfl, N1q, K1, P2, P3, P4, P5⟩ := hQ1
  have N1_ := Fr.app N0 N1q
  refine Gl.via (fun _ k => st1.trans k) ?_
  have Z6 : n0 ≤ T1.heap.size := Nat.le_trans Z0 K1.1
  have Y7 : h0.size ≤ T1.heap.size := Nat.le_trans (Nat.le_refl h0.size) K1.1
  show Gl p.tables e below T1 (mkF m 4 #[.val (.ref aa)] []) G
  refine Gl.via (fun _ k => XS.aloadN X1.here hx rfl (hb hby d1_4) rfl rfl k) ?_
  show Gl p.tables e below T1 (mkF m 5 #[.val (.ref aa)] [(.ref aa)]) G
  have G8 : Old Z n0 T1.heap := (F5_.keep K1 (allS hp0 all0))
  have G9 : Sta Z T1.heap "java/util/ArrayList" "DEFAULTCAPACITY_EMPTY_ELEMENTDATA" "[Ljava/lang/Object;" (.ref da) := F4_java_util_ArrayList.ext G8.2
  obtain ⟨T10, X10, e10, st10⟩ := getS2 X1 hx hZ hown (host := "") (Or.inl (hw _ (List.mem_of_getElem? (i := 23) rfl))) Via.refl rfl G9 (g := (mkF m 5 #[.val (.ref aa)] [(.ref aa)])) rfl (hb hby d1_5)
  refine Gl.via st10 ?_
  show Gl p.tables e below T10 (mkF m 8 #[.val (.ref aa)] [(.ref da), (.ref aa)]) G
  obtain ⟨T11, h11, X11, e11, W11, st11⟩ := putF X10 hx hZ hown (host := "") (Or.inl (hw _ (List.mem_of_getElem? (i := 24) rfl))) Via.refl e10 P4 P2 (Or.inl (hw _ (List.mem_of_getElem? (i := 25) rfl))) (hw _ (List.mem_of_getElem? (i := 1) rfl)) (ty := (.array (.object "java/lang/Object"))) (by decide) rfl rfl (g := (mkF m 8 #[.val (.ref aa)] [(.ref da), (.ref aa)])) rfl rfl (hb hby d1_8)
  refine Gl.via st11 ?_
  have N11_ := Fr.snoc X11 N1_ hp0
  have Z12 : n0 ≤ h11.size := Nat.le_trans Z6 (Keep.of_wr W11).1
  have Y13 : h0.size ≤ h11.size := Nat.le_trans Y7 (Keep.of_wr W11).1
  show Gl p.tables e below T11 (mkF m 11 #[.val (.ref aa)] []) G
  obtain ⟨fs, hr, hrun, hended, hW, hsame⟩ := X11.leave (v := none) (fun _ => rfl)
  have G14 : Exa Z h11 aa "java/util/ArrayList" := (P2.wr W11)
  have G15 : Fld Z h11 aa "java/util/AbstractList" "modCount" "I" (.int (0 : Int32)) := (P3.other W11 (Or.inr (slot_ne (Or.inl (hw _ (List.mem_of_getElem? (i := 22) rfl))) (Or.inl (hw _ (List.mem_of_getElem? (i := 25) rfl))) (by decide) (t := .int) (t' := (.array (.object "java/lang/Object"))) (by decide) (by decide))))
  have G16 : Fld Z h11 aa "java/util/ArrayList" "size" "I" u3 := (P5.other W11 (Or.inr (slot_ne (Or.inl (hw _ (List.mem_of_getElem? (i := 82) rfl))) (Or.inl (hw _ (List.mem_of_getElem? (i := 25) rfl))) (by decide) (t := .int) (t' := (.array (.object "java/lang/Object"))) (by decide) (by decide))))
  have hq : ∀ L, Fr n0 L → Q_l_init Z aa da u1 u2 u3 h0 n0 (none) T11.heap L := by
    intro L hN
    rw [e11]
    exact ⟨rfl, hN, (((Keep.refl h0 [aa]).trans K1 (allS (Or.inl (List.mem_of_getElem? (i := 0) rfl)) all0)).wr W11 (Or.inl (List.mem_of_getElem? (i := 0) rfl))), G14, G15, (Fld.same W11 P4), G16⟩
  rw [hG]
  exact Gl.fin (X11.returnOut hx Bd.returns (hb hby d1_11) hr) ⟨_, hrun, hended, _, _, rfl, hq _ N11_, ⟨_, rfl⟩, hW, hsame.mono (by decide) (by decide)⟩
theorem pn_4 : plainName "java/lang/StringLatin1" = true := by first | (simp [plainName, overriddenIn]; done) | decide +kernel
theorem d6_0 : decode jdk_43_method_3_code 0 = .ok (.iload_n 0, 1) := by decide +kernel
theorem d6_1 : decode jdk_43_method_3_code 1 = .ok (.sipush 255, 3) := by decide +kernel
theorem d6_4 : decode jdk_43_method_3_code 4 = .ok (.if_icmp .gt 7, 3) := by decide +kernel
theorem d6_7 : decode jdk_43_method_3_code 7 = .ok (.iconst 1, 1) := by decide +kernel
theorem d6_8 : decode jdk_43_method_3_code 8 = .ok (.goto 4, 3) := by decide +kernel
theorem d6_12 : decode jdk_43_method_3_code 12 = .ok (.ireturn, 1) := by decide +kernel
theorem ef_canenc (m : MethodId) (x0 : Int32) : entryFrame m #[(.int x0)] 1 = mkF m 0 #[.val (.int x0)] [] := by first | (simp [entryFrame, mkF, argsToLocals, Value.category]; done) | rfl
def Q_canenc (Z : State) (ec : Int32) (h0 : Heap) (n0 : Nat) (v : Option Value) (h : Heap) (L : List Loc) : Prop := v = some (.int (1 : Int32)) ∧ Fr n0 L ∧ h = h0
set_option maxRecDepth 65536 in
set_option maxHeartbeats 40000000 in
theorem canenc (l : Launch) (Z : State) (a0 : Array Value) (hw : ∀ d ∈ tables_1, d.before a0 Z = true) (ws : List Jvm.Cond) (ec : Int32) (h0 : Heap) (n0 : Nat) (Z0 : n0 ≤ h0.size) (he : ¬ ((255 : Int32) < ec)) :
    MetFree l (⟨"java/lang/StringLatin1", "canEncode", "(C)Z"⟩ : MethodName) (head1 (Jvm.Cond.code (⟨"java/lang/StringLatin1", "canEncode", "(C)Z"⟩ : MethodName) jdk_43_method_3_code 1 (some .boolean) :: ws) ({ frames := 0, cells := 0, slots := 0, locals := 0 } : Room)) (fun a U => a = #[(.int ec)] ∧ Z.Warmed39 U.vm ∧ U.heap = h0) (fun _ _ _ _ _ => True) (fun _ U o U' => ∃ v L, o = .returned v ∧ Q_canenc Z ec h0 n0 v U'.heap L ∧ FrameEnd U o U' L ({ frames := 0, cells := 0, slots := 0, locals := 0 } : Room).cells ({ frames := 0, cells := 0, slots := 0, locals := 0 } : Room).slots) := by
  refine MetFree.of_bodySF (plainFor_of_name pn_4) hisR ?_
  intro p e s m args below meth c s₁ Bd hml0 hP hK
  obtain ⟨rfl, hZ, hh⟩ := hP
  have hx := Bd.exec
  have hby := Bd.bytes
  have hml : c.maxLocals = 1 := hml0
  have hown : s.vm.findClass "java/lang/StringLatin1" = some m.cls := findClass_of_methodNamed Bd.named
  have hnm := (name_of_methodNamed Bd.named Bd.method).1
  have X0 : Stand p l e ({ frames := 0, cells := 0, slots := 0, locals := 0 } : Room) s m #[(.int ec)] below meth c s₁ [] 0 0 := Stand.of_body Bd
  have e0 : s₁.heap = h0 := by rw [← hh, Bd.state]; rfl
  have N0 := Fr.nil n0
  obtain ⟨G, hG⟩ : ∃ G : State → Prop, G = (fun U' => ∃ o, U'.status = .running ∧ Ended U' below o ∧ ∃ v L, o = .returned v ∧ Q_canenc Z ec h0 n0 v U'.heap L ∧ FrameEnd s o U' L ({ frames := 0, cells := 0, slots := 0, locals := 0 } : Room).cells ({ frames := 0, cells := 0, slots := 0, locals := 0 } : Room).slots) := ⟨_, rfl⟩
  suffices key : Gl p.tables e below s₁ (mkF m 0 #[.val (.int ec)] []) G by
    obtain ⟨s₂, k1, k2⟩ := key
    rw [hG] at k2
    obtain ⟨o, k3, k4, k5⟩ := k2
    exact ⟨s₂, o, castTop (ef_canenc m ec) k1, k3, k4, k5⟩
  show Gl p.tables e below s₁ (mkF m 0 #[.val (.int ec)] []) G
  refine Gl.via (fun _ k => XS.iloadN X0.here hx rfl (hb hby d6_0) rfl k) ?_
  show Gl p.tables e below s₁ (mkF m 1 #[.val (.int ec)] [(.int ec)]) G
  refine Gl.via (fun _ k => XS.sipush X0.here hx rfl (hb hby d6_1) k) ?_
  show Gl p.tables e below s₁ (mkF m 4 #[.val (.int ec)] [(.int (255 : Int32)), (.int ec)]) G
  refine Gl.via (fun _ k => XS.icmpNo X0.here hx rfl (hb hby d6_4) rfl (flt he).2.2.1 k) ?_
  show Gl p.tables e below s₁ (mkF m 7 #[.val (.int ec)] []) G
  refine Gl.via (fun _ k => XS.iconst X0.here hx rfl (hb hby d6_7) k) ?_
  show Gl p.tables e below s₁ (mkF m 8 #[.val (.int ec)] [(.int (1 : Int32))]) G
  refine Gl.via (fun _ k => XS.goto X0.here hx rfl (pc0 := 8) (pc' := 12) rfl (hb hby d6_8) (by decide) (by decide) k) ?_
  show Gl p.tables e below s₁ (mkF m 12 #[.val (.int ec)] [(.int (1 : Int32))]) G
  obtain ⟨fs, hr, hrun, hended, hW, hsame⟩ := X0.leave (v := some (.int (1 : Int32))) (fun h => by rw [Bd.returns] at h; cases h)
  have hq : ∀ L, Fr n0 L → Q_canenc Z ec h0 n0 (some (.int (1 : Int32))) s₁.heap L := by
    intro L hN
    rw [e0]
    exact ⟨rfl, hN, rfl⟩
  rw [hG]
  exact Gl.fin (retN X0 hx (t := .boolean) Bd.returns (by simp) (hb hby d6_12) hr) ⟨_, hrun, hended, _, _, rfl, hq _ N0, ⟨_, rfl⟩, hW, hsame.mono (by decide) (by decide)⟩
theorem d7_0 : decode jdk_43_method_46_code 0 = .ok (.iconst 1, 1) := by decide +kernel
theorem d7_1 : decode jdk_43_method_46_code 1 = .ok (.newarray .byte, 2) := by decide +kernel
theorem d7_3 : decode jdk_43_method_46_code 3 = .ok (.dup, 1) := by decide +kernel
theorem d7_4 : decode jdk_43_method_46_code 4 = .ok (.iconst 0, 1) := by decide +kernel
theorem d7_5 : decode jdk_43_method_46_code 5 = .ok (.iload_n 0, 1) := by decide +kernel
theorem d7_6 : decode jdk_43_method_46_code 6 = .ok (.i2b, 1) := by decide +kernel
theorem d7_7 : decode jdk_43_method_46_code 7 = .ok (.bastore, 1) := by decide +kernel
theorem d7_8 : decode jdk_43_method_46_code 8 = .ok (.areturn, 1) := by decide +kernel
theorem ef_tobytes (m : MethodId) (x0 : Int32) : entryFrame m #[(.int x0)] 1 = mkF m 0 #[.val (.int x0)] [] := by first | (simp [entryFrame, mkF, argsToLocals, Value.category]; done) | rfl
def Q_tobytes (Z : State) (tc : Int32) (h0 : Heap) (n0 : Nat) (v : Option Value) (h : Heap) (L : List Loc) : Prop := ∃ (b : Addr), v = some (.ref b) ∧ Fr n0 L ∧ Keep h0 h [] ∧ (h0.size ≤ b)
set_option maxRecDepth 65536 in
set_option maxHeartbeats 40000000 in
theorem tobytes (l : Launch) (Z : State) (a0 : Array Value) (hw : ∀ d ∈ tables_1, d.before a0 Z = true) (ws : List Jvm.Cond) (tc : Int32) (h0 : Heap) (n0 : Nat) (Z0 : n0 ≤ h0.size) :
    MetFree l (⟨"java/lang/StringLatin1", "toBytes", "(C)[B"⟩ : MethodName) (head1 (Jvm.Cond.code (⟨"java/lang/StringLatin1", "toBytes", "(C)[B"⟩ : MethodName) jdk_43_method_46_code 1 (some (.array .byte)) :: ws) ({ frames := 0, cells := 1, slots := 1, locals := 0 } : Room)) (fun a U => a = #[(.int tc)] ∧ Z.Warmed39 U.vm ∧ U.heap = h0) (fun _ _ _ _ _ => True) (fun _ U o U' => ∃ v L, o = .returned v ∧ Q_tobytes Z tc h0 n0 v U'.heap L ∧ FrameEnd U o U' L ({ frames := 0, cells := 1, slots := 1, locals := 0 } : Room).cells ({ frames := 0, cells := 1, slots := 1, locals := 0 } : Room).slots) := by
  refine MetFree.of_bodySF (plainFor_of_name pn_4) hisR ?_
  intro p e s m args below meth c s₁ Bd hml0 hP hK
  obtain ⟨rfl, hZ, hh⟩ := hP
  have hx := Bd.exec
  have hby := Bd.bytes
  have hml : c.maxLocals = 1 := hml0
  have hown : s.vm.findClass "java/lang/StringLatin1" = some m.cls := findClass_of_methodNamed Bd.named
  have hnm := (name_of_methodNamed Bd.named Bd.method).1
  have X0 : Stand p l e ({ frames := 0, cells := 1, slots := 1, locals := 0 } : Room) s m #[(.int tc)] below meth c s₁ [] 0 0 := Stand.of_body Bd
  have e0 : s₁.heap = h0 := by rw [← hh, Bd.state]; rfl
  have N0 := Fr.nil n0
  obtain ⟨G, hG⟩ : ∃ G : State → Prop, G = (fun U' => ∃ o, U'.status = .running ∧ Ended U' below o ∧ ∃ v L, o = .returned v ∧ Q_tobytes Z tc h0 n0 v U'.heap L ∧ FrameEnd s o U' L ({ frames := 0, cells := 1, slots := 1, locals := 0 } : Room).cells ({ frames := 0, cells := 1, slots := 1, locals := 0 } : Room).slots) := ⟨_, rfl⟩
  suffices key : Gl p.tables e below s₁ (mkF m 0 #[.val (.int tc)] []) G by
    obtain ⟨s₂, k1, k2⟩ := key
    rw [hG] at k2
    obtain ⟨o, k3, k4, k5⟩ := k2
    exact ⟨s₂, o, castTop (ef_tobytes m tc) k1, k3, k4, k5⟩
  show Gl p.tables e below s₁ (mkF m 0 #[.val (.int tc)] []) G
  refine Gl.via (fun _ k => XS.iconst X0.here hx rfl (hb hby d7_0) k) ?_
  show Gl p.tables e below s₁ (mkF m 1 #[.val (.int tc)] [(.int (1 : Int32))]) G
  obtain ⟨T1, h1, k1, X1, e1, E1, A1, st1⟩ := newP X0 hx hZ (hw _ (List.mem_of_getElem? (i := 43) rfl)) e0 (g := (mkF m 1 #[.val (.int tc)] [(.int (1 : Int32))])) rfl (hb hby d7_1) rfl (by decide) (cap := 1) (by decide) (by decide) (by decide) (by decide)
  obtain ⟨b1, g1⟩ : ∃ z, z = h0.size := ⟨_, rfl⟩
  rw [← g1] at A1 st1
  have ge2 : n0 ≤ b1 := Nat.le_trans Z0 (Nat.le_of_eq g1.symm)
  have gz3 : h0.size ≤ b1 := Nat.le_trans (Nat.le_refl h0.size) (Nat.le_of_eq g1.symm)
  refine Gl.via st1 ?_
  have Z4 : n0 ≤ h1.size := Nat.le_trans Z0 E1.1
  have Y5 : h0.size ≤ h1.size := Nat.le_trans (Nat.le_refl h0.size) E1.1
  have V6 : Arv Z h1 b1 k1 .byte (1 : Int32) [(.int (0 : Int32))] (.int (0 : Int32)) := (Arv.new A1 (by decide)).pad (pad_rep [] (.int (0 : Int32)) 1)
  show Gl p.tables e below T1 (mkF m 3 #[.val (.int tc)] [(.ref b1)]) G
  refine Gl.via (fun _ k => XS.dup X1.here hx rfl (hb hby d7_3) rfl rfl k) ?_
  show Gl p.tables e below T1 (mkF m 4 #[.val (.int tc)] [(.ref b1), (.ref b1)]) G
  refine Gl.via (fun _ k => XS.iconst X1.here hx rfl (hb hby d7_4) k) ?_
  show Gl p.tables e below T1 (mkF m 5 #[.val (.int tc)] [(.int (0 : Int32)), (.ref b1), (.ref b1)]) G
  refine Gl.via (fun _ k => XS.iloadN X1.here hx rfl (hb hby d7_5) rfl k) ?_
  show Gl p.tables e below T1 (mkF m 6 #[.val (.int tc)] [(.int tc), (.int (0 : Int32)), (.ref b1), (.ref b1)]) G
  refine Gl.via (fun _ k => XS.i2b X1.here hx rfl (hb hby d7_6) rfl k) ?_
  show Gl p.tables e below T1 (mkF m 7 #[.val (.int tc)] [(.int (tc.toInt8.toInt32)), (.int (0 : Int32)), (.ref b1), (.ref b1)]) G
  obtain ⟨cl7, Ar7, q7, S7, N7, H7, G7⟩ := V6
  have hin7 : ¬ ((0 : Int32) < 0 ∨ cl7.slots.size ≤ ((0 : Int32)).toNatClampNeg) := inb_of S7 ⟨by decide, by decide⟩
  obtain ⟨T7, h7, X7, e7, W7, st7⟩ := stB X1 hx hZ e1 Ar7 (j := (0 : Int32)) hin7 (g := (mkF m 7 #[.val (.int tc)] [(.int (tc.toInt8.toInt32)), (.int (0 : Int32)), (.ref b1), (.ref b1)])) rfl rfl (hb hby d7_7)
  refine Gl.via st7 ?_
  have N7_ := Fr.snoc X7 N0 ge2
  have Z8 : n0 ≤ h7.size := Nat.le_trans Z4 (Keep.of_wr W7).1
  have Y9 : h0.size ≤ h7.size := Nat.le_trans Y5 (Keep.of_wr W7).1
  have V10 : Arv Z h7 b1 k1 .byte (1 : Int32) [(.int (nar .byte (tc.toInt8.toInt32)))] (.int (0 : Int32)) := Arv.set Ar7 q7 S7 N7 H7 G7 (fits_nar_byte _) W7 0 rfl (Nat.le_of_ble_eq_true rfl)
  show Gl p.tables e below T7 (mkF m 8 #[.val (.int tc)] [(.ref b1)]) G
  obtain ⟨fs, hr, hrun, hended, hW, hsame⟩ := X7.leave (v := some (.ref b1)) (fun h => by rw [Bd.returns] at h; cases h)
  have hq : ∀ L, Fr n0 L → Q_tobytes Z tc h0 n0 (some (.ref b1)) T7.heap L := by
    intro L hN
    rw [e7]
    exact ⟨b1, rfl, hN, (((Keep.refl h0 []).ext E1).wr W7 (Or.inr gz3)), gz3⟩
  rw [hG]
  exact Gl.fin (retOut X7 hx Bd.returns rfl (Or.inr (Or.inr (Or.inr (Or.inr ⟨rfl, rfl, rfl⟩)))) (hb hby d7_8) hr) ⟨_, hrun, hended, _, _, rfl, hq _ N7_, ⟨_, rfl⟩, hW, hsame.mono (by decide) (by decide)⟩
theorem pn_5 : plainName "java/lang/String" = true := by first | (simp [plainName, overriddenIn]; done) | decide +kernel
theorem d8_0 : decode jdk_42_method_151_code 0 = .ok (.aload_n 0, 1) := by decide +kernel
theorem d8_1 : decode jdk_42_method_151_code 1 = .ok (.invokespecial 1, 3) := by decide +kernel
theorem d8_4 : decode jdk_42_method_151_code 4 = .ok (.aload_n 0, 1) := by decide +kernel
theorem d8_5 : decode jdk_42_method_151_code 5 = .ok (.aload_n 1, 1) := by decide +kernel
theorem d8_6 : decode jdk_42_method_151_code 6 = .ok (.putfield 9, 3) := by decide +kernel
theorem d8_9 : decode jdk_42_method_151_code 9 = .ok (.aload_n 0, 1) := by decide +kernel
theorem d8_10 : decode jdk_42_method_151_code 10 = .ok (.iload_n 2, 1) := by decide +kernel
theorem d8_11 : decode jdk_42_method_151_code 11 = .ok (.putfield 15, 3) := by decide +kernel
theorem d8_14 : decode jdk_42_method_151_code 14 = .ok (.return_, 1) := by decide +kernel
theorem ef_s_init (m : MethodId) (x0 : Addr) (x1 : Addr) (x2 : Int32) : entryFrame m #[(.ref x0), (.ref x1), (.int x2)] 3 = mkF m 0 #[.val (.ref x0), .val (.ref x1), .val (.int x2)] [] := by first | (simp [entryFrame, mkF, argsToLocals, Value.category]; done) | rfl
def Q_s_init (Z : State) (sa : Addr) (sb : Addr) (u1 : Value) (u2 : Value) (h0 : Heap) (n0 : Nat) (v : Option Value) (h : Heap) (L : List Loc) : Prop := v = none ∧ Fr n0 L ∧ Keep h0 h [sa] ∧ Exa Z h sa "java/lang/String"
set_option maxRecDepth 65536 in
set_option maxHeartbeats 40000000 in
theorem s_init (l : Launch) (Z : State) (a0 : Array Value) (hw : ∀ d ∈ tables_1, d.before a0 Z = true) (ws : List Jvm.Cond) (sa : Addr) (sb : Addr) (u1 : Value) (u2 : Value) (h0 : Heap) (n0 : Nat) (Z0 : n0 ≤ h0.size) (F0_sa : Exa Z h0 sa "java/lang/String") (F1_sa_value : Fld Z h0 sa "java/lang/String" "value" "[B" u1) (F2_sa_coder : Fld Z h0 sa "java/lang/String" "coder" "B" u2) (hp0 : n0 ≤ sa) :
    MetFree l (⟨"java/lang/String", "<init>", "([BB)V"⟩ : MethodName) (head1 (Jvm.Cond.code (⟨"java/lang/String", "<init>", "([BB)V"⟩ : MethodName) jdk_42_method_151_code 3 none :: ws) ({ frames := 1, cells := 0, slots := 0, locals := 12 } : Room)) (fun a U => a = #[(.ref sa), (.ref sb), (.int (0 : Int32))] ∧ Z.Warmed39 U.vm ∧ U.heap = h0) (fun _ _ _ _ _ => True) (fun _ U o U' => ∃ v L, o = .returned v ∧ Q_s_init Z sa sb u1 u2 h0 n0 v U'.heap L ∧ FrameEnd U o U' L ({ frames := 1, cells := 0, slots := 0, locals := 12 } : Room).cells ({ frames := 1, cells := 0, slots := 0, locals := 12 } : Room).slots) := by
  refine MetFree.of_bodySF (plainFor_of_name pn_5) hisR ?_
  intro p e s m args below meth c s₁ Bd hml0 hP hK
  obtain ⟨rfl, hZ, hh⟩ := hP
  have hx := Bd.exec
  have hby := Bd.bytes
  have hml : c.maxLocals = 3 := hml0
  have hown : s.vm.findClass "java/lang/String" = some m.cls := findClass_of_methodNamed Bd.named
  have hnm := (name_of_methodNamed Bd.named Bd.method).1
  have X0 : Stand p l e ({ frames := 1, cells := 0, slots := 0, locals := 12 } : Room) s m #[(.ref sa), (.ref sb), (.int (0 : Int32))] below meth c s₁ [] 0 0 := Stand.of_body Bd
  have e0 : s₁.heap = h0 := by rw [← hh, Bd.state]; rfl
  have N0 := Fr.nil n0
  obtain ⟨G, hG⟩ : ∃ G : State → Prop, G = (fun U' => ∃ o, U'.status = .running ∧ Ended U' below o ∧ ∃ v L, o = .returned v ∧ Q_s_init Z sa sb u1 u2 h0 n0 v U'.heap L ∧ FrameEnd s o U' L ({ frames := 1, cells := 0, slots := 0, locals := 12 } : Room).cells ({ frames := 1, cells := 0, slots := 0, locals := 12 } : Room).slots) := ⟨_, rfl⟩
  suffices key : Gl p.tables e below s₁ (mkF m 0 #[.val (.ref sa), .val (.ref sb), .val (.int (0 : Int32))] []) G by
    obtain ⟨s₂, k1, k2⟩ := key
    rw [hG] at k2
    obtain ⟨o, k3, k4, k5⟩ := k2
    exact ⟨s₂, o, castTop (ef_s_init m sa sb (0 : Int32)) k1, k3, k4, k5⟩
  show Gl p.tables e below s₁ (mkF m 0 #[.val (.ref sa), .val (.ref sb), .val (.int (0 : Int32))] []) G
  refine Gl.via (fun _ k => XS.aloadN X0.here hx rfl (hb hby d8_0) rfl rfl k) ?_
  show Gl p.tables e below s₁ (mkF m 1 #[.val (.ref sa), .val (.ref sb), .val (.int (0 : Int32))] [(.ref sa)]) G
  obtain ⟨T1, X1, e1, st1⟩ := initO X0 hx hZ hown (hw _ (List.mem_of_getElem? (i := 48) rfl)) (hw _ (List.mem_of_getElem? (i := 19) rfl)) (hw _ (List.mem_of_getElem? (i := 20) rfl)) e0 (g := (mkF m 1 #[.val (.ref sa), .val (.ref sb), .val (.int (0 : Int32))] [(.ref sa)])) rfl (by rw [hml]; rfl) rfl (hb hby d8_1) (by decide) (W := 0) (by show 2 * 0 + _ ≤ _; exact Nat.le_of_eq rfl) (by decide)
  refine Gl.via st1 ?_
  show Gl p.tables e below T1 (mkF m 4 #[.val (.ref sa), .val (.ref sb), .val (.int (0 : Int32))] []) G
  refine Gl.via (fun _ k => XS.aloadN X1.here hx rfl (hb hby d8_4) rfl rfl k) ?_
  show Gl p.tables e below T1 (mkF m 5 #[.val (.ref sa), .val (.ref sb), .val (.int (0 : Int32))] [(.ref sa)]) G
  refine Gl.via (fun _ k => XS.aloadN X1.here hx rfl (hb hby d8_5) rfl rfl k) ?_
  show Gl p.tables e below T1 (mkF m 6 #[.val (.ref sa), .val (.ref sb), .val (.int (0 : Int32))] [(.ref sb), (.ref sa)]) G
  obtain ⟨T2, h2, X2, e2, W2, st2⟩ := putF X1 hx hZ hown (host := "") (Or.inl (hw _ (List.mem_of_getElem? (i := 49) rfl))) Via.refl e1 F1_sa_value F0_sa (Or.inr ⟨(hw _ (List.mem_of_getElem? (i := 50) rfl)), rfl, hnm⟩) (hw _ (List.mem_of_getElem? (i := 39) rfl)) (ty := (.array .byte)) (by decide) rfl rfl (g := (mkF m 6 #[.val (.ref sa), .val (.ref sb), .val (.int (0 : Int32))] [(.ref sb), (.ref sa)])) rfl rfl (hb hby d8_6)
  refine Gl.via st2 ?_
  have N2_ := Fr.snoc X2 N0 hp0
  have Z3 : n0 ≤ h2.size := Nat.le_trans Z0 (Keep.of_wr W2).1
  have Y4 : h0.size ≤ h2.size := Nat.le_trans (Nat.le_refl h0.size) (Keep.of_wr W2).1
  show Gl p.tables e below T2 (mkF m 9 #[.val (.ref sa), .val (.ref sb), .val (.int (0 : Int32))] []) G
  refine Gl.via (fun _ k => XS.aloadN X2.here hx rfl (hb hby d8_9) rfl rfl k) ?_
  show Gl p.tables e below T2 (mkF m 10 #[.val (.ref sa), .val (.ref sb), .val (.int (0 : Int32))] [(.ref sa)]) G
  refine Gl.via (fun _ k => XS.iloadN X2.here hx rfl (hb hby d8_10) rfl k) ?_
  show Gl p.tables e below T2 (mkF m 11 #[.val (.ref sa), .val (.ref sb), .val (.int (0 : Int32))] [(.int (0 : Int32)), (.ref sa)]) G
  have G5 : Fld Z h2 sa "java/lang/String" "coder" "B" u2 := (F2_sa_coder.other W2 (Or.inr (slot_ne (Or.inr (hw _ (List.mem_of_getElem? (i := 52) rfl))) (Or.inr (hw _ (List.mem_of_getElem? (i := 50) rfl))) (by decide) (t := .byte) (t' := (.array .byte)) (by decide) (by decide))))
  have G6 : Exa Z h2 sa "java/lang/String" := (F0_sa.wr W2)
  obtain ⟨T7, h7, X7, e7, W7, st7⟩ := putFN X2 hx hZ hown (hw _ (List.mem_of_getElem? (i := 51) rfl)) Via.refl e2 G5 G6 (Or.inr ⟨(hw _ (List.mem_of_getElem? (i := 52) rfl)), rfl, hnm⟩) (hw _ (List.mem_of_getElem? (i := 39) rfl)) (ty := .byte) (v' := (.int (0 : Int32))) (by decide) rfl (by decide) (g := (mkF m 11 #[.val (.ref sa), .val (.ref sb), .val (.int (0 : Int32))] [(.int (0 : Int32)), (.ref sa)])) rfl rfl (hb hby d8_11)
  refine Gl.via st7 ?_
  have N7_ := Fr.snoc X7 N2_ hp0
  have Z8 : n0 ≤ h7.size := Nat.le_trans Z3 (Keep.of_wr W7).1
  have Y9 : h0.size ≤ h7.size := Nat.le_trans Y4 (Keep.of_wr W7).1
  show Gl p.tables e below T7 (mkF m 14 #[.val (.ref sa), .val (.ref sb), .val (.int (0 : Int32))] []) G
  obtain ⟨fs, hr, hrun, hended, hW, hsame⟩ := X7.leave (v := none) (fun _ => rfl)
  have G10 : Exa Z h7 sa "java/lang/String" := (G6.wr W7)
  have hq : ∀ L, Fr n0 L → Q_s_init Z sa sb u1 u2 h0 n0 (none) T7.heap L := by
    intro L hN
    rw [e7]
    exact ⟨rfl, hN, (((Keep.refl h0 [sa]).wr W2 (Or.inl (List.mem_of_getElem? (i := 0) rfl))).wr W7 (Or.inl (List.mem_of_getElem? (i := 0) rfl))), G10⟩
  rw [hG]
  exact Gl.fin (X7.returnOut hx Bd.returns (hb hby d8_14) hr) ⟨_, hrun, hended, _, _, rfl, hq _ N7_, ⟨_, rfl⟩, hW, hsame.mono (by decide) (by decide)⟩
theorem d5_0 : decode jdk_42_method_139_code 0 = .ok (.getstatic 38, 3) := by decide +kernel
theorem d5_3 : decode jdk_42_method_139_code 3 = .ok (.ifCond .eq 23, 3) := by decide +kernel
theorem d5_6 : decode jdk_42_method_139_code 6 = .ok (.iload_n 0, 1) := by decide +kernel
theorem d5_7 : decode jdk_42_method_139_code 7 = .ok (.invokestatic 1015, 3) := by decide +kernel
theorem pd_1 : parseMethodDescriptor "(C)Z" = some ⟨[.char], some .boolean⟩ := by decide +kernel
theorem d5_10 : decode jdk_42_method_139_code 10 = .ok (.ifCond .eq 16, 3) := by decide +kernel
theorem d5_13 : decode jdk_42_method_139_code 13 = .ok (.new 10, 3) := by decide +kernel
theorem d5_16 : decode jdk_42_method_139_code 16 = .ok (.dup, 1) := by decide +kernel
theorem d5_17 : decode jdk_42_method_139_code 17 = .ok (.iload_n 0, 1) := by decide +kernel
theorem d5_18 : decode jdk_42_method_139_code 18 = .ok (.invokestatic 1018, 3) := by decide +kernel
theorem pd_2 : parseMethodDescriptor "(C)[B" = some ⟨[.char], some (.array .byte)⟩ := by decide +kernel
theorem d5_21 : decode jdk_42_method_139_code 21 = .ok (.iconst 0, 1) := by decide +kernel
theorem d5_22 : decode jdk_42_method_139_code 22 = .ok (.invokespecial 209, 3) := by decide +kernel
theorem pd_3 : parseMethodDescriptor "([BB)V" = some ⟨[(.array .byte), .byte], none⟩ := by decide +kernel
theorem d5_25 : decode jdk_42_method_139_code 25 = .ok (.areturn, 1) := by decide +kernel
theorem ef_vof (m : MethodId) (x0 : Int32) : entryFrame m #[(.int x0)] 1 = mkF m 0 #[.val (.int x0)] [] := by first | (simp [entryFrame, mkF, argsToLocals, Value.category]; done) | rfl
def Q_vof (Z : State) (vc : Int32) (cs : Int32) (h0 : Heap) (n0 : Nat) (v : Option Value) (h : Heap) (L : List Loc) : Prop := ∃ (b : Addr), v = some (.ref b) ∧ Fr n0 L ∧ Keep h0 h [] ∧ Exa Z h b "java/lang/String" ∧ (h0.size ≤ b)
set_option maxRecDepth 65536 in
set_option maxHeartbeats 40000000 in
theorem vof (l : Launch) (Z : State) (a0 : Array Value) (hw : ∀ d ∈ tables_1, d.before a0 Z = true) (ws : List Jvm.Cond) (vc : Int32) (cs : Int32) (h0 : Heap) (n0 : Nat) (Z0 : n0 ≤ h0.size) (F0_java_lang_String : Sta Z Z.heap "java/lang/String" "COMPACT_STRINGS" "Z" (.int cs)) (F1_ : Old Z n0 h0) (hcs : ¬ (cs = (0 : Int32))) (hvc : ¬ ((255 : Int32) < vc)) :
    MetFree l (⟨"java/lang/String", "valueOf", "(C)Ljava/lang/String;"⟩ : MethodName) (head1 (Jvm.Cond.code (⟨"java/lang/String", "valueOf", "(C)Ljava/lang/String;"⟩ : MethodName) jdk_42_method_139_code 1 (some (.object "java/lang/String")) :: ws) ({ frames := 2, cells := 2, slots := 5, locals := 27 } : Room)) (fun a U => a = #[(.int vc)] ∧ Z.Warmed39 U.vm ∧ U.heap = h0) (fun _ _ _ _ _ => True) (fun _ U o U' => ∃ v L, o = .returned v ∧ Q_vof Z vc cs h0 n0 v U'.heap L ∧ FrameEnd U o U' L ({ frames := 2, cells := 2, slots := 5, locals := 27 } : Room).cells ({ frames := 2, cells := 2, slots := 5, locals := 27 } : Room).slots) := by
  refine MetFree.of_bodySF (plainFor_of_name pn_5) hisR ?_
  intro p e s m args below meth c s₁ Bd hml0 hP hK
  obtain ⟨rfl, hZ, hh⟩ := hP
  have hx := Bd.exec
  have hby := Bd.bytes
  have hml : c.maxLocals = 1 := hml0
  have hown : s.vm.findClass "java/lang/String" = some m.cls := findClass_of_methodNamed Bd.named
  have hnm := (name_of_methodNamed Bd.named Bd.method).1
  have X0 : Stand p l e ({ frames := 2, cells := 2, slots := 5, locals := 27 } : Room) s m #[(.int vc)] below meth c s₁ [] 0 0 := Stand.of_body Bd
  have e0 : s₁.heap = h0 := by rw [← hh, Bd.state]; rfl
  have N0 := Fr.nil n0
  obtain ⟨G, hG⟩ : ∃ G : State → Prop, G = (fun U' => ∃ o, U'.status = .running ∧ Ended U' below o ∧ ∃ v L, o = .returned v ∧ Q_vof Z vc cs h0 n0 v U'.heap L ∧ FrameEnd s o U' L ({ frames := 2, cells := 2, slots := 5, locals := 27 } : Room).cells ({ frames := 2, cells := 2, slots := 5, locals := 27 } : Room).slots) := ⟨_, rfl⟩
  suffices key : Gl p.tables e below s₁ (mkF m 0 #[.val (.int vc)] []) G by
    obtain ⟨s₂, k1, k2⟩ := key
    rw [hG] at k2
    obtain ⟨o, k3, k4, k5⟩ := k2
    exact ⟨s₂, o, castTop (ef_vof m vc) k1, k3, k4, k5⟩
  show Gl p.tables e below s₁ (mkF m 0 #[.val (.int vc)] []) G
  have G1 : Sta Z h0 "java/lang/String" "COMPACT_STRINGS" "Z" (.int cs) := F0_java_lang_String.ext F1_.2
  obtain ⟨T2, X2, e2, st2⟩ := getS2 X0 hx hZ hown (host := "") (Or.inl (hw _ (List.mem_of_getElem? (i := 33) rfl))) Via.refl e0 G1 (g := (mkF m 0 #[.val (.int vc)] [])) rfl (hb hby d5_0)
  refine Gl.via st2 ?_
  show Gl p.tables e below T2 (mkF m 3 #[.val (.int vc)] [(.int cs)]) G
  refine Gl.via (fun _ k => XS.ifNo X2.here hx rfl (hb hby d5_3) rfl ((if0 _ _).trans (feq hcs).1) k) ?_
  show Gl p.tables e below T2 (mkF m 6 #[.val (.int vc)] []) G
  refine Gl.via (fun _ k => XS.iloadN X2.here hx rfl (hb hby d5_6) rfl k) ?_
  show Gl p.tables e below T2 (mkF m 7 #[.val (.int vc)] [(.int vc)]) G
  obtain ⟨_, _, ⟨T3, L3, k3, n3⟩, -, X3, ⟨Lc3, hQ3, l3, y3, z3⟩, st3⟩ := Jvm.LawKit.callS X2 hx (y := (⟨"java/lang/StringLatin1", "canEncode", "(C)Z"⟩ : MethodName)) hown (mvT hZ (hw _ (List.mem_of_getElem? (i := 34) rfl))) (mvT hZ (hw _ (List.mem_of_getElem? (i := 35) rfl))) (mvT hZ (hw _ (List.mem_of_getElem? (i := 36) rfl))) (mvT hZ (hw _ (List.mem_of_getElem? (i := 37) rfl))) (by decide) (backOf (W := 0) (canenc l Z a0 hw [] vc h0 n0 Z0 hvc) hZ (hw _ (List.mem_of_getElem? (i := 37) rfl)) (hw _ (List.mem_of_getElem? (i := 36) rfl)) (by decide) (by decide)) (g := (mkF m 7 #[.val (.int vc)] [(.int vc)])) rfl (by rw [hml]; rfl) (argsL := [(.int vc)]) (rest := []) (lenOf pd_1 rfl) rfl (by show 2 * 0 + _ ≤ _; exact Nat.le_of_eq rfl) (hb hby d5_7) (fun _ _ => ⟨rfl, e2, (by decide : 0 + 0 ≤ _), (by decide : 0 + 0 ≤ _)⟩)
  dsimp only [Pt.U, Pt.locs, Pt.cells, Pt.slots] at X3 l3 y3 z3 st3 hQ3
  subst l3 y3 z3
  obtain ⟨rfl, N3q, eh3⟩ := hQ3
  have N3_ := Fr.app N0 N3q
  refine Gl.via (fun _ k => st3 _ k) ?_
  show Gl p.tables e below T3 (mkF m 10 #[.val (.int vc)] [(.int (1 : Int32))]) G
  refine Gl.via (fun _ k => XS.ifNo X3.here hx rfl (hb hby d5_10) rfl ((if0 _ _).trans (feq (by decide)).1) k) ?_
  show Gl p.tables e below T3 (mkF m 13 #[.val (.int vc)] []) G
  obtain ⟨T4, h4, X4, e4, E4, A4, D4, -, st4⟩ := newO X3 hx hZ hown (hw _ (List.mem_of_getElem? (i := 38) rfl)) (hw _ (List.mem_of_getElem? (i := 39) rfl)) (hw _ (List.mem_of_getElem? (i := 31) rfl)) eh3 (g := (mkF m 13 #[.val (.int vc)] [])) rfl (hb hby d5_13) (by decide) (by decide)
  obtain ⟨b4, g4⟩ : ∃ z, z = h0.size := ⟨_, rfl⟩
  rw [← g4] at A4 D4 st4
  have ge5 : n0 ≤ b4 := Nat.le_trans Z0 (Nat.le_of_eq g4.symm)
  have gz6 : h0.size ≤ b4 := Nat.le_trans (Nat.le_refl h0.size) (Nat.le_of_eq g4.symm)
  refine Gl.via st4 ?_
  have Z7 : n0 ≤ h4.size := Nat.le_trans Z0 E4.1
  have Y8 : h0.size ≤ h4.size := Nat.le_trans (Nat.le_refl h0.size) E4.1
  have F9 : Fld Z h4 b4 "java/lang/String" "value" "[B" .null := D4 (Or.inr (hw _ (List.mem_of_getElem? (i := 50) rfl))) (ty := (.array .byte)) (by decide)
  have F10 : Fld Z h4 b4 "java/lang/String" "coder" "B" (.int (0 : Int32)) := D4 (Or.inr (hw _ (List.mem_of_getElem? (i := 52) rfl))) (ty := .byte) (by decide)
  show Gl p.tables e below T4 (mkF m 16 #[.val (.int vc)] [(.ref b4)]) G
  refine Gl.via (fun _ k => XS.dup X4.here hx rfl (hb hby d5_16) rfl rfl k) ?_
  show Gl p.tables e below T4 (mkF m 17 #[.val (.int vc)] [(.ref b4), (.ref b4)]) G
  refine Gl.via (fun _ k => XS.iloadN X4.here hx rfl (hb hby d5_17) rfl k) ?_
  show Gl p.tables e below T4 (mkF m 18 #[.val (.int vc)] [(.int vc), (.ref b4), (.ref b4)]) G
  obtain ⟨_, _, ⟨T11, L11, k11, n11⟩, -, X11, ⟨Lc11, hQ11, l11, y11, z11⟩, st11⟩ := Jvm.LawKit.callS X4 hx (y := (⟨"java/lang/StringLatin1", "toBytes", "(C)[B"⟩ : MethodName)) hown (mvT hZ (hw _ (List.mem_of_getElem? (i := 40) rfl))) (mvT hZ (hw _ (List.mem_of_getElem? (i := 41) rfl))) (mvT hZ (hw _ (List.mem_of_getElem? (i := 36) rfl))) (mvT hZ (hw _ (List.mem_of_getElem? (i := 42) rfl))) (by decide) (backOf (W := 2) (tobytes l Z a0 hw [] vc h4 n0 Z7 ) hZ (hw _ (List.mem_of_getElem? (i := 42) rfl)) (hw _ (List.mem_of_getElem? (i := 36) rfl)) (by decide) (by decide)) (g := (mkF m 18 #[.val (.int vc)] [(.int vc), (.ref b4), (.ref b4)])) rfl (by rw [hml]; rfl) (argsL := [(.int vc)]) (rest := [(.ref b4), (.ref b4)]) (lenOf pd_2 rfl) rfl (by show 2 * 0 + _ ≤ _; exact Nat.le_of_eq rfl) (hb hby d5_18) (fun _ _ => ⟨rfl, e4, (by decide : 1 + 1 ≤ _), (by decide : 4 + 1 ≤ _)⟩)
  dsimp only [Pt.U, Pt.locs, Pt.cells, Pt.slots] at X11 l11 y11 z11 st11 hQ11
  subst l11 y11 z11
  obtain ⟨b_11, rfl, N11q, K11, R12⟩ := hQ11
  have N11_ := Fr.app N3_ N11q
  refine Gl.via (fun _ k => st11 _ k) ?_
  have ne13 : b4 ≠ b_11 := Nat.ne_of_lt (Nat.lt_of_lt_of_le A4.lt R12)
  have ge14 : n0 ≤ b_11 := Nat.le_trans Z7 R12
  have gz15 : h0.size ≤ b_11 := Nat.le_trans Y8 R12
  have Z16 : n0 ≤ T11.heap.size := Nat.le_trans Z7 K11.1
  have Y17 : h0.size ≤ T11.heap.size := Nat.le_trans Y8 K11.1
  show Gl p.tables e below T11 (mkF m 21 #[.val (.int vc)] [(.ref b_11), (.ref b4), (.ref b4)]) G
  refine Gl.via (fun _ k => XS.iconst X11.here hx rfl (hb hby d5_21) k) ?_
  show Gl p.tables e below T11 (mkF m 22 #[.val (.int vc)] [(.int (0 : Int32)), (.ref b_11), (.ref b4), (.ref b4)]) G
  have G19 : Exa Z T11.heap b4 "java/lang/String" := (A4.keep K11)
  have G20 : Fld Z T11.heap b4 "java/lang/String" "value" "[B" .null := (F9.keep K11 nin0)
  have G21 : Fld Z T11.heap b4 "java/lang/String" "coder" "B" (.int (0 : Int32)) := (F10.keep K11 nin0)
  obtain ⟨_, _, ⟨T18, L18, k18, n18⟩, -, X18, ⟨Lc18, hQ18, l18, y18, z18⟩, st18⟩ := X11.specialBack hx (y := (⟨"java/lang/String", "<init>", "([BB)V"⟩ : MethodName)) rfl hown (mvT hZ (hw _ (List.mem_of_getElem? (i := 44) rfl))) (mvT hZ (hw _ (List.mem_of_getElem? (i := 45) rfl))) (mvT hZ (hw _ (List.mem_of_getElem? (i := 47) rfl))) (by decide) (backOf (W := 1) (s_init l Z a0 hw [] b4 b_11 .null (.int (0 : Int32)) T11.heap n0 Z16 G19 G20 G21 ge5) hZ (hw _ (List.mem_of_getElem? (i := 47) rfl)) (hw _ (List.mem_of_getElem? (i := 31) rfl)) (by decide) (by decide)) (g := (mkF m 22 #[.val (.int vc)] [(.int (0 : Int32)), (.ref b_11), (.ref b4), (.ref b4)])) rfl (by rw [hml]; rfl) (Steps.refl _) (a := b4) (argsL := [(.ref b_11), (.int (0 : Int32))]) (rest := [(.ref b4)]) (lenOf pd_3 rfl) rfl (by show 2 * 0 + _ ≤ _; exact Nat.le_of_eq rfl) (hb hby d5_22) (fun _ _ => ⟨rfl, rfl, (by decide : 2 + 0 ≤ _), (by decide : 5 + 0 ≤ _)⟩)
  dsimp only [Pt.U, Pt.locs, Pt.cells, Pt.slots] at X18 l18 y18 z18 st18 hQ18
  subst l18 y18 z18
  obtain ⟨rfl, N18q, K18, P22⟩ := hQ18
  have N18_ := Fr.app N11_ N18q
  refine Gl.via (fun _ k => st18.trans k) ?_
  have Z23 : n0 ≤ T18.heap.size := Nat.le_trans Z16 K18.1
  have Y24 : h0.size ≤ T18.heap.size := Nat.le_trans Y17 K18.1
  show Gl p.tables e below T18 (mkF m 25 #[.val (.int vc)] [(.ref b4)]) G
  obtain ⟨fs, hr, hrun, hended, hW, hsame⟩ := X18.leave (v := some (.ref b4)) (fun h => by rw [Bd.returns] at h; cases h)
  have hq : ∀ L, Fr n0 L → Q_vof Z vc cs h0 n0 (some (.ref b4)) T18.heap L := by
    intro L hN
    exact ⟨b4, rfl, hN, ((((Keep.refl h0 []).ext E4).trans K11 all0).trans K18 (allS (Or.inr gz6) all0)), P22, gz6⟩
  rw [hG]
  exact Gl.fin (retOut X18 hx Bd.returns rfl (Or.inr (Or.inr (Or.inr (Or.inr ⟨rfl, rfl, rfl⟩)))) (hb hby d5_25) hr) ⟨_, hrun, hended, _, _, rfl, hq _ N18_, ⟨_, rfl⟩, hW, hsame.mono (by decide) (by decide)⟩
theorem pn_6 : plainName "com/example/kereso/kereso/Search$Hit" = true := by first | (simp [plainName, overriddenIn]; done) | decide +kernel
theorem d9_0 : decode prog_39_method_1_code 0 = .ok (.aload_n 0, 1) := by decide +kernel
theorem d9_1 : decode prog_39_method_1_code 1 = .ok (.invokespecial 1, 3) := by decide +kernel
theorem d9_4 : decode prog_39_method_1_code 4 = .ok (.aload_n 0, 1) := by decide +kernel
theorem d9_5 : decode prog_39_method_1_code 5 = .ok (.iload_n 1, 1) := by decide +kernel
theorem d9_6 : decode prog_39_method_1_code 6 = .ok (.putfield 7, 3) := by decide +kernel
theorem d9_9 : decode prog_39_method_1_code 9 = .ok (.aload_n 0, 1) := by decide +kernel
theorem d9_10 : decode prog_39_method_1_code 10 = .ok (.dload_n 2, 1) := by decide +kernel
theorem d9_11 : decode prog_39_method_1_code 11 = .ok (.putfield 13, 3) := by decide +kernel
theorem d9_14 : decode prog_39_method_1_code 14 = .ok (.aload_n 0, 1) := by decide +kernel
theorem d9_15 : decode prog_39_method_1_code 15 = .ok (.aload 4, 2) := by decide +kernel
theorem d9_17 : decode prog_39_method_1_code 17 = .ok (.putfield 17, 3) := by decide +kernel
theorem d9_20 : decode prog_39_method_1_code 20 = .ok (.aload_n 0, 1) := by decide +kernel
theorem d9_21 : decode prog_39_method_1_code 21 = .ok (.aload 5, 2) := by decide +kernel
theorem d9_23 : decode prog_39_method_1_code 23 = .ok (.putfield 21, 3) := by decide +kernel
theorem d9_26 : decode prog_39_method_1_code 26 = .ok (.return_, 1) := by decide +kernel
theorem ef_h_init (m : MethodId) (x0 : Addr) (x1 : Int32) (x2 : UInt64) (x3 : Addr) (x4 : Addr) : entryFrame m #[(.ref x0), (.int x1), (.double x2), (.ref x3), (.ref x4)] 6 = mkF m 0 #[.val (.ref x0), .val (.int x1), .val (.double x2), .second, .val (.ref x3), .val (.ref x4)] [] := by first | (simp [entryFrame, mkF, argsToLocals, Value.category]; done) | rfl
def Q_h_init (Z : State) (ca : Addr) (c0 : Int32) (c1 : UInt64) (c2 : Addr) (c3 : Addr) (cu0 : Value) (cu1 : Value) (cu2 : Value) (cu3 : Value) (h0 : Heap) (n0 : Nat) (v : Option Value) (h : Heap) (L : List Loc) : Prop := v = none ∧ Fr n0 L ∧ Keep h0 h [ca] ∧ Exa Z h ca "com/example/kereso/kereso/Search$Hit"
set_option maxRecDepth 65536 in
set_option maxHeartbeats 40000000 in
theorem h_init (l : Launch) (Z : State) (a0 : Array Value) (hw : ∀ d ∈ tables_1, d.before a0 Z = true) (ws : List Jvm.Cond) (ca : Addr) (c0 : Int32) (c1 : UInt64) (c2 : Addr) (c3 : Addr) (cu0 : Value) (cu1 : Value) (cu2 : Value) (cu3 : Value) (h0 : Heap) (n0 : Nat) (Z0 : n0 ≤ h0.size) (F0_ca : Exa Z h0 ca "com/example/kereso/kereso/Search$Hit") (F1_ca_rank : Fld Z h0 ca "com/example/kereso/kereso/Search$Hit" "rank" "I" cu0) (F2_ca_score : Fld Z h0 ca "com/example/kereso/kereso/Search$Hit" "score" "D" cu1) (F3_ca_url : Fld Z h0 ca "com/example/kereso/kereso/Search$Hit" "url" "Ljava/lang/String;" cu2) (F4_ca_title : Fld Z h0 ca "com/example/kereso/kereso/Search$Hit" "title" "Ljava/lang/String;" cu3) (hp0 : n0 ≤ ca) :
    MetFree l (⟨"com/example/kereso/kereso/Search$Hit", "<init>", "(IDLjava/lang/String;Ljava/lang/String;)V"⟩ : MethodName) (head1 (Jvm.Cond.code (⟨"com/example/kereso/kereso/Search$Hit", "<init>", "(IDLjava/lang/String;Ljava/lang/String;)V"⟩ : MethodName) prog_39_method_1_code 6 none :: ws) ({ frames := 2, cells := 0, slots := 0, locals := 24 } : Room)) (fun a U => a = #[(.ref ca), (.int c0), (.double c1), (.ref c2), (.ref c3)] ∧ Z.Warmed39 U.vm ∧ U.heap = h0) (fun _ _ _ _ _ => True) (fun _ U o U' => ∃ v L, o = .returned v ∧ Q_h_init Z ca c0 c1 c2 c3 cu0 cu1 cu2 cu3 h0 n0 v U'.heap L ∧ FrameEnd U o U' L ({ frames := 2, cells := 0, slots := 0, locals := 24 } : Room).cells ({ frames := 2, cells := 0, slots := 0, locals := 24 } : Room).slots) := by
  refine MetFree.of_bodySF (plainFor_of_name pn_6) hisR ?_
  intro p e s m args below meth c s₁ Bd hml0 hP hK
  obtain ⟨rfl, hZ, hh⟩ := hP
  have hx := Bd.exec
  have hby := Bd.bytes
  have hml : c.maxLocals = 6 := hml0
  have hown : s.vm.findClass "com/example/kereso/kereso/Search$Hit" = some m.cls := findClass_of_methodNamed Bd.named
  have hnm := (name_of_methodNamed Bd.named Bd.method).1
  have X0 : Stand p l e ({ frames := 2, cells := 0, slots := 0, locals := 24 } : Room) s m #[(.ref ca), (.int c0), (.double c1), (.ref c2), (.ref c3)] below meth c s₁ [] 0 0 := Stand.of_body Bd
  have e0 : s₁.heap = h0 := by rw [← hh, Bd.state]; rfl
  have N0 := Fr.nil n0
  obtain ⟨G, hG⟩ : ∃ G : State → Prop, G = (fun U' => ∃ o, U'.status = .running ∧ Ended U' below o ∧ ∃ v L, o = .returned v ∧ Q_h_init Z ca c0 c1 c2 c3 cu0 cu1 cu2 cu3 h0 n0 v U'.heap L ∧ FrameEnd s o U' L ({ frames := 2, cells := 0, slots := 0, locals := 24 } : Room).cells ({ frames := 2, cells := 0, slots := 0, locals := 24 } : Room).slots) := ⟨_, rfl⟩
  suffices key : Gl p.tables e below s₁ (mkF m 0 #[.val (.ref ca), .val (.int c0), .val (.double c1), .second, .val (.ref c2), .val (.ref c3)] []) G by
    obtain ⟨s₂, k1, k2⟩ := key
    rw [hG] at k2
    obtain ⟨o, k3, k4, k5⟩ := k2
    exact ⟨s₂, o, castTop (ef_h_init m ca c0 c1 c2 c3) k1, k3, k4, k5⟩
  show Gl p.tables e below s₁ (mkF m 0 #[.val (.ref ca), .val (.int c0), .val (.double c1), .second, .val (.ref c2), .val (.ref c3)] []) G
  refine Gl.via (fun _ k => XS.aloadN X0.here hx rfl (hb hby d9_0) rfl rfl k) ?_
  show Gl p.tables e below s₁ (mkF m 1 #[.val (.ref ca), .val (.int c0), .val (.double c1), .second, .val (.ref c2), .val (.ref c3)] [(.ref ca)]) G
  obtain ⟨_, _, ⟨T1, L1, k1, n1⟩, -, X1, ⟨Lc1, hQ1, l1, y1, z1⟩, st1⟩ := X0.specialBack hx (y := (⟨"java/lang/Record", "<init>", "()V"⟩ : MethodName)) rfl hown (mvT hZ (hw _ (List.mem_of_getElem? (i := 56) rfl))) (mvT hZ (hw _ (List.mem_of_getElem? (i := 57) rfl))) (mvT hZ (hw _ (List.mem_of_getElem? (i := 60) rfl))) (by decide) (backOf (W := 0) (rec_init l Z a0 hw [] ca h0 n0 Z0 ) hZ (hw _ (List.mem_of_getElem? (i := 60) rfl)) (hw _ (List.mem_of_getElem? (i := 59) rfl)) (by decide) (by decide)) (g := (mkF m 1 #[.val (.ref ca), .val (.int c0), .val (.double c1), .second, .val (.ref c2), .val (.ref c3)] [(.ref ca)])) rfl (by rw [hml]; rfl) (Steps.refl _) (a := ca) (argsL := []) (rest := []) (lenOf pd_0 rfl) rfl (by show 2 * 0 + _ ≤ _; exact Nat.le_of_eq rfl) (hb hby d9_1) (fun _ _ => ⟨rfl, e0, (by decide : 0 + 0 ≤ _), (by decide : 0 + 0 ≤ _)⟩)
  dsimp only [Pt.U, Pt.locs, Pt.cells, Pt.slots] at X1 l1 y1 z1 st1 hQ1
  subst l1 y1 z1
  obtain ⟨rfl, N1q, eh1⟩ := hQ1
  have N1_ := Fr.app N0 N1q
  refine Gl.via (fun _ k => st1.trans k) ?_
  show Gl p.tables e below T1 (mkF m 4 #[.val (.ref ca), .val (.int c0), .val (.double c1), .second, .val (.ref c2), .val (.ref c3)] []) G
  refine Gl.via (fun _ k => XS.aloadN X1.here hx rfl (hb hby d9_4) rfl rfl k) ?_
  show Gl p.tables e below T1 (mkF m 5 #[.val (.ref ca), .val (.int c0), .val (.double c1), .second, .val (.ref c2), .val (.ref c3)] [(.ref ca)]) G
  refine Gl.via (fun _ k => XS.iloadN X1.here hx rfl (hb hby d9_5) rfl k) ?_
  show Gl p.tables e below T1 (mkF m 6 #[.val (.ref ca), .val (.int c0), .val (.double c1), .second, .val (.ref c2), .val (.ref c3)] [(.int c0), (.ref ca)]) G
  obtain ⟨T2, h2, X2, e2, W2, st2⟩ := putF X1 hx hZ hown (host := "") (Or.inl (hw _ (List.mem_of_getElem? (i := 62) rfl))) Via.refl eh1 F1_ca_rank F0_ca (Or.inr ⟨(hw _ (List.mem_of_getElem? (i := 63) rfl)), rfl, hnm⟩) (hw _ (List.mem_of_getElem? (i := 27) rfl)) (ty := .int) (by decide) rfl rfl (g := (mkF m 6 #[.val (.ref ca), .val (.int c0), .val (.double c1), .second, .val (.ref c2), .val (.ref c3)] [(.int c0), (.ref ca)])) rfl rfl (hb hby d9_6)
  refine Gl.via st2 ?_
  have N2_ := Fr.snoc X2 N1_ hp0
  have Z3 : n0 ≤ h2.size := Nat.le_trans Z0 (Keep.of_wr W2).1
  have Y4 : h0.size ≤ h2.size := Nat.le_trans (Nat.le_refl h0.size) (Keep.of_wr W2).1
  show Gl p.tables e below T2 (mkF m 9 #[.val (.ref ca), .val (.int c0), .val (.double c1), .second, .val (.ref c2), .val (.ref c3)] []) G
  refine Gl.via (fun _ k => XS.aloadN X2.here hx rfl (hb hby d9_9) rfl rfl k) ?_
  show Gl p.tables e below T2 (mkF m 10 #[.val (.ref ca), .val (.int c0), .val (.double c1), .second, .val (.ref c2), .val (.ref c3)] [(.ref ca)]) G
  refine Gl.via (fun _ k => XS.dloadN X2.here hx rfl (hb hby d9_10) rfl k) ?_
  show Gl p.tables e below T2 (mkF m 11 #[.val (.ref ca), .val (.int c0), .val (.double c1), .second, .val (.ref c2), .val (.ref c3)] [(.double c1), (.ref ca)]) G
  have G5 : Fld Z h2 ca "com/example/kereso/kereso/Search$Hit" "score" "D" cu1 := (F2_ca_score.other W2 (Or.inr (slot_ne (Or.inr (hw _ (List.mem_of_getElem? (i := 65) rfl))) (Or.inr (hw _ (List.mem_of_getElem? (i := 63) rfl))) (by decide) (t := .double) (t' := .int) (by decide) (by decide))))
  have G6 : Exa Z h2 ca "com/example/kereso/kereso/Search$Hit" := (F0_ca.wr W2)
  obtain ⟨T7, h7, X7, e7, W7, st7⟩ := putF X2 hx hZ hown (host := "") (Or.inl (hw _ (List.mem_of_getElem? (i := 64) rfl))) Via.refl e2 G5 G6 (Or.inr ⟨(hw _ (List.mem_of_getElem? (i := 65) rfl)), rfl, hnm⟩) (hw _ (List.mem_of_getElem? (i := 27) rfl)) (ty := .double) (by decide) rfl rfl (g := (mkF m 11 #[.val (.ref ca), .val (.int c0), .val (.double c1), .second, .val (.ref c2), .val (.ref c3)] [(.double c1), (.ref ca)])) rfl rfl (hb hby d9_11)
  refine Gl.via st7 ?_
  have N7_ := Fr.snoc X7 N2_ hp0
  have Z8 : n0 ≤ h7.size := Nat.le_trans Z3 (Keep.of_wr W7).1
  have Y9 : h0.size ≤ h7.size := Nat.le_trans Y4 (Keep.of_wr W7).1
  show Gl p.tables e below T7 (mkF m 14 #[.val (.ref ca), .val (.int c0), .val (.double c1), .second, .val (.ref c2), .val (.ref c3)] []) G
  refine Gl.via (fun _ k => XS.aloadN X7.here hx rfl (hb hby d9_14) rfl rfl k) ?_
  show Gl p.tables e below T7 (mkF m 15 #[.val (.ref ca), .val (.int c0), .val (.double c1), .second, .val (.ref c2), .val (.ref c3)] [(.ref ca)]) G
  refine Gl.via (fun _ k => XS.aload X7.here hx rfl (hb hby d9_15) rfl rfl k) ?_
  show Gl p.tables e below T7 (mkF m 17 #[.val (.ref ca), .val (.int c0), .val (.double c1), .second, .val (.ref c2), .val (.ref c3)] [(.ref c2), (.ref ca)]) G
  have G10 : Fld Z h7 ca "com/example/kereso/kereso/Search$Hit" "url" "Ljava/lang/String;" cu2 := ((F3_ca_url.other W2 (Or.inr (slot_ne (Or.inr (hw _ (List.mem_of_getElem? (i := 67) rfl))) (Or.inr (hw _ (List.mem_of_getElem? (i := 63) rfl))) (by decide) (t := (.object "java/lang/String")) (t' := .int) (by decide) (by decide)))).other W7 (Or.inr (slot_ne (Or.inr (hw _ (List.mem_of_getElem? (i := 67) rfl))) (Or.inr (hw _ (List.mem_of_getElem? (i := 65) rfl))) (by decide) (t := (.object "java/lang/String")) (t' := .double) (by decide) (by decide))))
  have G11 : Exa Z h7 ca "com/example/kereso/kereso/Search$Hit" := (G6.wr W7)
  obtain ⟨T12, h12, X12, e12, W12, st12⟩ := putF X7 hx hZ hown (host := "") (Or.inl (hw _ (List.mem_of_getElem? (i := 66) rfl))) Via.refl e7 G10 G11 (Or.inr ⟨(hw _ (List.mem_of_getElem? (i := 67) rfl)), rfl, hnm⟩) (hw _ (List.mem_of_getElem? (i := 27) rfl)) (ty := (.object "java/lang/String")) (by decide) rfl rfl (g := (mkF m 17 #[.val (.ref ca), .val (.int c0), .val (.double c1), .second, .val (.ref c2), .val (.ref c3)] [(.ref c2), (.ref ca)])) rfl rfl (hb hby d9_17)
  refine Gl.via st12 ?_
  have N12_ := Fr.snoc X12 N7_ hp0
  have Z13 : n0 ≤ h12.size := Nat.le_trans Z8 (Keep.of_wr W12).1
  have Y14 : h0.size ≤ h12.size := Nat.le_trans Y9 (Keep.of_wr W12).1
  show Gl p.tables e below T12 (mkF m 20 #[.val (.ref ca), .val (.int c0), .val (.double c1), .second, .val (.ref c2), .val (.ref c3)] []) G
  refine Gl.via (fun _ k => XS.aloadN X12.here hx rfl (hb hby d9_20) rfl rfl k) ?_
  show Gl p.tables e below T12 (mkF m 21 #[.val (.ref ca), .val (.int c0), .val (.double c1), .second, .val (.ref c2), .val (.ref c3)] [(.ref ca)]) G
  refine Gl.via (fun _ k => XS.aload X12.here hx rfl (hb hby d9_21) rfl rfl k) ?_
  show Gl p.tables e below T12 (mkF m 23 #[.val (.ref ca), .val (.int c0), .val (.double c1), .second, .val (.ref c2), .val (.ref c3)] [(.ref c3), (.ref ca)]) G
  have G15 : Fld Z h12 ca "com/example/kereso/kereso/Search$Hit" "title" "Ljava/lang/String;" cu3 := (((F4_ca_title.other W2 (Or.inr (slot_ne (Or.inr (hw _ (List.mem_of_getElem? (i := 69) rfl))) (Or.inr (hw _ (List.mem_of_getElem? (i := 63) rfl))) (by decide) (t := (.object "java/lang/String")) (t' := .int) (by decide) (by decide)))).other W7 (Or.inr (slot_ne (Or.inr (hw _ (List.mem_of_getElem? (i := 69) rfl))) (Or.inr (hw _ (List.mem_of_getElem? (i := 65) rfl))) (by decide) (t := (.object "java/lang/String")) (t' := .double) (by decide) (by decide)))).other W12 (Or.inr (slot_ne (Or.inr (hw _ (List.mem_of_getElem? (i := 69) rfl))) (Or.inr (hw _ (List.mem_of_getElem? (i := 67) rfl))) (by decide) (t := (.object "java/lang/String")) (t' := (.object "java/lang/String")) (by decide) (by decide))))
  have G16 : Exa Z h12 ca "com/example/kereso/kereso/Search$Hit" := (G11.wr W12)
  obtain ⟨T17, h17, X17, e17, W17, st17⟩ := putF X12 hx hZ hown (host := "") (Or.inl (hw _ (List.mem_of_getElem? (i := 68) rfl))) Via.refl e12 G15 G16 (Or.inr ⟨(hw _ (List.mem_of_getElem? (i := 69) rfl)), rfl, hnm⟩) (hw _ (List.mem_of_getElem? (i := 27) rfl)) (ty := (.object "java/lang/String")) (by decide) rfl rfl (g := (mkF m 23 #[.val (.ref ca), .val (.int c0), .val (.double c1), .second, .val (.ref c2), .val (.ref c3)] [(.ref c3), (.ref ca)])) rfl rfl (hb hby d9_23)
  refine Gl.via st17 ?_
  have N17_ := Fr.snoc X17 N12_ hp0
  have Z18 : n0 ≤ h17.size := Nat.le_trans Z13 (Keep.of_wr W17).1
  have Y19 : h0.size ≤ h17.size := Nat.le_trans Y14 (Keep.of_wr W17).1
  show Gl p.tables e below T17 (mkF m 26 #[.val (.ref ca), .val (.int c0), .val (.double c1), .second, .val (.ref c2), .val (.ref c3)] []) G
  obtain ⟨fs, hr, hrun, hended, hW, hsame⟩ := X17.leave (v := none) (fun _ => rfl)
  have G20 : Exa Z h17 ca "com/example/kereso/kereso/Search$Hit" := (G16.wr W17)
  have hq : ∀ L, Fr n0 L → Q_h_init Z ca c0 c1 c2 c3 cu0 cu1 cu2 cu3 h0 n0 (none) T17.heap L := by
    intro L hN
    rw [e17]
    exact ⟨rfl, hN, (((((Keep.refl h0 [ca]).wr W2 (Or.inl (List.mem_of_getElem? (i := 0) rfl))).wr W7 (Or.inl (List.mem_of_getElem? (i := 0) rfl))).wr W12 (Or.inl (List.mem_of_getElem? (i := 0) rfl))).wr W17 (Or.inl (List.mem_of_getElem? (i := 0) rfl))), G20⟩
  rw [hG]
  exact Gl.fin (X17.returnOut hx Bd.returns (hb hby d9_26) hr) ⟨_, hrun, hended, _, _, rfl, hq _ N17_, ⟨_, rfl⟩, hW, hsame.mono (by decide) (by decide)⟩
theorem d15_0 : decode jdk_29_method_65_code 0 = .ok (.iload_n 0, 1) := by decide +kernel
theorem d15_1 : decode jdk_29_method_65_code 1 = .ok (.iload_n 1, 1) := by decide +kernel
theorem d15_2 : decode jdk_29_method_65_code 2 = .ok (.if_icmp .lt 7, 3) := by decide +kernel
theorem d15_5 : decode jdk_29_method_65_code 5 = .ok (.iload_n 0, 1) := by decide +kernel
theorem d15_6 : decode jdk_29_method_65_code 6 = .ok (.goto 4, 3) := by decide +kernel
theorem d15_10 : decode jdk_29_method_65_code 10 = .ok (.ireturn, 1) := by decide +kernel
theorem ef_mmax (m : MethodId) (x0 : Int32) (x1 : Int32) : entryFrame m #[(.int x0), (.int x1)] 2 = mkF m 0 #[.val (.int x0), .val (.int x1)] [] := by first | (simp [entryFrame, mkF, argsToLocals, Value.category]; done) | rfl
def Q_mmax (Z : State) (mx : Int32) (my : Int32) (h0 : Heap) (n0 : Nat) (v : Option Value) (h : Heap) (L : List Loc) : Prop := v = some (.int mx) ∧ Fr n0 L ∧ h = h0
set_option maxRecDepth 65536 in
set_option maxHeartbeats 40000000 in
theorem mmax (l : Launch) (Z : State) (a0 : Array Value) (hw : ∀ d ∈ tables_1, d.before a0 Z = true) (ws : List Jvm.Cond) (mx : Int32) (my : Int32) (h0 : Heap) (n0 : Nat) (Z0 : n0 ≤ h0.size) (hm : ¬ (mx < my)) :
    MetFree l (⟨"java/lang/Math", "max", "(II)I"⟩ : MethodName) (head1 (Jvm.Cond.code (⟨"java/lang/Math", "max", "(II)I"⟩ : MethodName) jdk_29_method_65_code 2 (some .int) :: ws) ({ frames := 0, cells := 0, slots := 0, locals := 0 } : Room)) (fun a U => a = #[(.int mx), (.int my)] ∧ Z.Warmed39 U.vm ∧ U.heap = h0) (fun _ _ _ _ _ => True) (fun _ U o U' => ∃ v L, o = .returned v ∧ Q_mmax Z mx my h0 n0 v U'.heap L ∧ FrameEnd U o U' L ({ frames := 0, cells := 0, slots := 0, locals := 0 } : Room).cells ({ frames := 0, cells := 0, slots := 0, locals := 0 } : Room).slots) := by
  refine MetFree.of_bodySF (Jvm.Free.JP.mathPlain rfl (by decide +kernel)) hisR ?_
  intro p e s m args below meth c s₁ Bd hml0 hP hK
  obtain ⟨rfl, hZ, hh⟩ := hP
  have hx := Bd.exec
  have hby := Bd.bytes
  have hml : c.maxLocals = 2 := hml0
  have hown : s.vm.findClass "java/lang/Math" = some m.cls := findClass_of_methodNamed Bd.named
  have hnm := (name_of_methodNamed Bd.named Bd.method).1
  have X0 : Stand p l e ({ frames := 0, cells := 0, slots := 0, locals := 0 } : Room) s m #[(.int mx), (.int my)] below meth c s₁ [] 0 0 := Stand.of_body Bd
  have e0 : s₁.heap = h0 := by rw [← hh, Bd.state]; rfl
  have N0 := Fr.nil n0
  obtain ⟨G, hG⟩ : ∃ G : State → Prop, G = (fun U' => ∃ o, U'.status = .running ∧ Ended U' below o ∧ ∃ v L, o = .returned v ∧ Q_mmax Z mx my h0 n0 v U'.heap L ∧ FrameEnd s o U' L ({ frames := 0, cells := 0, slots := 0, locals := 0 } : Room).cells ({ frames := 0, cells := 0, slots := 0, locals := 0 } : Room).slots) := ⟨_, rfl⟩
  suffices key : Gl p.tables e below s₁ (mkF m 0 #[.val (.int mx), .val (.int my)] []) G by
    obtain ⟨s₂, k1, k2⟩ := key
    rw [hG] at k2
    obtain ⟨o, k3, k4, k5⟩ := k2
    exact ⟨s₂, o, castTop (ef_mmax m mx my) k1, k3, k4, k5⟩
  show Gl p.tables e below s₁ (mkF m 0 #[.val (.int mx), .val (.int my)] []) G
  refine Gl.via (fun _ k => XS.iloadN X0.here hx rfl (hb hby d15_0) rfl k) ?_
  show Gl p.tables e below s₁ (mkF m 1 #[.val (.int mx), .val (.int my)] [(.int mx)]) G
  refine Gl.via (fun _ k => XS.iloadN X0.here hx rfl (hb hby d15_1) rfl k) ?_
  show Gl p.tables e below s₁ (mkF m 2 #[.val (.int mx), .val (.int my)] [(.int my), (.int mx)]) G
  refine Gl.via (fun _ k => XS.icmpNo X0.here hx rfl (hb hby d15_2) rfl (flt hm).1 k) ?_
  show Gl p.tables e below s₁ (mkF m 5 #[.val (.int mx), .val (.int my)] []) G
  refine Gl.via (fun _ k => XS.iloadN X0.here hx rfl (hb hby d15_5) rfl k) ?_
  show Gl p.tables e below s₁ (mkF m 6 #[.val (.int mx), .val (.int my)] [(.int mx)]) G
  refine Gl.via (fun _ k => XS.goto X0.here hx rfl (pc0 := 6) (pc' := 10) rfl (hb hby d15_6) (by decide) (by decide) k) ?_
  show Gl p.tables e below s₁ (mkF m 10 #[.val (.int mx), .val (.int my)] [(.int mx)]) G
  obtain ⟨fs, hr, hrun, hended, hW, hsame⟩ := X0.leave (v := some (.int mx)) (fun h => by rw [Bd.returns] at h; cases h)
  have hq : ∀ L, Fr n0 L → Q_mmax Z mx my h0 n0 (some (.int mx)) s₁.heap L := by
    intro L hN
    rw [e0]
    exact ⟨rfl, hN, rfl⟩
  rw [hG]
  exact Gl.fin (retOut X0 hx Bd.returns rfl (Or.inl ⟨rfl, Or.inl rfl, _, rfl⟩) (hb hby d15_10) hr) ⟨_, hrun, hended, _, _, rfl, hq _ N0, ⟨_, rfl⟩, hW, hsame.mono (by decide) (by decide)⟩
theorem d14_0 : decode jdk_38_method_6_code 0 = .ok (.aload_n 0, 1) := by decide +kernel
theorem d14_1 : decode jdk_38_method_6_code 1 = .ok (.getfield 9, 3) := by decide +kernel
theorem d14_4 : decode jdk_38_method_6_code 4 = .ok (.arraylength, 1) := by decide +kernel
theorem d14_5 : decode jdk_38_method_6_code 5 = .ok (.istore_n 2, 1) := by decide +kernel
theorem d14_6 : decode jdk_38_method_6_code 6 = .ok (.iload_n 2, 1) := by decide +kernel
theorem d14_7 : decode jdk_38_method_6_code 7 = .ok (.ifCond .gt 13, 3) := by decide +kernel
theorem d14_10 : decode jdk_38_method_6_code 10 = .ok (.aload_n 0, 1) := by decide +kernel
theorem d14_11 : decode jdk_38_method_6_code 11 = .ok (.getfield 9, 3) := by decide +kernel
theorem d14_14 : decode jdk_38_method_6_code 14 = .ok (.getstatic 39, 3) := by decide +kernel
theorem d14_17 : decode jdk_38_method_6_code 17 = .ok (.if_acmp .eq 28, 3) := by decide +kernel
theorem d14_45 : decode jdk_38_method_6_code 45 = .ok (.aload_n 0, 1) := by decide +kernel
theorem d14_46 : decode jdk_38_method_6_code 46 = .ok (.bipush 10, 2) := by decide +kernel
theorem d14_48 : decode jdk_38_method_6_code 48 = .ok (.iload_n 1, 1) := by decide +kernel
theorem d14_49 : decode jdk_38_method_6_code 49 = .ok (.invokestatic 79, 3) := by decide +kernel
theorem pd_4 : parseMethodDescriptor "(II)I" = some ⟨[.int, .int], some .int⟩ := by decide +kernel
theorem d14_52 : decode jdk_38_method_6_code 52 = .ok (.anewarray 7, 3) := by decide +kernel
theorem d14_55 : decode jdk_38_method_6_code 55 = .ok (.dup_x1, 1) := by decide +kernel
theorem d14_56 : decode jdk_38_method_6_code 56 = .ok (.putfield 9, 3) := by decide +kernel
theorem d14_59 : decode jdk_38_method_6_code 59 = .ok (.areturn, 1) := by decide +kernel
theorem ef_grow1 (m : MethodId) (x0 : Addr) (x1 : Int32) : entryFrame m #[(.ref x0), (.int x1)] 4 = mkF m 0 #[.val (.ref x0), .val (.int x1), .unset, .unset] [] := by first | (simp [entryFrame, mkF, argsToLocals, Value.category]; done) | rfl
def Q_grow1 (Z : State) (la : Addr) (da : Addr) (dk : ClassId) (mc : Int32) (h0 : Heap) (n0 : Nat) (v : Option Value) (h : Heap) (L : List Loc) : Prop := ∃ (b : Addr), ∃ (k : ClassId), v = some (.ref b) ∧ Fr n0 L ∧ Keep h0 h [la] ∧ Exa Z h la "java/util/ArrayList" ∧ Fld Z h la "java/util/AbstractList" "modCount" "I" (.int mc) ∧ Fld Z h la "java/util/ArrayList" "elementData" "[Ljava/lang/Object;" (.ref b) ∧ Fld Z h la "java/util/ArrayList" "size" "I" (.int (0 : Int32)) ∧ Arv Z h b k (.object "java/lang/Object") (10 : Int32) [.null, .null, .null, .null, .null, .null, .null, .null, .null, .null] .null ∧ (h0.size ≤ b) ∧ (Ovr Z k "java/lang/Object")
set_option maxRecDepth 65536 in
set_option maxHeartbeats 40000000 in
theorem grow1 (l : Launch) (Z : State) (a0 : Array Value) (hw : ∀ d ∈ tables_1, d.before a0 Z = true) (ws : List Jvm.Cond) (la : Addr) (da : Addr) (dk : ClassId) (mc : Int32) (h0 : Heap) (n0 : Nat) (Z0 : n0 ≤ h0.size) (F0_la : Exa Z h0 la "java/util/ArrayList") (F1_la_modCount : Fld Z h0 la "java/util/AbstractList" "modCount" "I" (.int mc)) (F2_la_elementData : Fld Z h0 la "java/util/ArrayList" "elementData" "[Ljava/lang/Object;" (.ref da)) (F3_la_size : Fld Z h0 la "java/util/ArrayList" "size" "I" (.int (0 : Int32))) (F4_java_util_ArrayList : Sta Z Z.heap "java/util/ArrayList" "DEFAULTCAPACITY_EMPTY_ELEMENTDATA" "[Ljava/lang/Object;" (.ref da)) (F5_da : Arv Z Z.heap da dk (.object "java/lang/Object") (0 : Int32) [] .null) (F6_ : Old Z n0 h0) (hp0 : n0 ≤ la) :
    MetFree l (⟨"java/util/ArrayList", "grow", "(I)[Ljava/lang/Object;"⟩ : MethodName) (head1 (Jvm.Cond.code (⟨"java/util/ArrayList", "grow", "(I)[Ljava/lang/Object;"⟩ : MethodName) jdk_38_method_6_code 4 (some (.array (.object "java/lang/Object"))) :: ws) ({ frames := 1, cells := 1, slots := 10, locals := 14 } : Room)) (fun a U => a = #[(.ref la), (.int (1 : Int32))] ∧ Z.Warmed39 U.vm ∧ U.heap = h0) (fun _ _ _ _ _ => True) (fun _ U o U' => ∃ v L, o = .returned v ∧ Q_grow1 Z la da dk mc h0 n0 v U'.heap L ∧ FrameEnd U o U' L ({ frames := 1, cells := 1, slots := 10, locals := 14 } : Room).cells ({ frames := 1, cells := 1, slots := 10, locals := 14 } : Room).slots) := by
  refine MetFree.of_bodySF (plainFor_of_name pn_3) hisR ?_
  intro p e s m args below meth c s₁ Bd hml0 hP hK
  obtain ⟨rfl, hZ, hh⟩ := hP
  have hx := Bd.exec
  have hby := Bd.bytes
  have hml : c.maxLocals = 4 := hml0
  have hown : s.vm.findClass "java/util/ArrayList" = some m.cls := findClass_of_methodNamed Bd.named
  have hnm := (name_of_methodNamed Bd.named Bd.method).1
  have X0 : Stand p l e ({ frames := 1, cells := 1, slots := 10, locals := 14 } : Room) s m #[(.ref la), (.int (1 : Int32))] below meth c s₁ [] 0 0 := Stand.of_body Bd
  have e0 : s₁.heap = h0 := by rw [← hh, Bd.state]; rfl
  have N0 := Fr.nil n0
  obtain ⟨G, hG⟩ : ∃ G : State → Prop, G = (fun U' => ∃ o, U'.status = .running ∧ Ended U' below o ∧ ∃ v L, o = .returned v ∧ Q_grow1 Z la da dk mc h0 n0 v U'.heap L ∧ FrameEnd s o U' L ({ frames := 1, cells := 1, slots := 10, locals := 14 } : Room).cells ({ frames := 1, cells := 1, slots := 10, locals := 14 } : Room).slots) := ⟨_, rfl⟩
  suffices key : Gl p.tables e below s₁ (mkF m 0 #[.val (.ref la), .val (.int (1 : Int32)), .unset, .unset] []) G by
    obtain ⟨s₂, k1, k2⟩ := key
    rw [hG] at k2
    obtain ⟨o, k3, k4, k5⟩ := k2
    exact ⟨s₂, o, castTop (ef_grow1 m la (1 : Int32)) k1, k3, k4, k5⟩
  show Gl p.tables e below s₁ (mkF m 0 #[.val (.ref la), .val (.int (1 : Int32)), .unset, .unset] []) G
  refine Gl.via (fun _ k => XS.aloadN X0.here hx rfl (hb hby d14_0) rfl rfl k) ?_
  show Gl p.tables e below s₁ (mkF m 1 #[.val (.ref la), .val (.int (1 : Int32)), .unset, .unset] [(.ref la)]) G
  obtain ⟨T1, X1, e1, st1⟩ := getF X0 hx hZ hown (host := "") (Or.inl (hw _ (List.mem_of_getElem? (i := 24) rfl))) Via.refl e0 F2_la_elementData (g := (mkF m 1 #[.val (.ref la), .val (.int (1 : Int32)), .unset, .unset] [(.ref la)])) rfl rfl (hb hby d14_1)
  refine Gl.via st1 ?_
  show Gl p.tables e below T1 (mkF m 4 #[.val (.ref la), .val (.int (1 : Int32)), .unset, .unset] [(.ref da)]) G
  have G2 : Arv Z h0 da dk (.object "java/lang/Object") (0 : Int32) [] .null := F5_da.ext F6_.2
  obtain ⟨cl3, Ar3, -, S3, N3, -, -⟩ := G2
  refine Gl.via (fun _ k => X1.arraylength hx (by rw [e1]; exact Ar3.1) (State.isArrayOf_alike hZ.alike Ar3.2.1) (g := (mkF m 4 #[.val (.ref la), .val (.int (1 : Int32)), .unset, .unset] [(.ref da)])) rfl rfl (hb hby d14_4) _ k) ?_
  rw [len_of S3 N3]
  show Gl p.tables e below T1 (mkF m 5 #[.val (.ref la), .val (.int (1 : Int32)), .unset, .unset] [(.int (0 : Int32))]) G
  refine Gl.via (fun _ k => XS.istoreN X1.here hx rfl (hb hby d14_5) rfl (l' := #[.val (.ref la), .val (.int (1 : Int32)), .val (.int (0 : Int32)), .unset]) rfl k) ?_
  show Gl p.tables e below T1 (mkF m 6 #[.val (.ref la), .val (.int (1 : Int32)), .val (.int (0 : Int32)), .unset] []) G
  refine Gl.via (fun _ k => XS.iloadN X1.here hx rfl (hb hby d14_6) rfl k) ?_
  show Gl p.tables e below T1 (mkF m 7 #[.val (.ref la), .val (.int (1 : Int32)), .val (.int (0 : Int32)), .unset] [(.int (0 : Int32))]) G
  refine Gl.via (fun _ k => XS.ifNo X1.here hx rfl (hb hby d14_7) rfl ((if0 _ _).trans (flt (by decide)).2.2.1) k) ?_
  show Gl p.tables e below T1 (mkF m 10 #[.val (.ref la), .val (.int (1 : Int32)), .val (.int (0 : Int32)), .unset] []) G
  refine Gl.via (fun _ k => XS.aloadN X1.here hx rfl (hb hby d14_10) rfl rfl k) ?_
  show Gl p.tables e below T1 (mkF m 11 #[.val (.ref la), .val (.int (1 : Int32)), .val (.int (0 : Int32)), .unset] [(.ref la)]) G
  obtain ⟨T4, X4, e4, st4⟩ := getF X1 hx hZ hown (host := "") (Or.inl (hw _ (List.mem_of_getElem? (i := 24) rfl))) Via.refl e1 F2_la_elementData (g := (mkF m 11 #[.val (.ref la), .val (.int (1 : Int32)), .val (.int (0 : Int32)), .unset] [(.ref la)])) rfl rfl (hb hby d14_11)
  refine Gl.via st4 ?_
  show Gl p.tables e below T4 (mkF m 14 #[.val (.ref la), .val (.int (1 : Int32)), .val (.int (0 : Int32)), .unset] [(.ref da)]) G
  have G5 : Sta Z h0 "java/util/ArrayList" "DEFAULTCAPACITY_EMPTY_ELEMENTDATA" "[Ljava/lang/Object;" (.ref da) := F4_java_util_ArrayList.ext F6_.2
  obtain ⟨T6, X6, e6, st6⟩ := getS2 X4 hx hZ hown (host := "") (Or.inl (hw _ (List.mem_of_getElem? (i := 23) rfl))) Via.refl e4 G5 (g := (mkF m 14 #[.val (.ref la), .val (.int (1 : Int32)), .val (.int (0 : Int32)), .unset] [(.ref da)])) rfl (hb hby d14_14)
  refine Gl.via st6 ?_
  show Gl p.tables e below T6 (mkF m 17 #[.val (.ref la), .val (.int (1 : Int32)), .val (.int (0 : Int32)), .unset] [(.ref da), (.ref da)]) G
  refine Gl.via (fun _ k => Jvm.RoadKit.acmp (g := (mkF m 17 #[.val (.ref la), .val (.int (1 : Int32)), .val (.int (0 : Int32)), .unset] [(.ref da), (.ref da)])) X6 hx rfl rfl rfl (pc0 := 17) (pc' := 45) (same := true) rfl (hb hby d14_17) rfl (decide_eq_true rfl) (by decide) (by decide) k) ?_
  show Gl p.tables e below T6 (mkF m 45 #[.val (.ref la), .val (.int (1 : Int32)), .val (.int (0 : Int32)), .unset] []) G
  refine Gl.via (fun _ k => XS.aloadN X6.here hx rfl (hb hby d14_45) rfl rfl k) ?_
  show Gl p.tables e below T6 (mkF m 46 #[.val (.ref la), .val (.int (1 : Int32)), .val (.int (0 : Int32)), .unset] [(.ref la)]) G
  refine Gl.via (fun _ k => XS.bipush X6.here hx rfl (hb hby d14_46) k) ?_
  show Gl p.tables e below T6 (mkF m 48 #[.val (.ref la), .val (.int (1 : Int32)), .val (.int (0 : Int32)), .unset] [(.int (10 : Int32)), (.ref la)]) G
  refine Gl.via (fun _ k => XS.iloadN X6.here hx rfl (hb hby d14_48) rfl k) ?_
  show Gl p.tables e below T6 (mkF m 49 #[.val (.ref la), .val (.int (1 : Int32)), .val (.int (0 : Int32)), .unset] [(.int (1 : Int32)), (.int (10 : Int32)), (.ref la)]) G
  obtain ⟨_, _, ⟨T7, L7, k7, n7⟩, -, X7, ⟨Lc7, hQ7, l7, y7, z7⟩, st7⟩ := Jvm.LawKit.callS X6 hx (y := (⟨"java/lang/Math", "max", "(II)I"⟩ : MethodName)) hown (mvT hZ (hw _ (List.mem_of_getElem? (i := 98) rfl))) (mvT hZ (hw _ (List.mem_of_getElem? (i := 99) rfl))) (mvT hZ (hw _ (List.mem_of_getElem? (i := 100) rfl))) (mvT hZ (hw _ (List.mem_of_getElem? (i := 101) rfl))) (by decide) (backOf (W := 1) (mmax l Z a0 hw [] (10 : Int32) (1 : Int32) h0 n0 Z0 (by first | assumption | rfl | decide | omega)) hZ (hw _ (List.mem_of_getElem? (i := 101) rfl)) (hw _ (List.mem_of_getElem? (i := 100) rfl)) (by decide) (by decide)) (g := (mkF m 49 #[.val (.ref la), .val (.int (1 : Int32)), .val (.int (0 : Int32)), .unset] [(.int (1 : Int32)), (.int (10 : Int32)), (.ref la)])) rfl (by rw [hml]; rfl) (argsL := [(.int (10 : Int32)), (.int (1 : Int32))]) (rest := [(.ref la)]) (lenOf pd_4 rfl) rfl (by show 2 * 0 + _ ≤ _; exact Nat.le_of_eq rfl) (hb hby d14_49) (fun _ _ => ⟨rfl, e6, (by decide : 0 + 0 ≤ _), (by decide : 0 + 0 ≤ _)⟩)
  dsimp only [Pt.U, Pt.locs, Pt.cells, Pt.slots] at X7 l7 y7 z7 st7 hQ7
  subst l7 y7 z7
  obtain ⟨rfl, N7q, eh7⟩ := hQ7
  have N7_ := Fr.app N0 N7q
  refine Gl.via (fun _ k => st7 _ k) ?_
  show Gl p.tables e below T7 (mkF m 52 #[.val (.ref la), .val (.int (1 : Int32)), .val (.int (0 : Int32)), .unset] [(.int (10 : Int32)), (.ref la)]) G
  obtain ⟨T8, h8, k8, X8, e8, E8, A8, O8, st8⟩ := newR X7 hx hZ hown (hw _ (List.mem_of_getElem? (i := 102) rfl)) (hw _ (List.mem_of_getElem? (i := 103) rfl)) eh7 (g := (mkF m 52 #[.val (.ref la), .val (.int (1 : Int32)), .val (.int (0 : Int32)), .unset] [(.int (10 : Int32)), (.ref la)])) rfl (hb hby d14_52) rfl (by decide) (cap := 10) (by decide) (by decide) (by decide) (by decide)
  obtain ⟨b8, g8⟩ : ∃ z, z = h0.size := ⟨_, rfl⟩
  rw [← g8] at A8 st8
  have ne9 : la ≠ b8 := Nat.ne_of_lt (Nat.lt_of_lt_of_le F0_la.lt (Nat.le_of_eq g8.symm))
  have ge10 : n0 ≤ b8 := Nat.le_trans Z0 (Nat.le_of_eq g8.symm)
  have gz11 : h0.size ≤ b8 := Nat.le_trans (Nat.le_refl h0.size) (Nat.le_of_eq g8.symm)
  refine Gl.via st8 ?_
  have Z12 : n0 ≤ h8.size := Nat.le_trans Z0 E8.1
  have Y13 : h0.size ≤ h8.size := Nat.le_trans (Nat.le_refl h0.size) E8.1
  have V14 : Arv Z h8 b8 k8 (.object "java/lang/Object") (10 : Int32) [.null, .null, .null, .null, .null, .null, .null, .null, .null, .null] .null := (Arv.new A8 (by decide)).pad (pad_rep [] .null 10)
  show Gl p.tables e below T8 (mkF m 55 #[.val (.ref la), .val (.int (1 : Int32)), .val (.int (0 : Int32)), .unset] [(.ref b8), (.ref la)]) G
  refine Gl.via (fun _ k => XS.dupX1 X8.here hx rfl (hb hby d14_55) rfl rfl rfl k) ?_
  show Gl p.tables e below T8 (mkF m 56 #[.val (.ref la), .val (.int (1 : Int32)), .val (.int (0 : Int32)), .unset] [(.ref b8), (.ref la), (.ref b8)]) G
  have G15 : Fld Z h8 la "java/util/ArrayList" "elementData" "[Ljava/lang/Object;" (.ref da) := (F2_la_elementData.ext E8)
  have G16 : Exa Z h8 la "java/util/ArrayList" := (F0_la.ext E8)
  obtain ⟨T17, h17, X17, e17, W17, st17⟩ := putF X8 hx hZ hown (host := "") (Or.inl (hw _ (List.mem_of_getElem? (i := 24) rfl))) Via.refl e8 G15 G16 (Or.inl (hw _ (List.mem_of_getElem? (i := 25) rfl))) (hw _ (List.mem_of_getElem? (i := 1) rfl)) (ty := (.array (.object "java/lang/Object"))) (by decide) rfl rfl (g := (mkF m 56 #[.val (.ref la), .val (.int (1 : Int32)), .val (.int (0 : Int32)), .unset] [(.ref b8), (.ref la), (.ref b8)])) rfl rfl (hb hby d14_56)
  refine Gl.via st17 ?_
  have N17_ := Fr.snoc X17 N7_ hp0
  have Z18 : n0 ≤ h17.size := Nat.le_trans Z12 (Keep.of_wr W17).1
  have Y19 : h0.size ≤ h17.size := Nat.le_trans Y13 (Keep.of_wr W17).1
  show Gl p.tables e below T17 (mkF m 59 #[.val (.ref la), .val (.int (1 : Int32)), .val (.int (0 : Int32)), .unset] [(.ref b8)]) G
  obtain ⟨fs, hr, hrun, hended, hW, hsame⟩ := X17.leave (v := some (.ref b8)) (fun h => by rw [Bd.returns] at h; cases h)
  have G20 : Exa Z h17 la "java/util/ArrayList" := (G16.wr W17)
  have G21 : Fld Z h17 la "java/util/AbstractList" "modCount" "I" (.int mc) := ((F1_la_modCount.ext E8).other W17 (Or.inr (slot_ne (Or.inl (hw _ (List.mem_of_getElem? (i := 22) rfl))) (Or.inl (hw _ (List.mem_of_getElem? (i := 25) rfl))) (by decide) (t := .int) (t' := (.array (.object "java/lang/Object"))) (by decide) (by decide))))
  have G22 : Fld Z h17 la "java/util/ArrayList" "size" "I" (.int (0 : Int32)) := ((F3_la_size.ext E8).other W17 (Or.inr (slot_ne (Or.inl (hw _ (List.mem_of_getElem? (i := 82) rfl))) (Or.inl (hw _ (List.mem_of_getElem? (i := 25) rfl))) (by decide) (t := .int) (t' := (.array (.object "java/lang/Object"))) (by decide) (by decide))))
  have G23 : Arv Z h17 b8 k8 (.object "java/lang/Object") (10 : Int32) [.null, .null, .null, .null, .null, .null, .null, .null, .null, .null] .null := (V14.other W17 (Ne.symm ne9))
  have hq : ∀ L, Fr n0 L → Q_grow1 Z la da dk mc h0 n0 (some (.ref b8)) T17.heap L := by
    intro L hN
    rw [e17]
    exact ⟨b8, k8, rfl, hN, (((Keep.refl h0 [la]).ext E8).wr W17 (Or.inl (List.mem_of_getElem? (i := 0) rfl))), G20, G21, (Fld.same W17 G15), G22, G23, gz11, O8⟩
  rw [hG]
  exact Gl.fin (retOut X17 hx Bd.returns rfl (Or.inr (Or.inr (Or.inr (Or.inr ⟨rfl, rfl, rfl⟩)))) (hb hby d14_59) hr) ⟨_, hrun, hended, _, _, rfl, hq _ N17_, ⟨_, rfl⟩, hW, hsame.mono (by decide) (by decide)⟩
theorem d13_0 : decode jdk_38_method_7_code 0 = .ok (.aload_n 0, 1) := by decide +kernel
theorem d13_1 : decode jdk_38_method_7_code 1 = .ok (.aload_n 0, 1) := by decide +kernel
theorem d13_2 : decode jdk_38_method_7_code 2 = .ok (.getfield 48, 3) := by decide +kernel
theorem d13_5 : decode jdk_38_method_7_code 5 = .ok (.iconst 1, 1) := by decide +kernel
theorem d13_6 : decode jdk_38_method_7_code 6 = .ok (.iadd, 1) := by decide +kernel
theorem d13_7 : decode jdk_38_method_7_code 7 = .ok (.invokevirtual 69, 3) := by decide +kernel
theorem pd_5 : parseMethodDescriptor "(I)[Ljava/lang/Object;" = some ⟨[.int], some (.array (.object "java/lang/Object"))⟩ := by decide +kernel
theorem d13_10 : decode jdk_38_method_7_code 10 = .ok (.areturn, 1) := by decide +kernel
theorem ef_grow0 (m : MethodId) (x0 : Addr) : entryFrame m #[(.ref x0)] 1 = mkF m 0 #[.val (.ref x0)] [] := by first | (simp [entryFrame, mkF, argsToLocals, Value.category]; done) | rfl
def Q_grow0 (Z : State) (la : Addr) (da : Addr) (dk : ClassId) (mc : Int32) (h0 : Heap) (n0 : Nat) (v : Option Value) (h : Heap) (L : List Loc) : Prop := ∃ (b : Addr), ∃ (k : ClassId), v = some (.ref b) ∧ Fr n0 L ∧ Keep h0 h [la] ∧ Exa Z h la "java/util/ArrayList" ∧ Fld Z h la "java/util/AbstractList" "modCount" "I" (.int mc) ∧ Fld Z h la "java/util/ArrayList" "elementData" "[Ljava/lang/Object;" (.ref b) ∧ Fld Z h la "java/util/ArrayList" "size" "I" (.int (0 : Int32)) ∧ Arv Z h b k (.object "java/lang/Object") (10 : Int32) [.null, .null, .null, .null, .null, .null, .null, .null, .null, .null] .null ∧ (h0.size ≤ b) ∧ (Ovr Z k "java/lang/Object")
set_option maxRecDepth 65536 in
set_option maxHeartbeats 40000000 in
theorem grow0 (l : Launch) (Z : State) (a0 : Array Value) (hw : ∀ d ∈ tables_1, d.before a0 Z = true) (ws : List Jvm.Cond) (la : Addr) (da : Addr) (dk : ClassId) (mc : Int32) (h0 : Heap) (n0 : Nat) (Z0 : n0 ≤ h0.size) (F0_la : Exa Z h0 la "java/util/ArrayList") (F1_la_modCount : Fld Z h0 la "java/util/AbstractList" "modCount" "I" (.int mc)) (F2_la_elementData : Fld Z h0 la "java/util/ArrayList" "elementData" "[Ljava/lang/Object;" (.ref da)) (F3_la_size : Fld Z h0 la "java/util/ArrayList" "size" "I" (.int (0 : Int32))) (F4_java_util_ArrayList : Sta Z Z.heap "java/util/ArrayList" "DEFAULTCAPACITY_EMPTY_ELEMENTDATA" "[Ljava/lang/Object;" (.ref da)) (F5_da : Arv Z Z.heap da dk (.object "java/lang/Object") (0 : Int32) [] .null) (F6_ : Old Z n0 h0) (hp0 : n0 ≤ la) :
    MetFree l (⟨"java/util/ArrayList", "grow", "()[Ljava/lang/Object;"⟩ : MethodName) (head1 (Jvm.Cond.code (⟨"java/util/ArrayList", "grow", "()[Ljava/lang/Object;"⟩ : MethodName) jdk_38_method_7_code 1 (some (.array (.object "java/lang/Object"))) :: ws) ({ frames := 2, cells := 1, slots := 10, locals := 29 } : Room)) (fun a U => a = #[(.ref la)] ∧ Z.Warmed39 U.vm ∧ U.heap = h0) (fun _ _ _ _ _ => True) (fun _ U o U' => ∃ v L, o = .returned v ∧ Q_grow0 Z la da dk mc h0 n0 v U'.heap L ∧ FrameEnd U o U' L ({ frames := 2, cells := 1, slots := 10, locals := 29 } : Room).cells ({ frames := 2, cells := 1, slots := 10, locals := 29 } : Room).slots) := by
  refine MetFree.of_bodySF (plainFor_of_name pn_3) hisR ?_
  intro p e s m args below meth c s₁ Bd hml0 hP hK
  obtain ⟨rfl, hZ, hh⟩ := hP
  have hx := Bd.exec
  have hby := Bd.bytes
  have hml : c.maxLocals = 1 := hml0
  have hown : s.vm.findClass "java/util/ArrayList" = some m.cls := findClass_of_methodNamed Bd.named
  have hnm := (name_of_methodNamed Bd.named Bd.method).1
  have X0 : Stand p l e ({ frames := 2, cells := 1, slots := 10, locals := 29 } : Room) s m #[(.ref la)] below meth c s₁ [] 0 0 := Stand.of_body Bd
  have e0 : s₁.heap = h0 := by rw [← hh, Bd.state]; rfl
  have N0 := Fr.nil n0
  obtain ⟨G, hG⟩ : ∃ G : State → Prop, G = (fun U' => ∃ o, U'.status = .running ∧ Ended U' below o ∧ ∃ v L, o = .returned v ∧ Q_grow0 Z la da dk mc h0 n0 v U'.heap L ∧ FrameEnd s o U' L ({ frames := 2, cells := 1, slots := 10, locals := 29 } : Room).cells ({ frames := 2, cells := 1, slots := 10, locals := 29 } : Room).slots) := ⟨_, rfl⟩
  suffices key : Gl p.tables e below s₁ (mkF m 0 #[.val (.ref la)] []) G by
    obtain ⟨s₂, k1, k2⟩ := key
    rw [hG] at k2
    obtain ⟨o, k3, k4, k5⟩ := k2
    exact ⟨s₂, o, castTop (ef_grow0 m la) k1, k3, k4, k5⟩
  show Gl p.tables e below s₁ (mkF m 0 #[.val (.ref la)] []) G
  refine Gl.via (fun _ k => XS.aloadN X0.here hx rfl (hb hby d13_0) rfl rfl k) ?_
  show Gl p.tables e below s₁ (mkF m 1 #[.val (.ref la)] [(.ref la)]) G
  refine Gl.via (fun _ k => XS.aloadN X0.here hx rfl (hb hby d13_1) rfl rfl k) ?_
  show Gl p.tables e below s₁ (mkF m 2 #[.val (.ref la)] [(.ref la), (.ref la)]) G
  obtain ⟨T1, X1, e1, st1⟩ := getF X0 hx hZ hown (host := "") (Or.inl (hw _ (List.mem_of_getElem? (i := 81) rfl))) Via.refl e0 F3_la_size (g := (mkF m 2 #[.val (.ref la)] [(.ref la), (.ref la)])) rfl rfl (hb hby d13_2)
  refine Gl.via st1 ?_
  show Gl p.tables e below T1 (mkF m 5 #[.val (.ref la)] [(.int (0 : Int32)), (.ref la)]) G
  refine Gl.via (fun _ k => XS.iconst X1.here hx rfl (hb hby d13_5) k) ?_
  show Gl p.tables e below T1 (mkF m 6 #[.val (.ref la)] [(.int (1 : Int32)), (.int (0 : Int32)), (.ref la)]) G
  refine Gl.via (fun _ k => XS.iadd X1.here hx rfl (hb hby d13_6) rfl k) ?_
  show Gl p.tables e below T1 (mkF m 7 #[.val (.ref la)] [(.int (1 : Int32)), (.ref la)]) G
  obtain ⟨cq2, q2, q2'⟩ := F0_la.cell
  obtain ⟨_, _, ⟨T2, L2, k2, n2⟩, -, X2, ⟨Lc2, hQ2, l2, y2, z2⟩, st2⟩ := X1.privateBack hx (y := (⟨"java/util/ArrayList", "grow", "(I)[Ljava/lang/Object;"⟩ : MethodName)) hown (mvT hZ (hw _ (List.mem_of_getElem? (i := 93) rfl))) (mvT hZ (hw _ (List.mem_of_getElem? (i := 94) rfl))) (mvT hZ (hw _ (List.mem_of_getElem? (i := 96) rfl))) (Cond.privateMethod_at (mvP hZ (hw _ (List.mem_of_getElem? (i := 95) rfl)) (args := #[]))) (mvT hZ (hw _ (List.mem_of_getElem? (i := 97) rfl))) (by decide) (backOf (W := 0) (grow1 l Z a0 hw [] la da dk mc h0 n0 Z0 F0_la F1_la_modCount F2_la_elementData F3_la_size F4_java_util_ArrayList F5_da F6_ hp0) hZ (hw _ (List.mem_of_getElem? (i := 97) rfl)) (hw _ (List.mem_of_getElem? (i := 2) rfl)) (by decide) (by decide)) (g := (mkF m 7 #[.val (.ref la)] [(.int (1 : Int32)), (.ref la)])) rfl (by rw [hml]; rfl) (Steps.refl _) (a := la) (by rw [e1]; exact q2) q2' (argsL := [(.int (1 : Int32))]) (rest := []) (lenOf pd_5 rfl) rfl (by show 2 * 0 + _ ≤ _; exact Nat.le_of_eq rfl) (hb hby d13_7) (fun _ _ => ⟨rfl, e1, (by decide : 0 + 1 ≤ _), (by decide : 0 + 10 ≤ _)⟩)
  dsimp only [Pt.U, Pt.locs, Pt.cells, Pt.slots] at X2 l2 y2 z2 st2 hQ2
  subst l2 y2 z2
  obtain ⟨b_2, k_2, rfl, N2q, K2, P3, P4, P5, P6, P7, R8, R9⟩ := hQ2
  have N2_ := Fr.app N0 N2q
  refine Gl.via (fun _ k => st2.trans k) ?_
  have ne10 : la ≠ b_2 := Nat.ne_of_lt (Nat.lt_of_lt_of_le F0_la.lt R8)
  have ge11 : n0 ≤ b_2 := Nat.le_trans Z0 R8
  have gz12 : h0.size ≤ b_2 := Nat.le_trans (Nat.le_refl h0.size) R8
  have Z13 : n0 ≤ T2.heap.size := Nat.le_trans Z0 K2.1
  have Y14 : h0.size ≤ T2.heap.size := Nat.le_trans (Nat.le_refl h0.size) K2.1
  show Gl p.tables e below T2 (mkF m 10 #[.val (.ref la)] [(.ref b_2)]) G
  obtain ⟨fs, hr, hrun, hended, hW, hsame⟩ := X2.leave (v := some (.ref b_2)) (fun h => by rw [Bd.returns] at h; cases h)
  have hq : ∀ L, Fr n0 L → Q_grow0 Z la da dk mc h0 n0 (some (.ref b_2)) T2.heap L := by
    intro L hN
    exact ⟨b_2, k_2, rfl, hN, ((Keep.refl h0 [la]).trans K2 (allS (Or.inl (List.mem_of_getElem? (i := 0) rfl)) all0)), P3, P4, P5, P6, P7, R8, R9⟩
  rw [hG]
  exact Gl.fin (retOut X2 hx Bd.returns rfl (Or.inr (Or.inr (Or.inr (Or.inr ⟨rfl, rfl, rfl⟩)))) (hb hby d13_10) hr) ⟨_, hrun, hended, _, _, rfl, hq _ N2_, ⟨_, rfl⟩, hW, hsame.mono (by decide) (by decide)⟩
theorem d12_0 : decode jdk_38_method_24_code 0 = .ok (.iload_n 3, 1) := by decide +kernel
theorem d12_1 : decode jdk_38_method_24_code 1 = .ok (.aload_n 2, 1) := by decide +kernel
theorem d12_2 : decode jdk_38_method_24_code 2 = .ok (.arraylength, 1) := by decide +kernel
theorem d12_3 : decode jdk_38_method_24_code 3 = .ok (.if_icmp .ne 8, 3) := by decide +kernel
theorem d12_6 : decode jdk_38_method_24_code 6 = .ok (.aload_n 0, 1) := by decide +kernel
theorem d12_7 : decode jdk_38_method_24_code 7 = .ok (.invokevirtual 129, 3) := by decide +kernel
theorem pd_6 : parseMethodDescriptor "()[Ljava/lang/Object;" = some ⟨[], some (.array (.object "java/lang/Object"))⟩ := by decide +kernel
theorem d12_10 : decode jdk_38_method_24_code 10 = .ok (.astore_n 2, 1) := by decide +kernel
theorem d12_11 : decode jdk_38_method_24_code 11 = .ok (.aload_n 2, 1) := by decide +kernel
theorem d12_12 : decode jdk_38_method_24_code 12 = .ok (.iload_n 3, 1) := by decide +kernel
theorem d12_13 : decode jdk_38_method_24_code 13 = .ok (.aload_n 1, 1) := by decide +kernel
theorem d12_14 : decode jdk_38_method_24_code 14 = .ok (.aastore, 1) := by decide +kernel
theorem d12_15 : decode jdk_38_method_24_code 15 = .ok (.aload_n 0, 1) := by decide +kernel
theorem d12_16 : decode jdk_38_method_24_code 16 = .ok (.iload_n 3, 1) := by decide +kernel
theorem d12_17 : decode jdk_38_method_24_code 17 = .ok (.iconst 1, 1) := by decide +kernel
theorem d12_18 : decode jdk_38_method_24_code 18 = .ok (.iadd, 1) := by decide +kernel
theorem d12_19 : decode jdk_38_method_24_code 19 = .ok (.putfield 48, 3) := by decide +kernel
theorem d12_22 : decode jdk_38_method_24_code 22 = .ok (.return_, 1) := by decide +kernel
theorem ef_add3 (m : MethodId) (x0 : Addr) (x1 : Addr) (x2 : Addr) (x3 : Int32) : entryFrame m #[(.ref x0), (.ref x1), (.ref x2), (.int x3)] 4 = mkF m 0 #[.val (.ref x0), .val (.ref x1), .val (.ref x2), .val (.int x3)] [] := by first | (simp [entryFrame, mkF, argsToLocals, Value.category]; done) | rfl
def Q_add3 (Z : State) (la : Addr) (da : Addr) (dk : ClassId) (mc : Int32) (le : Addr) (h0 : Heap) (n0 : Nat) (v : Option Value) (h : Heap) (L : List Loc) : Prop := v = none ∧ Fr n0 L ∧ Keep h0 h [la] ∧ Exa Z h la "java/util/ArrayList"
set_option maxRecDepth 65536 in
set_option maxHeartbeats 40000000 in
theorem add3 (l : Launch) (Z : State) (a0 : Array Value) (hw : ∀ d ∈ tables_1, d.before a0 Z = true) (ws : List Jvm.Cond) (la : Addr) (da : Addr) (dk : ClassId) (mc : Int32) (le : Addr) (h0 : Heap) (n0 : Nat) (Z0 : n0 ≤ h0.size) (F0_la : Exa Z h0 la "java/util/ArrayList") (F1_la_modCount : Fld Z h0 la "java/util/AbstractList" "modCount" "I" (.int mc)) (F2_la_elementData : Fld Z h0 la "java/util/ArrayList" "elementData" "[Ljava/lang/Object;" (.ref da)) (F3_la_size : Fld Z h0 la "java/util/ArrayList" "size" "I" (.int (0 : Int32))) (F4_java_util_ArrayList : Sta Z Z.heap "java/util/ArrayList" "DEFAULTCAPACITY_EMPTY_ELEMENTDATA" "[Ljava/lang/Object;" (.ref da)) (F5_da : Arv Z Z.heap da dk (.object "java/lang/Object") (0 : Int32) [] .null) (F6_ : Old Z n0 h0) (F7_le : Exa Z h0 le "com/example/kereso/kereso/Search$Hit") (hp0 : n0 ≤ la) :
    MetFree l (⟨"java/util/ArrayList", "add", "(Ljava/lang/Object;[Ljava/lang/Object;I)V"⟩ : MethodName) (head1 (Jvm.Cond.code (⟨"java/util/ArrayList", "add", "(Ljava/lang/Object;[Ljava/lang/Object;I)V"⟩ : MethodName) jdk_38_method_24_code 4 none :: ws) ({ frames := 3, cells := 1, slots := 10, locals := 41 } : Room)) (fun a U => a = #[(.ref la), (.ref le), (.ref da), (.int (0 : Int32))] ∧ Z.Warmed39 U.vm ∧ U.heap = h0) (fun _ _ _ _ _ => True) (fun _ U o U' => ∃ v L, o = .returned v ∧ Q_add3 Z la da dk mc le h0 n0 v U'.heap L ∧ FrameEnd U o U' L ({ frames := 3, cells := 1, slots := 10, locals := 41 } : Room).cells ({ frames := 3, cells := 1, slots := 10, locals := 41 } : Room).slots) := by
  refine MetFree.of_bodySF (plainFor_of_name pn_3) hisR ?_
  intro p e s m args below meth c s₁ Bd hml0 hP hK
  obtain ⟨rfl, hZ, hh⟩ := hP
  have hx := Bd.exec
  have hby := Bd.bytes
  have hml : c.maxLocals = 4 := hml0
  have hown : s.vm.findClass "java/util/ArrayList" = some m.cls := findClass_of_methodNamed Bd.named
  have hnm := (name_of_methodNamed Bd.named Bd.method).1
  have X0 : Stand p l e ({ frames := 3, cells := 1, slots := 10, locals := 41 } : Room) s m #[(.ref la), (.ref le), (.ref da), (.int (0 : Int32))] below meth c s₁ [] 0 0 := Stand.of_body Bd
  have e0 : s₁.heap = h0 := by rw [← hh, Bd.state]; rfl
  have N0 := Fr.nil n0
  obtain ⟨G, hG⟩ : ∃ G : State → Prop, G = (fun U' => ∃ o, U'.status = .running ∧ Ended U' below o ∧ ∃ v L, o = .returned v ∧ Q_add3 Z la da dk mc le h0 n0 v U'.heap L ∧ FrameEnd s o U' L ({ frames := 3, cells := 1, slots := 10, locals := 41 } : Room).cells ({ frames := 3, cells := 1, slots := 10, locals := 41 } : Room).slots) := ⟨_, rfl⟩
  suffices key : Gl p.tables e below s₁ (mkF m 0 #[.val (.ref la), .val (.ref le), .val (.ref da), .val (.int (0 : Int32))] []) G by
    obtain ⟨s₂, k1, k2⟩ := key
    rw [hG] at k2
    obtain ⟨o, k3, k4, k5⟩ := k2
    exact ⟨s₂, o, castTop (ef_add3 m la le da (0 : Int32)) k1, k3, k4, k5⟩
  show Gl p.tables e below s₁ (mkF m 0 #[.val (.ref la), .val (.ref le), .val (.ref da), .val (.int (0 : Int32))] []) G
  refine Gl.via (fun _ k => XS.iloadN X0.here hx rfl (hb hby d12_0) rfl k) ?_
  show Gl p.tables e below s₁ (mkF m 1 #[.val (.ref la), .val (.ref le), .val (.ref da), .val (.int (0 : Int32))] [(.int (0 : Int32))]) G
  refine Gl.via (fun _ k => XS.aloadN X0.here hx rfl (hb hby d12_1) rfl rfl k) ?_
  show Gl p.tables e below s₁ (mkF m 2 #[.val (.ref la), .val (.ref le), .val (.ref da), .val (.int (0 : Int32))] [(.ref da), (.int (0 : Int32))]) G
  have G1 : Arv Z h0 da dk (.object "java/lang/Object") (0 : Int32) [] .null := F5_da.ext F6_.2
  obtain ⟨cl2, Ar2, -, S2, N2, -, -⟩ := G1
  refine Gl.via (fun _ k => X0.arraylength hx (by rw [e0]; exact Ar2.1) (State.isArrayOf_alike hZ.alike Ar2.2.1) (g := (mkF m 2 #[.val (.ref la), .val (.ref le), .val (.ref da), .val (.int (0 : Int32))] [(.ref da), (.int (0 : Int32))])) rfl rfl (hb hby d12_2) _ k) ?_
  rw [len_of S2 N2]
  show Gl p.tables e below s₁ (mkF m 3 #[.val (.ref la), .val (.ref le), .val (.ref da), .val (.int (0 : Int32))] [(.int (0 : Int32)), (.int (0 : Int32))]) G
  refine Gl.via (fun _ k => XS.icmpNo X0.here hx rfl (hb hby d12_3) rfl (teq (by decide)).2 k) ?_
  show Gl p.tables e below s₁ (mkF m 6 #[.val (.ref la), .val (.ref le), .val (.ref da), .val (.int (0 : Int32))] []) G
  refine Gl.via (fun _ k => XS.aloadN X0.here hx rfl (hb hby d12_6) rfl rfl k) ?_
  show Gl p.tables e below s₁ (mkF m 7 #[.val (.ref la), .val (.ref le), .val (.ref da), .val (.int (0 : Int32))] [(.ref la)]) G
  obtain ⟨cq3, q3, q3'⟩ := F0_la.cell
  obtain ⟨_, _, ⟨T3, L3, k3, n3⟩, -, X3, ⟨Lc3, hQ3, l3, y3, z3⟩, st3⟩ := X0.privateBack hx (y := (⟨"java/util/ArrayList", "grow", "()[Ljava/lang/Object;"⟩ : MethodName)) hown (mvT hZ (hw _ (List.mem_of_getElem? (i := 88) rfl))) (mvT hZ (hw _ (List.mem_of_getElem? (i := 89) rfl))) (mvT hZ (hw _ (List.mem_of_getElem? (i := 91) rfl))) (Cond.privateMethod_at (mvP hZ (hw _ (List.mem_of_getElem? (i := 90) rfl)) (args := #[]))) (mvT hZ (hw _ (List.mem_of_getElem? (i := 92) rfl))) (by decide) (backOf (W := 0) (grow0 l Z a0 hw [] la da dk mc h0 n0 Z0 F0_la F1_la_modCount F2_la_elementData F3_la_size F4_java_util_ArrayList F5_da F6_ hp0) hZ (hw _ (List.mem_of_getElem? (i := 92) rfl)) (hw _ (List.mem_of_getElem? (i := 2) rfl)) (by decide) (by decide)) (g := (mkF m 7 #[.val (.ref la), .val (.ref le), .val (.ref da), .val (.int (0 : Int32))] [(.ref la)])) rfl (by rw [hml]; rfl) (Steps.refl _) (a := la) (by rw [e0]; exact q3) q3' (argsL := []) (rest := []) (lenOf pd_6 rfl) rfl (by show 2 * 0 + _ ≤ _; exact Nat.le_of_eq rfl) (hb hby d12_7) (fun _ _ => ⟨rfl, e0, (by decide : 0 + 1 ≤ _), (by decide : 0 + 10 ≤ _)⟩)
  dsimp only [Pt.U, Pt.locs, Pt.cells, Pt.slots] at X3 l3 y3 z3 st3 hQ3
  subst l3 y3 z3
  obtain ⟨b_3, k_3, rfl, N3q, K3, P4, P5, P6, P7, P8, R9, R10⟩ := hQ3
  have N3_ := Fr.app N0 N3q
  refine Gl.via (fun _ k => st3.trans k) ?_
  have ne11 : la ≠ b_3 := Nat.ne_of_lt (Nat.lt_of_lt_of_le F0_la.lt R9)
  have ne12 : le ≠ b_3 := Nat.ne_of_lt (Nat.lt_of_lt_of_le F7_le.lt R9)
  have ge13 : n0 ≤ b_3 := Nat.le_trans Z0 R9
  have gz14 : h0.size ≤ b_3 := Nat.le_trans (Nat.le_refl h0.size) R9
  have Z15 : n0 ≤ T3.heap.size := Nat.le_trans Z0 K3.1
  have Y16 : h0.size ≤ T3.heap.size := Nat.le_trans (Nat.le_refl h0.size) K3.1
  show Gl p.tables e below T3 (mkF m 10 #[.val (.ref la), .val (.ref le), .val (.ref da), .val (.int (0 : Int32))] [(.ref b_3)]) G
  refine Gl.via (fun _ k => XS.astoreN X3.here hx rfl (hb hby d12_10) rfl rfl (l' := #[.val (.ref la), .val (.ref le), .val (.ref b_3), .val (.int (0 : Int32))]) rfl k) ?_
  show Gl p.tables e below T3 (mkF m 11 #[.val (.ref la), .val (.ref le), .val (.ref b_3), .val (.int (0 : Int32))] []) G
  refine Gl.via (fun _ k => XS.aloadN X3.here hx rfl (hb hby d12_11) rfl rfl k) ?_
  show Gl p.tables e below T3 (mkF m 12 #[.val (.ref la), .val (.ref le), .val (.ref b_3), .val (.int (0 : Int32))] [(.ref b_3)]) G
  refine Gl.via (fun _ k => XS.iloadN X3.here hx rfl (hb hby d12_12) rfl k) ?_
  show Gl p.tables e below T3 (mkF m 13 #[.val (.ref la), .val (.ref le), .val (.ref b_3), .val (.int (0 : Int32))] [(.int (0 : Int32)), (.ref b_3)]) G
  refine Gl.via (fun _ k => XS.aloadN X3.here hx rfl (hb hby d12_13) rfl rfl k) ?_
  show Gl p.tables e below T3 (mkF m 14 #[.val (.ref la), .val (.ref le), .val (.ref b_3), .val (.int (0 : Int32))] [(.ref le), (.int (0 : Int32)), (.ref b_3)]) G
  obtain ⟨cl17, Ar17, q17, S17, N17, H17, G17⟩ := P8
  have hin17 : ¬ ((0 : Int32) < 0 ∨ cl17.slots.size ≤ ((0 : Int32)).toNatClampNeg) := inb_of S17 ⟨by decide, by decide⟩
  have G18 : Exa Z T3.heap le "com/example/kereso/kereso/Search$Hit" := (F7_le.keep K3)
  obtain ⟨T17, h17, X17, e17, W17, st17⟩ := stR X3 hx hZ rfl Ar17 (j := (0 : Int32)) hin17 rfl (Sto.ofV Ar17 q17 R10 (Ins.of_exa G18 (hw _ (List.mem_of_getElem? (i := 104) rfl)))) (g := (mkF m 14 #[.val (.ref la), .val (.ref le), .val (.ref b_3), .val (.int (0 : Int32))] [(.ref le), (.int (0 : Int32)), (.ref b_3)])) rfl rfl (hb hby d12_14)
  refine Gl.via st17 ?_
  have N17_ := Fr.snoc X17 N3_ ge13
  have Z19 : n0 ≤ h17.size := Nat.le_trans Z15 (Keep.of_wr W17).1
  have Y20 : h0.size ≤ h17.size := Nat.le_trans Y16 (Keep.of_wr W17).1
  have V21 : Arv Z h17 b_3 k_3 (.object "java/lang/Object") (10 : Int32) [(.ref le), .null, .null, .null, .null, .null, .null, .null, .null, .null] .null := Arv.set Ar17 q17 S17 N17 H17 G17 rfl W17 0 rfl (Nat.le_of_ble_eq_true rfl)
  show Gl p.tables e below T17 (mkF m 15 #[.val (.ref la), .val (.ref le), .val (.ref b_3), .val (.int (0 : Int32))] []) G
  refine Gl.via (fun _ k => XS.aloadN X17.here hx rfl (hb hby d12_15) rfl rfl k) ?_
  show Gl p.tables e below T17 (mkF m 16 #[.val (.ref la), .val (.ref le), .val (.ref b_3), .val (.int (0 : Int32))] [(.ref la)]) G
  refine Gl.via (fun _ k => XS.iloadN X17.here hx rfl (hb hby d12_16) rfl k) ?_
  show Gl p.tables e below T17 (mkF m 17 #[.val (.ref la), .val (.ref le), .val (.ref b_3), .val (.int (0 : Int32))] [(.int (0 : Int32)), (.ref la)]) G
  refine Gl.via (fun _ k => XS.iconst X17.here hx rfl (hb hby d12_17) k) ?_
  show Gl p.tables e below T17 (mkF m 18 #[.val (.ref la), .val (.ref le), .val (.ref b_3), .val (.int (0 : Int32))] [(.int (1 : Int32)), (.int (0 : Int32)), (.ref la)]) G
  refine Gl.via (fun _ k => XS.iadd X17.here hx rfl (hb hby d12_18) rfl k) ?_
  show Gl p.tables e below T17 (mkF m 19 #[.val (.ref la), .val (.ref le), .val (.ref b_3), .val (.int (0 : Int32))] [(.int (1 : Int32)), (.ref la)]) G
  have G22 : Fld Z h17 la "java/util/ArrayList" "size" "I" (.int (0 : Int32)) := (P7.other W17 (Or.inl ne11))
  have G23 : Exa Z h17 la "java/util/ArrayList" := (P4.wr W17)
  obtain ⟨T24, h24, X24, e24, W24, st24⟩ := putF X17 hx hZ hown (host := "") (Or.inl (hw _ (List.mem_of_getElem? (i := 81) rfl))) Via.refl e17 G22 G23 (Or.inl (hw _ (List.mem_of_getElem? (i := 82) rfl))) (hw _ (List.mem_of_getElem? (i := 1) rfl)) (ty := .int) (by decide) rfl rfl (g := (mkF m 19 #[.val (.ref la), .val (.ref le), .val (.ref b_3), .val (.int (0 : Int32))] [(.int (1 : Int32)), (.ref la)])) rfl rfl (hb hby d12_19)
  refine Gl.via st24 ?_
  have N24_ := Fr.snoc X24 N17_ hp0
  have Z25 : n0 ≤ h24.size := Nat.le_trans Z19 (Keep.of_wr W24).1
  have Y26 : h0.size ≤ h24.size := Nat.le_trans Y20 (Keep.of_wr W24).1
  show Gl p.tables e below T24 (mkF m 22 #[.val (.ref la), .val (.ref le), .val (.ref b_3), .val (.int (0 : Int32))] []) G
  obtain ⟨fs, hr, hrun, hended, hW, hsame⟩ := X24.leave (v := none) (fun _ => rfl)
  have G27 : Exa Z h24 la "java/util/ArrayList" := (G23.wr W24)
  have hq : ∀ L, Fr n0 L → Q_add3 Z la da dk mc le h0 n0 (none) T24.heap L := by
    intro L hN
    rw [e24]
    exact ⟨rfl, hN, ((((Keep.refl h0 [la]).trans K3 (allS (Or.inl (List.mem_of_getElem? (i := 0) rfl)) all0)).wr W17 (Or.inr gz14)).wr W24 (Or.inl (List.mem_of_getElem? (i := 0) rfl))), G27⟩
  rw [hG]
  exact Gl.fin (X24.returnOut hx Bd.returns (hb hby d12_22) hr) ⟨_, hrun, hended, _, _, rfl, hq _ N24_, ⟨_, rfl⟩, hW, hsame.mono (by decide) (by decide)⟩
theorem d11_0 : decode jdk_38_method_25_code 0 = .ok (.aload_n 0, 1) := by decide +kernel
theorem d11_1 : decode jdk_38_method_25_code 1 = .ok (.dup, 1) := by decide +kernel
theorem d11_2 : decode jdk_38_method_25_code 2 = .ok (.getfield 63, 3) := by decide +kernel
theorem d11_5 : decode jdk_38_method_25_code 5 = .ok (.iconst 1, 1) := by decide +kernel
theorem d11_6 : decode jdk_38_method_25_code 6 = .ok (.iadd, 1) := by decide +kernel
theorem d11_7 : decode jdk_38_method_25_code 7 = .ok (.putfield 63, 3) := by decide +kernel
theorem d11_10 : decode jdk_38_method_25_code 10 = .ok (.aload_n 0, 1) := by decide +kernel
theorem d11_11 : decode jdk_38_method_25_code 11 = .ok (.aload_n 1, 1) := by decide +kernel
theorem d11_12 : decode jdk_38_method_25_code 12 = .ok (.aload_n 0, 1) := by decide +kernel
theorem d11_13 : decode jdk_38_method_25_code 13 = .ok (.getfield 9, 3) := by decide +kernel
theorem d11_16 : decode jdk_38_method_25_code 16 = .ok (.aload_n 0, 1) := by decide +kernel
theorem d11_17 : decode jdk_38_method_25_code 17 = .ok (.getfield 48, 3) := by decide +kernel
theorem d11_20 : decode jdk_38_method_25_code 20 = .ok (.invokevirtual 131, 3) := by decide +kernel
theorem pd_7 : parseMethodDescriptor "(Ljava/lang/Object;[Ljava/lang/Object;I)V" = some ⟨[(.object "java/lang/Object"), (.array (.object "java/lang/Object")), .int], none⟩ := by decide +kernel
theorem d11_23 : decode jdk_38_method_25_code 23 = .ok (.iconst 1, 1) := by decide +kernel
theorem d11_24 : decode jdk_38_method_25_code 24 = .ok (.ireturn, 1) := by decide +kernel
theorem ef_add1 (m : MethodId) (x0 : Addr) (x1 : Addr) : entryFrame m #[(.ref x0), (.ref x1)] 2 = mkF m 0 #[.val (.ref x0), .val (.ref x1)] [] := by first | (simp [entryFrame, mkF, argsToLocals, Value.category]; done) | rfl
def Q_add1 (Z : State) (la : Addr) (da : Addr) (dk : ClassId) (mc : Int32) (le : Addr) (h0 : Heap) (n0 : Nat) (v : Option Value) (h : Heap) (L : List Loc) : Prop := v = some (.int (1 : Int32)) ∧ Fr n0 L ∧ Keep h0 h [la] ∧ Exa Z h la "java/util/ArrayList"
set_option maxRecDepth 65536 in
set_option maxHeartbeats 40000000 in
theorem add1 (l : Launch) (Z : State) (a0 : Array Value) (hw : ∀ d ∈ tables_1, d.before a0 Z = true) (ws : List Jvm.Cond) (la : Addr) (da : Addr) (dk : ClassId) (mc : Int32) (le : Addr) (h0 : Heap) (n0 : Nat) (Z0 : n0 ≤ h0.size) (F0_la : Exa Z h0 la "java/util/ArrayList") (F1_la_modCount : Fld Z h0 la "java/util/AbstractList" "modCount" "I" (.int mc)) (F2_la_elementData : Fld Z h0 la "java/util/ArrayList" "elementData" "[Ljava/lang/Object;" (.ref da)) (F3_la_size : Fld Z h0 la "java/util/ArrayList" "size" "I" (.int (0 : Int32))) (F4_java_util_ArrayList : Sta Z Z.heap "java/util/ArrayList" "DEFAULTCAPACITY_EMPTY_ELEMENTDATA" "[Ljava/lang/Object;" (.ref da)) (F5_da : Arv Z Z.heap da dk (.object "java/lang/Object") (0 : Int32) [] .null) (F6_ : Old Z n0 h0) (F7_le : Exa Z h0 le "com/example/kereso/kereso/Search$Hit") (hp0 : n0 ≤ la) :
    MetFree l (⟨"java/util/ArrayList", "add", "(Ljava/lang/Object;)Z"⟩ : MethodName) (head1 (Jvm.Cond.code (⟨"java/util/ArrayList", "add", "(Ljava/lang/Object;)Z"⟩ : MethodName) jdk_38_method_25_code 2 (some .boolean) :: ws) ({ frames := 4, cells := 1, slots := 10, locals := 56 } : Room)) (fun a U => a = #[(.ref la), (.ref le)] ∧ Z.Warmed39 U.vm ∧ U.heap = h0) (fun _ _ _ _ _ => True) (fun _ U o U' => ∃ v L, o = .returned v ∧ Q_add1 Z la da dk mc le h0 n0 v U'.heap L ∧ FrameEnd U o U' L ({ frames := 4, cells := 1, slots := 10, locals := 56 } : Room).cells ({ frames := 4, cells := 1, slots := 10, locals := 56 } : Room).slots) := by
  refine MetFree.of_bodySF (plainFor_of_name pn_3) hisR ?_
  intro p e s m args below meth c s₁ Bd hml0 hP hK
  obtain ⟨rfl, hZ, hh⟩ := hP
  have hx := Bd.exec
  have hby := Bd.bytes
  have hml : c.maxLocals = 2 := hml0
  have hown : s.vm.findClass "java/util/ArrayList" = some m.cls := findClass_of_methodNamed Bd.named
  have hnm := (name_of_methodNamed Bd.named Bd.method).1
  have X0 : Stand p l e ({ frames := 4, cells := 1, slots := 10, locals := 56 } : Room) s m #[(.ref la), (.ref le)] below meth c s₁ [] 0 0 := Stand.of_body Bd
  have e0 : s₁.heap = h0 := by rw [← hh, Bd.state]; rfl
  have N0 := Fr.nil n0
  obtain ⟨G, hG⟩ : ∃ G : State → Prop, G = (fun U' => ∃ o, U'.status = .running ∧ Ended U' below o ∧ ∃ v L, o = .returned v ∧ Q_add1 Z la da dk mc le h0 n0 v U'.heap L ∧ FrameEnd s o U' L ({ frames := 4, cells := 1, slots := 10, locals := 56 } : Room).cells ({ frames := 4, cells := 1, slots := 10, locals := 56 } : Room).slots) := ⟨_, rfl⟩
  suffices key : Gl p.tables e below s₁ (mkF m 0 #[.val (.ref la), .val (.ref le)] []) G by
    obtain ⟨s₂, k1, k2⟩ := key
    rw [hG] at k2
    obtain ⟨o, k3, k4, k5⟩ := k2
    exact ⟨s₂, o, castTop (ef_add1 m la le) k1, k3, k4, k5⟩
  show Gl p.tables e below s₁ (mkF m 0 #[.val (.ref la), .val (.ref le)] []) G
  refine Gl.via (fun _ k => XS.aloadN X0.here hx rfl (hb hby d11_0) rfl rfl k) ?_
  show Gl p.tables e below s₁ (mkF m 1 #[.val (.ref la), .val (.ref le)] [(.ref la)]) G
  refine Gl.via (fun _ k => XS.dup X0.here hx rfl (hb hby d11_1) rfl rfl k) ?_
  show Gl p.tables e below s₁ (mkF m 2 #[.val (.ref la), .val (.ref le)] [(.ref la), (.ref la)]) G
  obtain ⟨T1, X1, e1, st1⟩ := getF X0 hx hZ hown (host := "") (Or.inl (hw _ (List.mem_of_getElem? (i := 79) rfl))) (Via.of (hw _ (List.mem_of_getElem? (i := 80) rfl))) e0 F1_la_modCount (g := (mkF m 2 #[.val (.ref la), .val (.ref le)] [(.ref la), (.ref la)])) rfl rfl (hb hby d11_2)
  refine Gl.via st1 ?_
  show Gl p.tables e below T1 (mkF m 5 #[.val (.ref la), .val (.ref le)] [(.int mc), (.ref la)]) G
  refine Gl.via (fun _ k => XS.iconst X1.here hx rfl (hb hby d11_5) k) ?_
  show Gl p.tables e below T1 (mkF m 6 #[.val (.ref la), .val (.ref le)] [(.int (1 : Int32)), (.int mc), (.ref la)]) G
  refine Gl.via (fun _ k => XS.iadd X1.here hx rfl (hb hby d11_6) rfl k) ?_
  show Gl p.tables e below T1 (mkF m 7 #[.val (.ref la), .val (.ref le)] [(.int (mc + (1 : Int32))), (.ref la)]) G
  obtain ⟨T2, h2, X2, e2, W2, st2⟩ := putF X1 hx hZ hown (host := "") (Or.inl (hw _ (List.mem_of_getElem? (i := 79) rfl))) (Via.of (hw _ (List.mem_of_getElem? (i := 80) rfl))) e1 F1_la_modCount F0_la (Or.inl (hw _ (List.mem_of_getElem? (i := 22) rfl))) (hw _ (List.mem_of_getElem? (i := 1) rfl)) (ty := .int) (by decide) rfl rfl (g := (mkF m 7 #[.val (.ref la), .val (.ref le)] [(.int (mc + (1 : Int32))), (.ref la)])) rfl rfl (hb hby d11_7)
  refine Gl.via st2 ?_
  have N2_ := Fr.snoc X2 N0 hp0
  have Z3 : n0 ≤ h2.size := Nat.le_trans Z0 (Keep.of_wr W2).1
  have Y4 : h0.size ≤ h2.size := Nat.le_trans (Nat.le_refl h0.size) (Keep.of_wr W2).1
  show Gl p.tables e below T2 (mkF m 10 #[.val (.ref la), .val (.ref le)] []) G
  refine Gl.via (fun _ k => XS.aloadN X2.here hx rfl (hb hby d11_10) rfl rfl k) ?_
  show Gl p.tables e below T2 (mkF m 11 #[.val (.ref la), .val (.ref le)] [(.ref la)]) G
  refine Gl.via (fun _ k => XS.aloadN X2.here hx rfl (hb hby d11_11) rfl rfl k) ?_
  show Gl p.tables e below T2 (mkF m 12 #[.val (.ref la), .val (.ref le)] [(.ref le), (.ref la)]) G
  refine Gl.via (fun _ k => XS.aloadN X2.here hx rfl (hb hby d11_12) rfl rfl k) ?_
  show Gl p.tables e below T2 (mkF m 13 #[.val (.ref la), .val (.ref le)] [(.ref la), (.ref le), (.ref la)]) G
  have G5 : Fld Z h2 la "java/util/ArrayList" "elementData" "[Ljava/lang/Object;" (.ref da) := (F2_la_elementData.other W2 (Or.inr (slot_ne (Or.inl (hw _ (List.mem_of_getElem? (i := 25) rfl))) (Or.inl (hw _ (List.mem_of_getElem? (i := 22) rfl))) (by decide) (t := (.array (.object "java/lang/Object"))) (t' := .int) (by decide) (by decide))))
  obtain ⟨T6, X6, e6, st6⟩ := getF X2 hx hZ hown (host := "") (Or.inl (hw _ (List.mem_of_getElem? (i := 24) rfl))) Via.refl e2 G5 (g := (mkF m 13 #[.val (.ref la), .val (.ref le)] [(.ref la), (.ref le), (.ref la)])) rfl rfl (hb hby d11_13)
  refine Gl.via st6 ?_
  show Gl p.tables e below T6 (mkF m 16 #[.val (.ref la), .val (.ref le)] [(.ref da), (.ref le), (.ref la)]) G
  refine Gl.via (fun _ k => XS.aloadN X6.here hx rfl (hb hby d11_16) rfl rfl k) ?_
  show Gl p.tables e below T6 (mkF m 17 #[.val (.ref la), .val (.ref le)] [(.ref la), (.ref da), (.ref le), (.ref la)]) G
  have G7 : Fld Z h2 la "java/util/ArrayList" "size" "I" (.int (0 : Int32)) := (F3_la_size.other W2 (Or.inr (slot_ne (Or.inl (hw _ (List.mem_of_getElem? (i := 82) rfl))) (Or.inl (hw _ (List.mem_of_getElem? (i := 22) rfl))) (by decide) (t := .int) (t' := .int) (by decide) (by decide))))
  obtain ⟨T8, X8, e8, st8⟩ := getF X6 hx hZ hown (host := "") (Or.inl (hw _ (List.mem_of_getElem? (i := 81) rfl))) Via.refl e6 G7 (g := (mkF m 17 #[.val (.ref la), .val (.ref le)] [(.ref la), (.ref da), (.ref le), (.ref la)])) rfl rfl (hb hby d11_17)
  refine Gl.via st8 ?_
  show Gl p.tables e below T8 (mkF m 20 #[.val (.ref la), .val (.ref le)] [(.int (0 : Int32)), (.ref da), (.ref le), (.ref la)]) G
  have G10 : Exa Z h2 la "java/util/ArrayList" := (F0_la.wr W2)
  have G11 : Old Z n0 h2 := (F6_.wr W2 hp0)
  have G12 : Exa Z h2 le "com/example/kereso/kereso/Search$Hit" := (F7_le.wr W2)
  obtain ⟨cq9, q9, q9'⟩ := G10.cell
  obtain ⟨_, _, ⟨T9, L9, k9, n9⟩, -, X9, ⟨Lc9, hQ9, l9, y9, z9⟩, st9⟩ := X8.privateBack hx (y := (⟨"java/util/ArrayList", "add", "(Ljava/lang/Object;[Ljava/lang/Object;I)V"⟩ : MethodName)) hown (mvT hZ (hw _ (List.mem_of_getElem? (i := 83) rfl))) (mvT hZ (hw _ (List.mem_of_getElem? (i := 84) rfl))) (mvT hZ (hw _ (List.mem_of_getElem? (i := 86) rfl))) (Cond.privateMethod_at (mvP hZ (hw _ (List.mem_of_getElem? (i := 85) rfl)) (args := #[]))) (mvT hZ (hw _ (List.mem_of_getElem? (i := 87) rfl))) (by decide) (backOf (W := 0) (add3 l Z a0 hw [] la da dk (mc + (1 : Int32)) le h2 n0 Z3 G10 (Fld.same W2 F1_la_modCount) G5 G7 F4_java_util_ArrayList F5_da G11 G12 hp0) hZ (hw _ (List.mem_of_getElem? (i := 87) rfl)) (hw _ (List.mem_of_getElem? (i := 2) rfl)) (by decide) (by decide)) (g := (mkF m 20 #[.val (.ref la), .val (.ref le)] [(.int (0 : Int32)), (.ref da), (.ref le), (.ref la)])) rfl (by rw [hml]; rfl) (Steps.refl _) (a := la) (by rw [e8]; exact q9) q9' (argsL := [(.ref le), (.ref da), (.int (0 : Int32))]) (rest := []) (lenOf pd_7 rfl) rfl (by show 2 * 0 + _ ≤ _; exact Nat.le_of_eq rfl) (hb hby d11_20) (fun _ _ => ⟨rfl, e8, (by decide : 0 + 1 ≤ _), (by decide : 0 + 10 ≤ _)⟩)
  dsimp only [Pt.U, Pt.locs, Pt.cells, Pt.slots] at X9 l9 y9 z9 st9 hQ9
  subst l9 y9 z9
  obtain ⟨rfl, N9q, K9, P13⟩ := hQ9
  have N9_ := Fr.app N2_ N9q
  refine Gl.via (fun _ k => st9.trans k) ?_
  have Z14 : n0 ≤ T9.heap.size := Nat.le_trans Z3 K9.1
  have Y15 : h0.size ≤ T9.heap.size := Nat.le_trans Y4 K9.1
  show Gl p.tables e below T9 (mkF m 23 #[.val (.ref la), .val (.ref le)] []) G
  refine Gl.via (fun _ k => XS.iconst X9.here hx rfl (hb hby d11_23) k) ?_
  show Gl p.tables e below T9 (mkF m 24 #[.val (.ref la), .val (.ref le)] [(.int (1 : Int32))]) G
  obtain ⟨fs, hr, hrun, hended, hW, hsame⟩ := X9.leave (v := some (.int (1 : Int32))) (fun h => by rw [Bd.returns] at h; cases h)
  have hq : ∀ L, Fr n0 L → Q_add1 Z la da dk mc le h0 n0 (some (.int (1 : Int32))) T9.heap L := by
    intro L hN
    exact ⟨rfl, hN, (((Keep.refl h0 [la]).wr W2 (Or.inl (List.mem_of_getElem? (i := 0) rfl))).trans K9 (allS (Or.inl (List.mem_of_getElem? (i := 0) rfl)) all0)), P13⟩
  rw [hG]
  exact Gl.fin (retN X9 hx (t := .boolean) Bd.returns (by simp) (hb hby d11_24) hr) ⟨_, hrun, hended, _, _, rfl, hq _ N9_, ⟨_, rfl⟩, hW, hsame.mono (by decide) (by decide)⟩
theorem pn_7 : plainName "com/example/kereso/kereso/Search$ResultPage" = true := by first | (simp [plainName, overriddenIn]; done) | decide +kernel
theorem d16_0 : decode prog_40_method_1_code 0 = .ok (.aload_n 0, 1) := by decide +kernel
theorem d16_1 : decode prog_40_method_1_code 1 = .ok (.invokespecial 1, 3) := by decide +kernel
theorem d16_4 : decode prog_40_method_1_code 4 = .ok (.aload_n 0, 1) := by decide +kernel
theorem d16_5 : decode prog_40_method_1_code 5 = .ok (.iload_n 1, 1) := by decide +kernel
theorem d16_6 : decode prog_40_method_1_code 6 = .ok (.putfield 7, 3) := by decide +kernel
theorem d16_9 : decode prog_40_method_1_code 9 = .ok (.aload_n 0, 1) := by decide +kernel
theorem d16_10 : decode prog_40_method_1_code 10 = .ok (.aload_n 2, 1) := by decide +kernel
theorem d16_11 : decode prog_40_method_1_code 11 = .ok (.putfield 13, 3) := by decide +kernel
theorem d16_14 : decode prog_40_method_1_code 14 = .ok (.aload_n 0, 1) := by decide +kernel
theorem d16_15 : decode prog_40_method_1_code 15 = .ok (.iload_n 3, 1) := by decide +kernel
theorem d16_16 : decode prog_40_method_1_code 16 = .ok (.putfield 17, 3) := by decide +kernel
theorem d16_19 : decode prog_40_method_1_code 19 = .ok (.return_, 1) := by decide +kernel
theorem ef_p_init (m : MethodId) (x0 : Addr) (x1 : Int32) (x2 : Addr) (x3 : Int32) : entryFrame m #[(.ref x0), (.int x1), (.ref x2), (.int x3)] 4 = mkF m 0 #[.val (.ref x0), .val (.int x1), .val (.ref x2), .val (.int x3)] [] := by first | (simp [entryFrame, mkF, argsToLocals, Value.category]; done) | rfl
def Q_p_init (Z : State) (ca : Addr) (c0 : Int32) (c1 : Addr) (c2 : Int32) (cu0 : Value) (cu1 : Value) (cu2 : Value) (h0 : Heap) (n0 : Nat) (v : Option Value) (h : Heap) (L : List Loc) : Prop := v = none ∧ Fr n0 L ∧ Keep h0 h [ca] ∧ Exa Z h ca "com/example/kereso/kereso/Search$ResultPage" ∧ Fld Z h ca "com/example/kereso/kereso/Search$ResultPage" "number" "I" (.int c0)
set_option maxRecDepth 65536 in
set_option maxHeartbeats 40000000 in
theorem p_init (l : Launch) (Z : State) (a0 : Array Value) (hw : ∀ d ∈ tables_1, d.before a0 Z = true) (ws : List Jvm.Cond) (ca : Addr) (c0 : Int32) (c1 : Addr) (c2 : Int32) (cu0 : Value) (cu1 : Value) (cu2 : Value) (h0 : Heap) (n0 : Nat) (Z0 : n0 ≤ h0.size) (F0_ca : Exa Z h0 ca "com/example/kereso/kereso/Search$ResultPage") (F1_ca_number : Fld Z h0 ca "com/example/kereso/kereso/Search$ResultPage" "number" "I" cu0) (F2_ca_hits : Fld Z h0 ca "com/example/kereso/kereso/Search$ResultPage" "hits" "Ljava/util/List;" cu1) (F3_ca_hasNext : Fld Z h0 ca "com/example/kereso/kereso/Search$ResultPage" "hasNext" "Z" cu2) (hp0 : n0 ≤ ca) (hz1 : narrow .boolean (.int c2) = .int c2) (hz2 : fits .boolean (.int c2) = true) :
    MetFree l (⟨"com/example/kereso/kereso/Search$ResultPage", "<init>", "(ILjava/util/List;Z)V"⟩ : MethodName) (head1 (Jvm.Cond.code (⟨"com/example/kereso/kereso/Search$ResultPage", "<init>", "(ILjava/util/List;Z)V"⟩ : MethodName) prog_40_method_1_code 4 none :: ws) ({ frames := 2, cells := 0, slots := 0, locals := 24 } : Room)) (fun a U => a = #[(.ref ca), (.int c0), (.ref c1), (.int c2)] ∧ Z.Warmed39 U.vm ∧ U.heap = h0) (fun _ _ _ _ _ => True) (fun _ U o U' => ∃ v L, o = .returned v ∧ Q_p_init Z ca c0 c1 c2 cu0 cu1 cu2 h0 n0 v U'.heap L ∧ FrameEnd U o U' L ({ frames := 2, cells := 0, slots := 0, locals := 24 } : Room).cells ({ frames := 2, cells := 0, slots := 0, locals := 24 } : Room).slots) := by
  refine MetFree.of_bodySF (plainFor_of_name pn_7) hisR ?_
  intro p e s m args below meth c s₁ Bd hml0 hP hK
  obtain ⟨rfl, hZ, hh⟩ := hP
  have hx := Bd.exec
  have hby := Bd.bytes
  have hml : c.maxLocals = 4 := hml0
  have hown : s.vm.findClass "com/example/kereso/kereso/Search$ResultPage" = some m.cls := findClass_of_methodNamed Bd.named
  have hnm := (name_of_methodNamed Bd.named Bd.method).1
  have X0 : Stand p l e ({ frames := 2, cells := 0, slots := 0, locals := 24 } : Room) s m #[(.ref ca), (.int c0), (.ref c1), (.int c2)] below meth c s₁ [] 0 0 := Stand.of_body Bd
  have e0 : s₁.heap = h0 := by rw [← hh, Bd.state]; rfl
  have N0 := Fr.nil n0
  obtain ⟨G, hG⟩ : ∃ G : State → Prop, G = (fun U' => ∃ o, U'.status = .running ∧ Ended U' below o ∧ ∃ v L, o = .returned v ∧ Q_p_init Z ca c0 c1 c2 cu0 cu1 cu2 h0 n0 v U'.heap L ∧ FrameEnd s o U' L ({ frames := 2, cells := 0, slots := 0, locals := 24 } : Room).cells ({ frames := 2, cells := 0, slots := 0, locals := 24 } : Room).slots) := ⟨_, rfl⟩
  suffices key : Gl p.tables e below s₁ (mkF m 0 #[.val (.ref ca), .val (.int c0), .val (.ref c1), .val (.int c2)] []) G by
    obtain ⟨s₂, k1, k2⟩ := key
    rw [hG] at k2
    obtain ⟨o, k3, k4, k5⟩ := k2
    exact ⟨s₂, o, castTop (ef_p_init m ca c0 c1 c2) k1, k3, k4, k5⟩
  show Gl p.tables e below s₁ (mkF m 0 #[.val (.ref ca), .val (.int c0), .val (.ref c1), .val (.int c2)] []) G
  refine Gl.via (fun _ k => XS.aloadN X0.here hx rfl (hb hby d16_0) rfl rfl k) ?_
  show Gl p.tables e below s₁ (mkF m 1 #[.val (.ref ca), .val (.int c0), .val (.ref c1), .val (.int c2)] [(.ref ca)]) G
  obtain ⟨_, _, ⟨T1, L1, k1, n1⟩, -, X1, ⟨Lc1, hQ1, l1, y1, z1⟩, st1⟩ := X0.specialBack hx (y := (⟨"java/lang/Record", "<init>", "()V"⟩ : MethodName)) rfl hown (mvT hZ (hw _ (List.mem_of_getElem? (i := 111) rfl))) (mvT hZ (hw _ (List.mem_of_getElem? (i := 57) rfl))) (mvT hZ (hw _ (List.mem_of_getElem? (i := 60) rfl))) (by decide) (backOf (W := 0) (rec_init l Z a0 hw [] ca h0 n0 Z0 ) hZ (hw _ (List.mem_of_getElem? (i := 60) rfl)) (hw _ (List.mem_of_getElem? (i := 59) rfl)) (by decide) (by decide)) (g := (mkF m 1 #[.val (.ref ca), .val (.int c0), .val (.ref c1), .val (.int c2)] [(.ref ca)])) rfl (by rw [hml]; rfl) (Steps.refl _) (a := ca) (argsL := []) (rest := []) (lenOf pd_0 rfl) rfl (by show 2 * 0 + _ ≤ _; exact Nat.le_of_eq rfl) (hb hby d16_1) (fun _ _ => ⟨rfl, e0, (by decide : 0 + 0 ≤ _), (by decide : 0 + 0 ≤ _)⟩)
  dsimp only [Pt.U, Pt.locs, Pt.cells, Pt.slots] at X1 l1 y1 z1 st1 hQ1
  subst l1 y1 z1
  obtain ⟨rfl, N1q, eh1⟩ := hQ1
  have N1_ := Fr.app N0 N1q
  refine Gl.via (fun _ k => st1.trans k) ?_
  show Gl p.tables e below T1 (mkF m 4 #[.val (.ref ca), .val (.int c0), .val (.ref c1), .val (.int c2)] []) G
  refine Gl.via (fun _ k => XS.aloadN X1.here hx rfl (hb hby d16_4) rfl rfl k) ?_
  show Gl p.tables e below T1 (mkF m 5 #[.val (.ref ca), .val (.int c0), .val (.ref c1), .val (.int c2)] [(.ref ca)]) G
  refine Gl.via (fun _ k => XS.iloadN X1.here hx rfl (hb hby d16_5) rfl k) ?_
  show Gl p.tables e below T1 (mkF m 6 #[.val (.ref ca), .val (.int c0), .val (.ref c1), .val (.int c2)] [(.int c0), (.ref ca)]) G
  obtain ⟨T2, h2, X2, e2, W2, st2⟩ := putF X1 hx hZ hown (host := "") (Or.inl (hw _ (List.mem_of_getElem? (i := 112) rfl))) Via.refl eh1 F1_ca_number F0_ca (Or.inr ⟨(hw _ (List.mem_of_getElem? (i := 113) rfl)), rfl, hnm⟩) (hw _ (List.mem_of_getElem? (i := 106) rfl)) (ty := .int) (by decide) rfl rfl (g := (mkF m 6 #[.val (.ref ca), .val (.int c0), .val (.ref c1), .val (.int c2)] [(.int c0), (.ref ca)])) rfl rfl (hb hby d16_6)
  refine Gl.via st2 ?_
  have N2_ := Fr.snoc X2 N1_ hp0
  have Z3 : n0 ≤ h2.size := Nat.le_trans Z0 (Keep.of_wr W2).1
  have Y4 : h0.size ≤ h2.size := Nat.le_trans (Nat.le_refl h0.size) (Keep.of_wr W2).1
  show Gl p.tables e below T2 (mkF m 9 #[.val (.ref ca), .val (.int c0), .val (.ref c1), .val (.int c2)] []) G
  refine Gl.via (fun _ k => XS.aloadN X2.here hx rfl (hb hby d16_9) rfl rfl k) ?_
  show Gl p.tables e below T2 (mkF m 10 #[.val (.ref ca), .val (.int c0), .val (.ref c1), .val (.int c2)] [(.ref ca)]) G
  refine Gl.via (fun _ k => XS.aloadN X2.here hx rfl (hb hby d16_10) rfl rfl k) ?_
  show Gl p.tables e below T2 (mkF m 11 #[.val (.ref ca), .val (.int c0), .val (.ref c1), .val (.int c2)] [(.ref c1), (.ref ca)]) G
  have G5 : Fld Z h2 ca "com/example/kereso/kereso/Search$ResultPage" "hits" "Ljava/util/List;" cu1 := (F2_ca_hits.other W2 (Or.inr (slot_ne (Or.inr (hw _ (List.mem_of_getElem? (i := 115) rfl))) (Or.inr (hw _ (List.mem_of_getElem? (i := 113) rfl))) (by decide) (t := (.object "java/util/List")) (t' := .int) (by decide) (by decide))))
  have G6 : Exa Z h2 ca "com/example/kereso/kereso/Search$ResultPage" := (F0_ca.wr W2)
  obtain ⟨T7, h7, X7, e7, W7, st7⟩ := putF X2 hx hZ hown (host := "") (Or.inl (hw _ (List.mem_of_getElem? (i := 114) rfl))) Via.refl e2 G5 G6 (Or.inr ⟨(hw _ (List.mem_of_getElem? (i := 115) rfl)), rfl, hnm⟩) (hw _ (List.mem_of_getElem? (i := 106) rfl)) (ty := (.object "java/util/List")) (by decide) rfl rfl (g := (mkF m 11 #[.val (.ref ca), .val (.int c0), .val (.ref c1), .val (.int c2)] [(.ref c1), (.ref ca)])) rfl rfl (hb hby d16_11)
  refine Gl.via st7 ?_
  have N7_ := Fr.snoc X7 N2_ hp0
  have Z8 : n0 ≤ h7.size := Nat.le_trans Z3 (Keep.of_wr W7).1
  have Y9 : h0.size ≤ h7.size := Nat.le_trans Y4 (Keep.of_wr W7).1
  show Gl p.tables e below T7 (mkF m 14 #[.val (.ref ca), .val (.int c0), .val (.ref c1), .val (.int c2)] []) G
  refine Gl.via (fun _ k => XS.aloadN X7.here hx rfl (hb hby d16_14) rfl rfl k) ?_
  show Gl p.tables e below T7 (mkF m 15 #[.val (.ref ca), .val (.int c0), .val (.ref c1), .val (.int c2)] [(.ref ca)]) G
  refine Gl.via (fun _ k => XS.iloadN X7.here hx rfl (hb hby d16_15) rfl k) ?_
  show Gl p.tables e below T7 (mkF m 16 #[.val (.ref ca), .val (.int c0), .val (.ref c1), .val (.int c2)] [(.int c2), (.ref ca)]) G
  have G10 : Fld Z h7 ca "com/example/kereso/kereso/Search$ResultPage" "hasNext" "Z" cu2 := ((F3_ca_hasNext.other W2 (Or.inr (slot_ne (Or.inr (hw _ (List.mem_of_getElem? (i := 117) rfl))) (Or.inr (hw _ (List.mem_of_getElem? (i := 113) rfl))) (by decide) (t := .boolean) (t' := .int) (by decide) (by decide)))).other W7 (Or.inr (slot_ne (Or.inr (hw _ (List.mem_of_getElem? (i := 117) rfl))) (Or.inr (hw _ (List.mem_of_getElem? (i := 115) rfl))) (by decide) (t := .boolean) (t' := (.object "java/util/List")) (by decide) (by decide))))
  have G11 : Exa Z h7 ca "com/example/kereso/kereso/Search$ResultPage" := (G6.wr W7)
  obtain ⟨T12, h12, X12, e12, W12, st12⟩ := putFN X7 hx hZ hown (hw _ (List.mem_of_getElem? (i := 116) rfl)) Via.refl e7 G10 G11 (Or.inr ⟨(hw _ (List.mem_of_getElem? (i := 117) rfl)), rfl, hnm⟩) (hw _ (List.mem_of_getElem? (i := 106) rfl)) (ty := .boolean) (v' := (.int c2)) (by decide) hz1 hz2 (g := (mkF m 16 #[.val (.ref ca), .val (.int c0), .val (.ref c1), .val (.int c2)] [(.int c2), (.ref ca)])) rfl rfl (hb hby d16_16)
  refine Gl.via st12 ?_
  have N12_ := Fr.snoc X12 N7_ hp0
  have Z13 : n0 ≤ h12.size := Nat.le_trans Z8 (Keep.of_wr W12).1
  have Y14 : h0.size ≤ h12.size := Nat.le_trans Y9 (Keep.of_wr W12).1
  show Gl p.tables e below T12 (mkF m 19 #[.val (.ref ca), .val (.int c0), .val (.ref c1), .val (.int c2)] []) G
  obtain ⟨fs, hr, hrun, hended, hW, hsame⟩ := X12.leave (v := none) (fun _ => rfl)
  have G15 : Exa Z h12 ca "com/example/kereso/kereso/Search$ResultPage" := (G11.wr W12)
  have G16 : Fld Z h12 ca "com/example/kereso/kereso/Search$ResultPage" "number" "I" (.int c0) := (((Fld.same W2 F1_ca_number).other W7 (Or.inr (slot_ne (Or.inr (hw _ (List.mem_of_getElem? (i := 113) rfl))) (Or.inr (hw _ (List.mem_of_getElem? (i := 115) rfl))) (by decide) (t := .int) (t' := (.object "java/util/List")) (by decide) (by decide)))).other W12 (Or.inr (slot_ne (Or.inr (hw _ (List.mem_of_getElem? (i := 113) rfl))) (Or.inr (hw _ (List.mem_of_getElem? (i := 117) rfl))) (by decide) (t := .int) (t' := .boolean) (by decide) (by decide))))
  have hq : ∀ L, Fr n0 L → Q_p_init Z ca c0 c1 c2 cu0 cu1 cu2 h0 n0 (none) T12.heap L := by
    intro L hN
    rw [e12]
    exact ⟨rfl, hN, ((((Keep.refl h0 [ca]).wr W2 (Or.inl (List.mem_of_getElem? (i := 0) rfl))).wr W7 (Or.inl (List.mem_of_getElem? (i := 0) rfl))).wr W12 (Or.inl (List.mem_of_getElem? (i := 0) rfl))), G15, G16⟩
  rw [hG]
  exact Gl.fin (X12.returnOut hx Bd.returns (hb hby d16_19) hr) ⟨_, hrun, hended, _, _, rfl, hq _ N12_, ⟨_, rfl⟩, hW, hsame.mono (by decide) (by decide)⟩
theorem d17_0 : decode prog_40_method_2_code 0 = .ok (.aload_n 0, 1) := by decide +kernel
theorem d17_1 : decode prog_40_method_2_code 1 = .ok (.getfield 7, 3) := by decide +kernel
theorem d17_4 : decode prog_40_method_2_code 4 = .ok (.iconst 1, 1) := by decide +kernel
theorem d17_5 : decode prog_40_method_2_code 5 = .ok (.if_icmp .le 7, 3) := by decide +kernel
theorem d17_8 : decode prog_40_method_2_code 8 = .ok (.iconst 1, 1) := by decide +kernel
theorem d17_9 : decode prog_40_method_2_code 9 = .ok (.goto 4, 3) := by decide +kernel
theorem d17_13 : decode prog_40_method_2_code 13 = .ok (.ireturn, 1) := by decide +kernel
theorem ef_hp1 (m : MethodId) (x0 : Addr) : entryFrame m #[(.ref x0)] 1 = mkF m 0 #[.val (.ref x0)] [] := by first | (simp [entryFrame, mkF, argsToLocals, Value.category]; done) | rfl
def Q_hp1 (Z : State) (ga : Addr) (gx : Int32) (h0 : Heap) (n0 : Nat) (v : Option Value) (h : Heap) (L : List Loc) : Prop := v = some (.int (1 : Int32)) ∧ Fr n0 L ∧ h = h0
set_option maxRecDepth 65536 in
set_option maxHeartbeats 40000000 in
theorem hp1 (l : Launch) (Z : State) (a0 : Array Value) (hw : ∀ d ∈ tables_1, d.before a0 Z = true) (ws : List Jvm.Cond) (ga : Addr) (gx : Int32) (h0 : Heap) (n0 : Nat) (Z0 : n0 ≤ h0.size) (F0_ga_number : Fld Z h0 ga "com/example/kereso/kereso/Search$ResultPage" "number" "I" (.int gx)) (hg : (1 : Int32) < gx) :
    MetFree l (⟨"com/example/kereso/kereso/Search$ResultPage", "hasPrevious", "()Z"⟩ : MethodName) (head1 (Jvm.Cond.code (⟨"com/example/kereso/kereso/Search$ResultPage", "hasPrevious", "()Z"⟩ : MethodName) prog_40_method_2_code 1 (some .boolean) :: ws) ({ frames := 0, cells := 0, slots := 0, locals := 0 } : Room)) (fun a U => a = #[(.ref ga)] ∧ Z.Warmed39 U.vm ∧ U.heap = h0) (fun _ _ _ _ _ => True) (fun _ U o U' => ∃ v L, o = .returned v ∧ Q_hp1 Z ga gx h0 n0 v U'.heap L ∧ FrameEnd U o U' L ({ frames := 0, cells := 0, slots := 0, locals := 0 } : Room).cells ({ frames := 0, cells := 0, slots := 0, locals := 0 } : Room).slots) := by
  refine MetFree.of_bodySF (plainFor_of_name pn_7) hisR ?_
  intro p e s m args below meth c s₁ Bd hml0 hP hK
  obtain ⟨rfl, hZ, hh⟩ := hP
  have hx := Bd.exec
  have hby := Bd.bytes
  have hml : c.maxLocals = 1 := hml0
  have hown : s.vm.findClass "com/example/kereso/kereso/Search$ResultPage" = some m.cls := findClass_of_methodNamed Bd.named
  have hnm := (name_of_methodNamed Bd.named Bd.method).1
  have X0 : Stand p l e ({ frames := 0, cells := 0, slots := 0, locals := 0 } : Room) s m #[(.ref ga)] below meth c s₁ [] 0 0 := Stand.of_body Bd
  have e0 : s₁.heap = h0 := by rw [← hh, Bd.state]; rfl
  have N0 := Fr.nil n0
  obtain ⟨G, hG⟩ : ∃ G : State → Prop, G = (fun U' => ∃ o, U'.status = .running ∧ Ended U' below o ∧ ∃ v L, o = .returned v ∧ Q_hp1 Z ga gx h0 n0 v U'.heap L ∧ FrameEnd s o U' L ({ frames := 0, cells := 0, slots := 0, locals := 0 } : Room).cells ({ frames := 0, cells := 0, slots := 0, locals := 0 } : Room).slots) := ⟨_, rfl⟩
  suffices key : Gl p.tables e below s₁ (mkF m 0 #[.val (.ref ga)] []) G by
    obtain ⟨s₂, k1, k2⟩ := key
    rw [hG] at k2
    obtain ⟨o, k3, k4, k5⟩ := k2
    exact ⟨s₂, o, castTop (ef_hp1 m ga) k1, k3, k4, k5⟩
  show Gl p.tables e below s₁ (mkF m 0 #[.val (.ref ga)] []) G
  refine Gl.via (fun _ k => XS.aloadN X0.here hx rfl (hb hby d17_0) rfl rfl k) ?_
  show Gl p.tables e below s₁ (mkF m 1 #[.val (.ref ga)] [(.ref ga)]) G
  obtain ⟨T1, X1, e1, st1⟩ := getF X0 hx hZ hown (host := "") (Or.inl (hw _ (List.mem_of_getElem? (i := 112) rfl))) Via.refl e0 F0_ga_number (g := (mkF m 1 #[.val (.ref ga)] [(.ref ga)])) rfl rfl (hb hby d17_1)
  refine Gl.via st1 ?_
  show Gl p.tables e below T1 (mkF m 4 #[.val (.ref ga)] [(.int gx)]) G
  refine Gl.via (fun _ k => XS.iconst X1.here hx rfl (hb hby d17_4) k) ?_
  show Gl p.tables e below T1 (mkF m 5 #[.val (.ref ga)] [(.int (1 : Int32)), (.int gx)]) G
  refine Gl.via (fun _ k => XS.icmpNo X1.here hx rfl (hb hby d17_5) rfl (tlt hg).2.2.2 k) ?_
  show Gl p.tables e below T1 (mkF m 8 #[.val (.ref ga)] []) G
  refine Gl.via (fun _ k => XS.iconst X1.here hx rfl (hb hby d17_8) k) ?_
  show Gl p.tables e below T1 (mkF m 9 #[.val (.ref ga)] [(.int (1 : Int32))]) G
  refine Gl.via (fun _ k => XS.goto X1.here hx rfl (pc0 := 9) (pc' := 13) rfl (hb hby d17_9) (by decide) (by decide) k) ?_
  show Gl p.tables e below T1 (mkF m 13 #[.val (.ref ga)] [(.int (1 : Int32))]) G
  obtain ⟨fs, hr, hrun, hended, hW, hsame⟩ := X1.leave (v := some (.int (1 : Int32))) (fun h => by rw [Bd.returns] at h; cases h)
  have hq : ∀ L, Fr n0 L → Q_hp1 Z ga gx h0 n0 (some (.int (1 : Int32))) T1.heap L := by
    intro L hN
    rw [e1]
    exact ⟨rfl, hN, rfl⟩
  rw [hG]
  exact Gl.fin (retN X1 hx (t := .boolean) Bd.returns (by simp) (hb hby d17_13) hr) ⟨_, hrun, hended, _, _, rfl, hq _ N0, ⟨_, rfl⟩, hW, hsame.mono (by decide) (by decide)⟩
theorem d17_12 : decode prog_40_method_2_code 12 = .ok (.iconst 0, 1) := by decide +kernel
theorem ef_hp0 (m : MethodId) (x0 : Addr) : entryFrame m #[(.ref x0)] 1 = mkF m 0 #[.val (.ref x0)] [] := by first | (simp [entryFrame, mkF, argsToLocals, Value.category]; done) | rfl
def Q_hp0 (Z : State) (ga : Addr) (gx : Int32) (h0 : Heap) (n0 : Nat) (v : Option Value) (h : Heap) (L : List Loc) : Prop := v = some (.int (0 : Int32)) ∧ Fr n0 L ∧ h = h0
set_option maxRecDepth 65536 in
set_option maxHeartbeats 40000000 in
theorem hp0 (l : Launch) (Z : State) (a0 : Array Value) (hw : ∀ d ∈ tables_1, d.before a0 Z = true) (ws : List Jvm.Cond) (ga : Addr) (gx : Int32) (h0 : Heap) (n0 : Nat) (Z0 : n0 ≤ h0.size) (F0_ga_number : Fld Z h0 ga "com/example/kereso/kereso/Search$ResultPage" "number" "I" (.int gx)) (hg : ¬ ((1 : Int32) < gx)) :
    MetFree l (⟨"com/example/kereso/kereso/Search$ResultPage", "hasPrevious", "()Z"⟩ : MethodName) (head1 (Jvm.Cond.code (⟨"com/example/kereso/kereso/Search$ResultPage", "hasPrevious", "()Z"⟩ : MethodName) prog_40_method_2_code 1 (some .boolean) :: ws) ({ frames := 0, cells := 0, slots := 0, locals := 0 } : Room)) (fun a U => a = #[(.ref ga)] ∧ Z.Warmed39 U.vm ∧ U.heap = h0) (fun _ _ _ _ _ => True) (fun _ U o U' => ∃ v L, o = .returned v ∧ Q_hp0 Z ga gx h0 n0 v U'.heap L ∧ FrameEnd U o U' L ({ frames := 0, cells := 0, slots := 0, locals := 0 } : Room).cells ({ frames := 0, cells := 0, slots := 0, locals := 0 } : Room).slots) := by
  refine MetFree.of_bodySF (plainFor_of_name pn_7) hisR ?_
  intro p e s m args below meth c s₁ Bd hml0 hP hK
  obtain ⟨rfl, hZ, hh⟩ := hP
  have hx := Bd.exec
  have hby := Bd.bytes
  have hml : c.maxLocals = 1 := hml0
  have hown : s.vm.findClass "com/example/kereso/kereso/Search$ResultPage" = some m.cls := findClass_of_methodNamed Bd.named
  have hnm := (name_of_methodNamed Bd.named Bd.method).1
  have X0 : Stand p l e ({ frames := 0, cells := 0, slots := 0, locals := 0 } : Room) s m #[(.ref ga)] below meth c s₁ [] 0 0 := Stand.of_body Bd
  have e0 : s₁.heap = h0 := by rw [← hh, Bd.state]; rfl
  have N0 := Fr.nil n0
  obtain ⟨G, hG⟩ : ∃ G : State → Prop, G = (fun U' => ∃ o, U'.status = .running ∧ Ended U' below o ∧ ∃ v L, o = .returned v ∧ Q_hp0 Z ga gx h0 n0 v U'.heap L ∧ FrameEnd s o U' L ({ frames := 0, cells := 0, slots := 0, locals := 0 } : Room).cells ({ frames := 0, cells := 0, slots := 0, locals := 0 } : Room).slots) := ⟨_, rfl⟩
  suffices key : Gl p.tables e below s₁ (mkF m 0 #[.val (.ref ga)] []) G by
    obtain ⟨s₂, k1, k2⟩ := key
    rw [hG] at k2
    obtain ⟨o, k3, k4, k5⟩ := k2
    exact ⟨s₂, o, castTop (ef_hp0 m ga) k1, k3, k4, k5⟩
  show Gl p.tables e below s₁ (mkF m 0 #[.val (.ref ga)] []) G
  refine Gl.via (fun _ k => XS.aloadN X0.here hx rfl (hb hby d17_0) rfl rfl k) ?_
  show Gl p.tables e below s₁ (mkF m 1 #[.val (.ref ga)] [(.ref ga)]) G
  obtain ⟨T1, X1, e1, st1⟩ := getF X0 hx hZ hown (host := "") (Or.inl (hw _ (List.mem_of_getElem? (i := 112) rfl))) Via.refl e0 F0_ga_number (g := (mkF m 1 #[.val (.ref ga)] [(.ref ga)])) rfl rfl (hb hby d17_1)
  refine Gl.via st1 ?_
  show Gl p.tables e below T1 (mkF m 4 #[.val (.ref ga)] [(.int gx)]) G
  refine Gl.via (fun _ k => XS.iconst X1.here hx rfl (hb hby d17_4) k) ?_
  show Gl p.tables e below T1 (mkF m 5 #[.val (.ref ga)] [(.int (1 : Int32)), (.int gx)]) G
  refine Gl.via (fun _ k => XS.icmpYes X1.here hx rfl (pc0 := 5) (pc' := 12) rfl (hb hby d17_5) rfl (flt hg).2.2.2 (by decide) (by decide) k) ?_
  show Gl p.tables e below T1 (mkF m 12 #[.val (.ref ga)] []) G
  refine Gl.via (fun _ k => XS.iconst X1.here hx rfl (hb hby d17_12) k) ?_
  show Gl p.tables e below T1 (mkF m 13 #[.val (.ref ga)] [(.int (0 : Int32))]) G
  obtain ⟨fs, hr, hrun, hended, hW, hsame⟩ := X1.leave (v := some (.int (0 : Int32))) (fun h => by rw [Bd.returns] at h; cases h)
  have hq : ∀ L, Fr n0 L → Q_hp0 Z ga gx h0 n0 (some (.int (0 : Int32))) T1.heap L := by
    intro L hN
    rw [e1]
    exact ⟨rfl, hN, rfl⟩
  rw [hG]
  exact Gl.fin (retN X1 hx (t := .boolean) Bd.returns (by simp) (hb hby d17_13) hr) ⟨_, hrun, hended, _, _, rfl, hq _ N0, ⟨_, rfl⟩, hW, hsame.mono (by decide) (by decide)⟩
theorem d18_0 : decode prog_40_method_6_code 0 = .ok (.aload_n 0, 1) := by decide +kernel
theorem d18_1 : decode prog_40_method_6_code 1 = .ok (.getfield 7, 3) := by decide +kernel
theorem d18_4 : decode prog_40_method_6_code 4 = .ok (.ireturn, 1) := by decide +kernel
theorem ef_gnum (m : MethodId) (x0 : Addr) : entryFrame m #[(.ref x0)] 1 = mkF m 0 #[.val (.ref x0)] [] := by first | (simp [entryFrame, mkF, argsToLocals, Value.category]; done) | rfl
def Q_gnum (Z : State) (ga : Addr) (gx : Int32) (h0 : Heap) (n0 : Nat) (v : Option Value) (h : Heap) (L : List Loc) : Prop := v = some (.int gx) ∧ Fr n0 L ∧ h = h0
set_option maxRecDepth 65536 in
set_option maxHeartbeats 40000000 in
theorem gnum (l : Launch) (Z : State) (a0 : Array Value) (hw : ∀ d ∈ tables_1, d.before a0 Z = true) (ws : List Jvm.Cond) (ga : Addr) (gx : Int32) (h0 : Heap) (n0 : Nat) (Z0 : n0 ≤ h0.size) (F0_ga_number : Fld Z h0 ga "com/example/kereso/kereso/Search$ResultPage" "number" "I" (.int gx)) :
    MetFree l (⟨"com/example/kereso/kereso/Search$ResultPage", "number", "()I"⟩ : MethodName) (head1 (Jvm.Cond.code (⟨"com/example/kereso/kereso/Search$ResultPage", "number", "()I"⟩ : MethodName) prog_40_method_6_code 1 (some .int) :: ws) ({ frames := 0, cells := 0, slots := 0, locals := 0 } : Room)) (fun a U => a = #[(.ref ga)] ∧ Z.Warmed39 U.vm ∧ U.heap = h0) (fun _ _ _ _ _ => True) (fun _ U o U' => ∃ v L, o = .returned v ∧ Q_gnum Z ga gx h0 n0 v U'.heap L ∧ FrameEnd U o U' L ({ frames := 0, cells := 0, slots := 0, locals := 0 } : Room).cells ({ frames := 0, cells := 0, slots := 0, locals := 0 } : Room).slots) := by
  refine MetFree.of_bodySF (plainFor_of_name pn_7) hisR ?_
  intro p e s m args below meth c s₁ Bd hml0 hP hK
  obtain ⟨rfl, hZ, hh⟩ := hP
  have hx := Bd.exec
  have hby := Bd.bytes
  have hml : c.maxLocals = 1 := hml0
  have hown : s.vm.findClass "com/example/kereso/kereso/Search$ResultPage" = some m.cls := findClass_of_methodNamed Bd.named
  have hnm := (name_of_methodNamed Bd.named Bd.method).1
  have X0 : Stand p l e ({ frames := 0, cells := 0, slots := 0, locals := 0 } : Room) s m #[(.ref ga)] below meth c s₁ [] 0 0 := Stand.of_body Bd
  have e0 : s₁.heap = h0 := by rw [← hh, Bd.state]; rfl
  have N0 := Fr.nil n0
  obtain ⟨G, hG⟩ : ∃ G : State → Prop, G = (fun U' => ∃ o, U'.status = .running ∧ Ended U' below o ∧ ∃ v L, o = .returned v ∧ Q_gnum Z ga gx h0 n0 v U'.heap L ∧ FrameEnd s o U' L ({ frames := 0, cells := 0, slots := 0, locals := 0 } : Room).cells ({ frames := 0, cells := 0, slots := 0, locals := 0 } : Room).slots) := ⟨_, rfl⟩
  suffices key : Gl p.tables e below s₁ (mkF m 0 #[.val (.ref ga)] []) G by
    obtain ⟨s₂, k1, k2⟩ := key
    rw [hG] at k2
    obtain ⟨o, k3, k4, k5⟩ := k2
    exact ⟨s₂, o, castTop (ef_gnum m ga) k1, k3, k4, k5⟩
  show Gl p.tables e below s₁ (mkF m 0 #[.val (.ref ga)] []) G
  refine Gl.via (fun _ k => XS.aloadN X0.here hx rfl (hb hby d18_0) rfl rfl k) ?_
  show Gl p.tables e below s₁ (mkF m 1 #[.val (.ref ga)] [(.ref ga)]) G
  obtain ⟨T1, X1, e1, st1⟩ := getF X0 hx hZ hown (host := "") (Or.inl (hw _ (List.mem_of_getElem? (i := 112) rfl))) Via.refl e0 F0_ga_number (g := (mkF m 1 #[.val (.ref ga)] [(.ref ga)])) rfl rfl (hb hby d18_1)
  refine Gl.via st1 ?_
  show Gl p.tables e below T1 (mkF m 4 #[.val (.ref ga)] [(.int gx)]) G
  obtain ⟨fs, hr, hrun, hended, hW, hsame⟩ := X1.leave (v := some (.int gx)) (fun h => by rw [Bd.returns] at h; cases h)
  have hq : ∀ L, Fr n0 L → Q_gnum Z ga gx h0 n0 (some (.int gx)) T1.heap L := by
    intro L hN
    rw [e1]
    exact ⟨rfl, hN, rfl⟩
  rw [hG]
  exact Gl.fin (retOut X1 hx Bd.returns rfl (Or.inl ⟨rfl, Or.inl rfl, _, rfl⟩) (hb hby d18_4) hr) ⟨_, hrun, hended, _, _, rfl, hq _ N0, ⟨_, rfl⟩, hW, hsame.mono (by decide) (by decide)⟩
theorem pn_8 : plainName "com/example/kereso/kereso/ResultPageHasPreviousPinLaw" = true := by first | (simp [plainName, overriddenIn]; done) | decide +kernel
theorem pd_8 : parseMethodDescriptor "(ILjava/util/List;Z)V" = some ⟨[.int, (.object "java/util/List"), .boolean], none⟩ := by decide +kernel
theorem pd_9 : parseMethodDescriptor "()Z" = some ⟨[], some .boolean⟩ := by decide +kernel
theorem pd_10 : parseMethodDescriptor "()I" = some ⟨[], some .int⟩ := by decide +kernel
theorem pd_11 : parseMethodDescriptor "(C)Ljava/lang/String;" = some ⟨[.char], some (.object "java/lang/String")⟩ := by decide +kernel
theorem pd_12 : parseMethodDescriptor "(IDLjava/lang/String;Ljava/lang/String;)V" = some ⟨[.int, .double, (.object "java/lang/String"), (.object "java/lang/String")], none⟩ := by decide +kernel
theorem pd_13 : parseMethodDescriptor "(Ljava/lang/Object;)Z" = some ⟨[(.object "java/lang/Object")], some .boolean⟩ := by decide +kernel
theorem ef_rm0 (m : MethodId) (x0 : Int32) (x1 : Int32) : entryFrame m #[(.int x0), (.int x1)] maxLocals = mkF m 0 #[.val (.int x0), .val (.int x1), .unset, .unset, .unset, .unset] [] := by first | (simp [entryFrame, mkF, argsToLocals, Value.category, maxLocals]; done) | rfl
def Q_rm0 (Z : State) (p0 : Int32) (p1 : Int32) (cs : Int32) (da : Addr) (dk : ClassId) (h0 : Heap) (n0 : Nat) (v : Option Value) (h : Heap) (L : List Loc) : Prop := v = some (.int (1 : Int32)) ∧ Fr n0 L
set_option maxRecDepth 65536 in
set_option maxHeartbeats 40000000 in
theorem rm0 (l : Launch) (Z : State) (a0 : Array Value) (hw : ∀ d ∈ tables_1, d.before a0 Z = true) (ws : List Jvm.Cond) (p0 : Int32) (p1 : Int32) (cs : Int32) (da : Addr) (dk : ClassId) (h0 : Heap) (n0 : Nat) (Z0 : n0 ≤ h0.size) (F0_java_lang_String : Sta Z Z.heap "java/lang/String" "COMPACT_STRINGS" "Z" (.int cs)) (F1_java_util_ArrayList : Sta Z Z.heap "java/util/ArrayList" "DEFAULTCAPACITY_EMPTY_ELEMENTDATA" "[Ljava/lang/Object;" (.ref da)) (F2_da : Arv Z Z.heap da dk (.object "java/lang/Object") (0 : Int32) [] .null) (F3_ : Old Z n0 h0) (hcs : ¬ (cs = (0 : Int32))) :
    MetFree l x (head1 (Jvm.Cond.code x code maxLocals ret :: ws) room_1) (fun a U => a = #[(.int p0), (.int p1)] ∧ Z.Warmed39 U.vm ∧ U.heap = h0) (fun _ _ _ _ _ => True) (fun _ U o U' => ∃ v L, o = .returned v ∧ Q_rm0 Z p0 p1 cs da dk h0 n0 v U'.heap L ∧ FrameEnd U o U' L 8 30) := by
  refine MetFree.of_bodySF (plainFor_of_name pn_8) hisR ?_
  intro p e s m args below meth c s₁ Bd hml0 hP hK
  obtain ⟨rfl, hZ, hh⟩ := hP
  have hx := Bd.exec
  have hby := Bd.bytes
  have hml : c.maxLocals = 6 := hml0
  have hown : s.vm.findClass "com/example/kereso/kereso/ResultPageHasPreviousPinLaw" = some m.cls := findClass_of_methodNamed Bd.named
  have hnm := (name_of_methodNamed Bd.named Bd.method).1
  have X0 : Stand p l e room_1 s m #[(.int p0), (.int p1)] below meth c s₁ [] 0 0 := Stand.of_body Bd
  have e0 : s₁.heap = h0 := by rw [← hh, Bd.state]; rfl
  have N0 := Fr.nil n0
  obtain ⟨G, hG⟩ : ∃ G : State → Prop, G = (fun U' => ∃ o, U'.status = .running ∧ Ended U' below o ∧ ∃ v L, o = .returned v ∧ Q_rm0 Z p0 p1 cs da dk h0 n0 v U'.heap L ∧ FrameEnd s o U' L 8 30) := ⟨_, rfl⟩
  suffices key : Gl p.tables e below s₁ (mkF m 0 #[.val (.int p0), .val (.int p1), .unset, .unset, .unset, .unset] []) G by
    obtain ⟨s₂, k1, k2⟩ := key
    rw [hG] at k2
    obtain ⟨o, k3, k4, k5⟩ := k2
    exact ⟨s₂, o, castTop (ef_rm0 m p0 p1) k1, k3, k4, k5⟩
  show Gl p.tables e below s₁ (mkF m 0 #[.val (.int p0), .val (.int p1), .unset, .unset, .unset, .unset] []) G
  refine Gl.via (fun _ k => XS.iloadN X0.here hx rfl (hb hby at_0) rfl k) ?_
  show Gl p.tables e below s₁ (mkF m 1 #[.val (.int p0), .val (.int p1), .unset, .unset, .unset, .unset] [(.int p1)]) G
  refine Gl.via (fun _ k => XS.iconst X0.here hx rfl (hb hby at_1) k) ?_
  show Gl p.tables e below s₁ (mkF m 2 #[.val (.int p0), .val (.int p1), .unset, .unset, .unset, .unset] [(.int (1 : Int32)), (.int p1)]) G
  refine Gl.via (fun _ k => XS.iand X0.here hx rfl (hb hby at_2) rfl k) ?_
  show Gl p.tables e below s₁ (mkF m 3 #[.val (.int p0), .val (.int p1), .unset, .unset, .unset, .unset] [(.int (p1 &&& (1 : Int32)))]) G
  by_cases f1 : (p1 &&& (1 : Int32)) = (0 : Int32)
  · refine Gl.via (fun _ k => XS.ifYes X0.here hx rfl (pc0 := 3) (pc' := 10) rfl (hb hby at_3) rfl ((if0 _ _).trans (teq f1).1) (by decide) (by decide) k) ?_
    show Gl p.tables e below s₁ (mkF m 10 #[.val (.int p0), .val (.int p1), .unset, .unset, .unset, .unset] []) G
    refine Gl.via (fun _ k => XS.iconst X0.here hx rfl (hb hby at_10) k) ?_
    show Gl p.tables e below s₁ (mkF m 11 #[.val (.int p0), .val (.int p1), .unset, .unset, .unset, .unset] [(.int (0 : Int32))]) G
    refine Gl.via (fun _ k => XS.istoreN X0.here hx rfl (hb hby at_11) rfl (l' := #[.val (.int p0), .val (.int p1), .val (.int (0 : Int32)), .unset, .unset, .unset]) rfl k) ?_
    show Gl p.tables e below s₁ (mkF m 12 #[.val (.int p0), .val (.int p1), .val (.int (0 : Int32)), .unset, .unset, .unset] []) G
    obtain ⟨T1, h1, X1, e1, E1, A1, D1, -, st1⟩ := newO X0 hx hZ hown (hw _ (List.mem_of_getElem? (i := 0) rfl)) (hw _ (List.mem_of_getElem? (i := 1) rfl)) (hw _ (List.mem_of_getElem? (i := 2) rfl)) e0 (g := (mkF m 12 #[.val (.int p0), .val (.int p1), .val (.int (0 : Int32)), .unset, .unset, .unset] [])) rfl (hb hby at_12) (by decide) (by decide)
    obtain ⟨b1, g1⟩ : ∃ z, z = h0.size := ⟨_, rfl⟩
    rw [← g1] at A1 D1 st1
    have ge2 : n0 ≤ b1 := Nat.le_trans Z0 (Nat.le_of_eq g1.symm)
    have gz3 : h0.size ≤ b1 := Nat.le_trans (Nat.le_refl h0.size) (Nat.le_of_eq g1.symm)
    refine Gl.via st1 ?_
    have Z4 : n0 ≤ h1.size := Nat.le_trans Z0 E1.1
    have Y5 : h0.size ≤ h1.size := Nat.le_trans (Nat.le_refl h0.size) E1.1
    have F6 : Fld Z h1 b1 "java/util/AbstractList" "modCount" "I" (.int (0 : Int32)) := D1 (Or.inl (hw _ (List.mem_of_getElem? (i := 22) rfl))) (ty := .int) (by decide)
    have F7 : Fld Z h1 b1 "java/util/ArrayList" "elementData" "[Ljava/lang/Object;" .null := D1 (Or.inl (hw _ (List.mem_of_getElem? (i := 25) rfl))) (ty := (.array (.object "java/lang/Object"))) (by decide)
    have F8 : Fld Z h1 b1 "java/util/ArrayList" "size" "I" (.int (0 : Int32)) := D1 (Or.inl (hw _ (List.mem_of_getElem? (i := 82) rfl))) (ty := .int) (by decide)
    show Gl p.tables e below T1 (mkF m 15 #[.val (.int p0), .val (.int p1), .val (.int (0 : Int32)), .unset, .unset, .unset] [(.ref b1)]) G
    refine Gl.via (fun _ k => XS.dup X1.here hx rfl (hb hby at_15) rfl rfl k) ?_
    show Gl p.tables e below T1 (mkF m 16 #[.val (.int p0), .val (.int p1), .val (.int (0 : Int32)), .unset, .unset, .unset] [(.ref b1), (.ref b1)]) G
    have G10 : Old Z n0 h1 := (F3_.ext E1)
    obtain ⟨_, _, ⟨T9, L9, k9, n9⟩, -, X9, ⟨Lc9, hQ9, l9, y9, z9⟩, st9⟩ := X1.specialBack hx (y := (⟨"java/util/ArrayList", "<init>", "()V"⟩ : MethodName)) rfl hown (mvT hZ (hw _ (List.mem_of_getElem? (i := 3) rfl))) (mvT hZ (hw _ (List.mem_of_getElem? (i := 4) rfl))) (mvT hZ (hw _ (List.mem_of_getElem? (i := 5) rfl))) (by decide) (backOf (W := 1) (l_init l Z a0 hw [] b1 da (.int (0 : Int32)) .null (.int (0 : Int32)) h1 n0 Z4 A1 F6 F7 F8 F1_java_util_ArrayList G10 ge2) hZ (hw _ (List.mem_of_getElem? (i := 5) rfl)) (hw _ (List.mem_of_getElem? (i := 2) rfl)) (by decide) (by decide)) (g := (mkF m 16 #[.val (.int p0), .val (.int p1), .val (.int (0 : Int32)), .unset, .unset, .unset] [(.ref b1), (.ref b1)])) rfl (by rw [hml]; rfl) (Steps.refl _) (a := b1) (argsL := []) (rest := [(.ref b1)]) (lenOf pd_0 rfl) rfl (by show 2 * 0 + _ ≤ _; exact Nat.le_of_eq rfl) (hb hby at_16) (fun _ _ => ⟨rfl, e1, (by decide : 1 + 0 ≤ _), (by decide : 3 + 0 ≤ _)⟩)
    dsimp only [Pt.U, Pt.locs, Pt.cells, Pt.slots] at X9 l9 y9 z9 st9 hQ9
    subst l9 y9 z9
    obtain ⟨rfl, N9q, K9, P11, P12, P13, P14⟩ := hQ9
    have N9_ := Fr.app N0 N9q
    refine Gl.via (fun _ k => st9.trans k) ?_
    have Z15 : n0 ≤ T9.heap.size := Nat.le_trans Z4 K9.1
    have Y16 : h0.size ≤ T9.heap.size := Nat.le_trans Y5 K9.1
    show Gl p.tables e below T9 (mkF m 19 #[.val (.int p0), .val (.int p1), .val (.int (0 : Int32)), .unset, .unset, .unset] [(.ref b1)]) G
    refine Gl.via (fun _ k => XS.astoreN X9.here hx rfl (hb hby at_19) rfl rfl (l' := #[.val (.int p0), .val (.int p1), .val (.int (0 : Int32)), .val (.ref b1), .unset, .unset]) rfl k) ?_
    show Gl p.tables e below T9 (mkF m 20 #[.val (.int p0), .val (.int p1), .val (.int (0 : Int32)), .val (.ref b1), .unset, .unset] []) G
    refine Gl.via (fun _ k => XS.iloadN X9.here hx rfl (hb hby at_20) rfl k) ?_
    show Gl p.tables e below T9 (mkF m 21 #[.val (.int p0), .val (.int p1), .val (.int (0 : Int32)), .val (.ref b1), .unset, .unset] [(.int p1)]) G
    refine Gl.via (fun _ k => XS.iconst X9.here hx rfl (hb hby at_21) k) ?_
    show Gl p.tables e below T9 (mkF m 22 #[.val (.int p0), .val (.int p1), .val (.int (0 : Int32)), .val (.ref b1), .unset, .unset] [(.int (2 : Int32)), (.int p1)]) G
    refine Gl.via (fun _ k => XS.iand X9.here hx rfl (hb hby at_22) rfl k) ?_
    show Gl p.tables e below T9 (mkF m 23 #[.val (.int p0), .val (.int p1), .val (.int (0 : Int32)), .val (.ref b1), .unset, .unset] [(.int (p1 &&& (2 : Int32)))]) G
    by_cases f2 : (p1 &&& (2 : Int32)) = (0 : Int32)
    · refine Gl.via (fun _ k => XS.ifYes X9.here hx rfl (pc0 := 23) (pc' := 81) rfl (hb hby at_23) rfl ((if0 _ _).trans (teq f2).1) (by decide) (by decide) k) ?_
      show Gl p.tables e below T9 (mkF m 81 #[.val (.int p0), .val (.int p1), .val (.int (0 : Int32)), .val (.ref b1), .unset, .unset] []) G
      obtain ⟨T17, h17, X17, e17, E17, A17, D17, -, st17⟩ := newO X9 hx hZ hown (hw _ (List.mem_of_getElem? (i := 105) rfl)) (hw _ (List.mem_of_getElem? (i := 106) rfl)) (hw _ (List.mem_of_getElem? (i := 107) rfl)) rfl (g := (mkF m 81 #[.val (.int p0), .val (.int p1), .val (.int (0 : Int32)), .val (.ref b1), .unset, .unset] [])) rfl (hb hby at_81) (by decide) (by decide)
      obtain ⟨b17, g17⟩ : ∃ z, z = T9.heap.size := ⟨_, rfl⟩
      rw [← g17] at A17 D17 st17
      have ne18 : b1 ≠ b17 := Nat.ne_of_lt (Nat.lt_of_lt_of_le P11.lt (Nat.le_of_eq g17.symm))
      have ge19 : n0 ≤ b17 := Nat.le_trans Z15 (Nat.le_of_eq g17.symm)
      have gz20 : h0.size ≤ b17 := Nat.le_trans Y16 (Nat.le_of_eq g17.symm)
      refine Gl.via st17 ?_
      have Z21 : n0 ≤ h17.size := Nat.le_trans Z15 E17.1
      have Y22 : h0.size ≤ h17.size := Nat.le_trans Y16 E17.1
      have F23 : Fld Z h17 b17 "com/example/kereso/kereso/Search$ResultPage" "number" "I" (.int (0 : Int32)) := D17 (Or.inr (hw _ (List.mem_of_getElem? (i := 113) rfl))) (ty := .int) (by decide)
      have F24 : Fld Z h17 b17 "com/example/kereso/kereso/Search$ResultPage" "hits" "Ljava/util/List;" .null := D17 (Or.inr (hw _ (List.mem_of_getElem? (i := 115) rfl))) (ty := (.object "java/util/List")) (by decide)
      have F25 : Fld Z h17 b17 "com/example/kereso/kereso/Search$ResultPage" "hasNext" "Z" (.int (0 : Int32)) := D17 (Or.inr (hw _ (List.mem_of_getElem? (i := 117) rfl))) (ty := .boolean) (by decide)
      show Gl p.tables e below T17 (mkF m 84 #[.val (.int p0), .val (.int p1), .val (.int (0 : Int32)), .val (.ref b1), .unset, .unset] [(.ref b17)]) G
      refine Gl.via (fun _ k => XS.dup X17.here hx rfl (hb hby at_84) rfl rfl k) ?_
      show Gl p.tables e below T17 (mkF m 85 #[.val (.int p0), .val (.int p1), .val (.int (0 : Int32)), .val (.ref b1), .unset, .unset] [(.ref b17), (.ref b17)]) G
      refine Gl.via (fun _ k => XS.iloadN X17.here hx rfl (hb hby at_85) rfl k) ?_
      show Gl p.tables e below T17 (mkF m 86 #[.val (.int p0), .val (.int p1), .val (.int (0 : Int32)), .val (.ref b1), .unset, .unset] [(.int p0), (.ref b17), (.ref b17)]) G
      refine Gl.via (fun _ k => XS.aloadN X17.here hx rfl (hb hby at_86) rfl rfl k) ?_
      show Gl p.tables e below T17 (mkF m 87 #[.val (.int p0), .val (.int p1), .val (.int (0 : Int32)), .val (.ref b1), .unset, .unset] [(.ref b1), (.int p0), (.ref b17), (.ref b17)]) G
      refine Gl.via (fun _ k => XS.iloadN X17.here hx rfl (hb hby at_87) rfl k) ?_
      show Gl p.tables e below T17 (mkF m 88 #[.val (.int p0), .val (.int p1), .val (.int (0 : Int32)), .val (.ref b1), .unset, .unset] [(.int (0 : Int32)), (.ref b1), (.int p0), (.ref b17), (.ref b17)]) G
      obtain ⟨_, _, ⟨T26, L26, k26, n26⟩, -, X26, ⟨Lc26, hQ26, l26, y26, z26⟩, st26⟩ := X17.specialBack hx (y := (⟨"com/example/kereso/kereso/Search$ResultPage", "<init>", "(ILjava/util/List;Z)V"⟩ : MethodName)) rfl hown (mvT hZ (hw _ (List.mem_of_getElem? (i := 108) rfl))) (mvT hZ (hw _ (List.mem_of_getElem? (i := 109) rfl))) (mvT hZ (hw _ (List.mem_of_getElem? (i := 110) rfl))) (by decide) (backOf (W := 1) (p_init l Z a0 hw [] b17 p0 b1 (0 : Int32) (.int (0 : Int32)) .null (.int (0 : Int32)) h17 n0 Z21 A17 F23 F24 F25 ge19 (by first | assumption | rfl | decide | omega) (by first | assumption | rfl | decide | omega)) hZ (hw _ (List.mem_of_getElem? (i := 110) rfl)) (hw _ (List.mem_of_getElem? (i := 107) rfl)) (by decide) (by decide)) (g := (mkF m 88 #[.val (.int p0), .val (.int p1), .val (.int (0 : Int32)), .val (.ref b1), .unset, .unset] [(.int (0 : Int32)), (.ref b1), (.int p0), (.ref b17), (.ref b17)])) rfl (by rw [hml]; rfl) (Steps.refl _) (a := b17) (argsL := [(.int p0), (.ref b1), (.int (0 : Int32))]) (rest := [(.ref b17)]) (lenOf pd_8 rfl) rfl (by show 2 * 0 + _ ≤ _; exact Nat.le_of_eq rfl) (hb hby at_88) (fun _ _ => ⟨rfl, e17, (by decide : 2 + 0 ≤ _), (by decide : 6 + 0 ≤ _)⟩)
      dsimp only [Pt.U, Pt.locs, Pt.cells, Pt.slots] at X26 l26 y26 z26 st26 hQ26
      subst l26 y26 z26
      obtain ⟨rfl, N26q, K26, P27, P28⟩ := hQ26
      have N26_ := Fr.app N9_ N26q
      refine Gl.via (fun _ k => st26.trans k) ?_
      have Z29 : n0 ≤ T26.heap.size := Nat.le_trans Z21 K26.1
      have Y30 : h0.size ≤ T26.heap.size := Nat.le_trans Y22 K26.1
      show Gl p.tables e below T26 (mkF m 91 #[.val (.int p0), .val (.int p1), .val (.int (0 : Int32)), .val (.ref b1), .unset, .unset] [(.ref b17)]) G
      refine Gl.via (fun _ k => XS.astore X26.here hx rfl (hb hby at_91) rfl rfl (l' := #[.val (.int p0), .val (.int p1), .val (.int (0 : Int32)), .val (.ref b1), .val (.ref b17), .unset]) rfl k) ?_
      show Gl p.tables e below T26 (mkF m 93 #[.val (.int p0), .val (.int p1), .val (.int (0 : Int32)), .val (.ref b1), .val (.ref b17), .unset] []) G
      refine Gl.via (fun _ k => XS.iloadN X26.here hx rfl (hb hby at_93) rfl k) ?_
      show Gl p.tables e below T26 (mkF m 94 #[.val (.int p0), .val (.int p1), .val (.int (0 : Int32)), .val (.ref b1), .val (.ref b17), .unset] [(.int p0)]) G
      refine Gl.via (fun _ k => XS.iconst X26.here hx rfl (hb hby at_94) k) ?_
      show Gl p.tables e below T26 (mkF m 95 #[.val (.int p0), .val (.int p1), .val (.int (0 : Int32)), .val (.ref b1), .val (.ref b17), .unset] [(.int (2 : Int32)), (.int p0)]) G
      by_cases nn : p0 < (2 : Int32)
      · refine Gl.via (fun _ k => XS.icmpYes X26.here hx rfl (pc0 := 95) (pc' := 102) rfl (hb hby at_95) rfl (tlt nn).1 (by decide) (by decide) k) ?_
        show Gl p.tables e below T26 (mkF m 102 #[.val (.int p0), .val (.int p1), .val (.int (0 : Int32)), .val (.ref b1), .val (.ref b17), .unset] []) G
        refine Gl.via (fun _ k => XS.iconst X26.here hx rfl (hb hby at_102) k) ?_
        show Gl p.tables e below T26 (mkF m 103 #[.val (.int p0), .val (.int p1), .val (.int (0 : Int32)), .val (.ref b1), .val (.ref b17), .unset] [(.int (0 : Int32))]) G
        refine Gl.via (fun _ k => XS.istore X26.here hx rfl (hb hby at_103) rfl (l' := #[.val (.int p0), .val (.int p1), .val (.int (0 : Int32)), .val (.ref b1), .val (.ref b17), .val (.int (0 : Int32))]) rfl k) ?_
        show Gl p.tables e below T26 (mkF m 105 #[.val (.int p0), .val (.int p1), .val (.int (0 : Int32)), .val (.ref b1), .val (.ref b17), .val (.int (0 : Int32))] []) G
        refine Gl.via (fun _ k => XS.aload X26.here hx rfl (hb hby at_105) rfl rfl k) ?_
        show Gl p.tables e below T26 (mkF m 107 #[.val (.int p0), .val (.int p1), .val (.int (0 : Int32)), .val (.ref b1), .val (.ref b17), .val (.int (0 : Int32))] [(.ref b17)]) G
        obtain ⟨cq31, kq31, q31a, q31b, q31c⟩ := isOf hZ rfl P27
        obtain ⟨_, _, ⟨T31, L31, k31, n31⟩, -, X31, ⟨Lc31, hQ31, l31, y31, z31⟩, st31⟩ := X26.virtualBack hx (y := (⟨"com/example/kereso/kereso/Search$ResultPage", "hasPrevious", "()Z"⟩ : MethodName)) (z := (⟨"com/example/kereso/kereso/Search$ResultPage", "hasPrevious", "()Z"⟩ : MethodName)) hown (mvT hZ (hw _ (List.mem_of_getElem? (i := 118) rfl))) (mvT hZ (hw _ (List.mem_of_getElem? (i := 119) rfl))) (notFace_of_selects (args := #[]) (mvT hZ (hw _ (List.mem_of_getElem? (i := 121) rfl)))) (mvT hZ (hw _ (List.mem_of_getElem? (i := 121) rfl))) (mvT hZ (hw _ (List.mem_of_getElem? (i := 120) rfl))) (by decide) (backOf (W := 0) (hp0 l Z a0 hw [] b17 p0 T26.heap n0 Z29 P28 (own_two nn)) hZ (hw _ (List.mem_of_getElem? (i := 122) rfl)) (hw _ (List.mem_of_getElem? (i := 107) rfl)) (by decide) (by decide)) q31a q31c (g := (mkF m 107 #[.val (.int p0), .val (.int p1), .val (.int (0 : Int32)), .val (.ref b1), .val (.ref b17), .val (.int (0 : Int32))] [(.ref b17)])) rfl (by rw [hml]; rfl) (Steps.refl _) (argsL := []) (rest := []) (lenOf pd_9 rfl) rfl (by show 2 * 0 + _ ≤ _; exact Nat.le_of_eq rfl) (hb hby at_107) (fun _ _ => ⟨rfl, rfl, (by decide : 2 + 0 ≤ _), (by decide : 6 + 0 ≤ _)⟩)
        dsimp only [Pt.U, Pt.locs, Pt.cells, Pt.slots] at X31 l31 y31 z31 st31 hQ31
        subst l31 y31 z31
        obtain ⟨rfl, N31q, eh31⟩ := hQ31
        have N31_ := Fr.app N26_ N31q
        refine Gl.via (fun _ k => st31.trans k) ?_
        show Gl p.tables e below T31 (mkF m 110 #[.val (.int p0), .val (.int p1), .val (.int (0 : Int32)), .val (.ref b1), .val (.ref b17), .val (.int (0 : Int32))] [(.int (0 : Int32))]) G
        refine Gl.via (fun _ k => XS.iload X31.here hx rfl (hb hby at_110) rfl k) ?_
        show Gl p.tables e below T31 (mkF m 112 #[.val (.int p0), .val (.int p1), .val (.int (0 : Int32)), .val (.ref b1), .val (.ref b17), .val (.int (0 : Int32))] [(.int (0 : Int32)), (.int (0 : Int32))]) G
        refine Gl.via (fun _ k => XS.icmpNo X31.here hx rfl (hb hby at_112) rfl (teq (by decide)).2 k) ?_
        show Gl p.tables e below T31 (mkF m 115 #[.val (.int p0), .val (.int p1), .val (.int (0 : Int32)), .val (.ref b1), .val (.ref b17), .val (.int (0 : Int32))] []) G
        refine Gl.via (fun _ k => XS.aload X31.here hx rfl (hb hby at_115) rfl rfl k) ?_
        show Gl p.tables e below T31 (mkF m 117 #[.val (.int p0), .val (.int p1), .val (.int (0 : Int32)), .val (.ref b1), .val (.ref b17), .val (.int (0 : Int32))] [(.ref b17)]) G
        obtain ⟨cq32, kq32, q32a, q32b, q32c⟩ := isOf hZ eh31 P27
        obtain ⟨_, _, ⟨T32, L32, k32, n32⟩, -, X32, ⟨Lc32, hQ32, l32, y32, z32⟩, st32⟩ := X31.virtualBack hx (y := (⟨"com/example/kereso/kereso/Search$ResultPage", "number", "()I"⟩ : MethodName)) (z := (⟨"com/example/kereso/kereso/Search$ResultPage", "number", "()I"⟩ : MethodName)) hown (mvT hZ (hw _ (List.mem_of_getElem? (i := 123) rfl))) (mvT hZ (hw _ (List.mem_of_getElem? (i := 124) rfl))) (notFace_of_selects (args := #[]) (mvT hZ (hw _ (List.mem_of_getElem? (i := 126) rfl)))) (mvT hZ (hw _ (List.mem_of_getElem? (i := 126) rfl))) (mvT hZ (hw _ (List.mem_of_getElem? (i := 125) rfl))) (by decide) (backOf (W := 0) (gnum l Z a0 hw [] b17 p0 T26.heap n0 Z29 P28) hZ (hw _ (List.mem_of_getElem? (i := 127) rfl)) (hw _ (List.mem_of_getElem? (i := 107) rfl)) (by decide) (by decide)) q32a q32c (g := (mkF m 117 #[.val (.int p0), .val (.int p1), .val (.int (0 : Int32)), .val (.ref b1), .val (.ref b17), .val (.int (0 : Int32))] [(.ref b17)])) rfl (by rw [hml]; rfl) (Steps.refl _) (argsL := []) (rest := []) (lenOf pd_10 rfl) rfl (by show 2 * 0 + _ ≤ _; exact Nat.le_of_eq rfl) (hb hby at_117) (fun _ _ => ⟨rfl, eh31, (by decide : 2 + 0 ≤ _), (by decide : 6 + 0 ≤ _)⟩)
        dsimp only [Pt.U, Pt.locs, Pt.cells, Pt.slots] at X32 l32 y32 z32 st32 hQ32
        subst l32 y32 z32
        obtain ⟨rfl, N32q, eh32⟩ := hQ32
        have N32_ := Fr.app N31_ N32q
        refine Gl.via (fun _ k => st32.trans k) ?_
        show Gl p.tables e below T32 (mkF m 120 #[.val (.int p0), .val (.int p1), .val (.int (0 : Int32)), .val (.ref b1), .val (.ref b17), .val (.int (0 : Int32))] [(.int p0)]) G
        refine Gl.via (fun _ k => XS.iloadN X32.here hx rfl (hb hby at_120) rfl k) ?_
        show Gl p.tables e below T32 (mkF m 121 #[.val (.int p0), .val (.int p1), .val (.int (0 : Int32)), .val (.ref b1), .val (.ref b17), .val (.int (0 : Int32))] [(.int p0), (.int p0)]) G
        refine Gl.via (fun _ k => XS.icmpNo X32.here hx rfl (hb hby at_121) rfl (teq rfl).2 k) ?_
        show Gl p.tables e below T32 (mkF m 124 #[.val (.int p0), .val (.int p1), .val (.int (0 : Int32)), .val (.ref b1), .val (.ref b17), .val (.int (0 : Int32))] []) G
        refine Gl.via (fun _ k => XS.iconst X32.here hx rfl (hb hby at_124) k) ?_
        show Gl p.tables e below T32 (mkF m 125 #[.val (.int p0), .val (.int p1), .val (.int (0 : Int32)), .val (.ref b1), .val (.ref b17), .val (.int (0 : Int32))] [(.int (1 : Int32))]) G
        refine Gl.via (fun _ k => XS.goto X32.here hx rfl (pc0 := 125) (pc' := 129) rfl (hb hby at_125) (by decide) (by decide) k) ?_
        show Gl p.tables e below T32 (mkF m 129 #[.val (.int p0), .val (.int p1), .val (.int (0 : Int32)), .val (.ref b1), .val (.ref b17), .val (.int (0 : Int32))] [(.int (1 : Int32))]) G
        obtain ⟨fs, hr, hrun, hended, hW, hsame⟩ := X32.leave (v := some (.int (1 : Int32))) (fun h => by rw [Bd.returns] at h; cases h)
        have hq : ∀ L, Fr n0 L → Q_rm0 Z p0 p1 cs da dk h0 n0 (some (.int (1 : Int32))) T32.heap L := by
          intro L hN
          rw [eh32]
          exact ⟨rfl, hN⟩
        rw [hG]
        exact Gl.fin (retN X32 hx (t := .boolean) Bd.returns (by simp) (hb hby at_129) hr) ⟨_, hrun, hended, _, _, rfl, hq _ N32_, ⟨_, rfl⟩, hW, hsame.mono (by decide) (by decide)⟩
      · refine Gl.via (fun _ k => XS.icmpNo X26.here hx rfl (hb hby at_95) rfl (flt nn).1 k) ?_
        show Gl p.tables e below T26 (mkF m 98 #[.val (.int p0), .val (.int p1), .val (.int (0 : Int32)), .val (.ref b1), .val (.ref b17), .unset] []) G
        refine Gl.via (fun _ k => XS.iconst X26.here hx rfl (hb hby at_98) k) ?_
        show Gl p.tables e below T26 (mkF m 99 #[.val (.int p0), .val (.int p1), .val (.int (0 : Int32)), .val (.ref b1), .val (.ref b17), .unset] [(.int (1 : Int32))]) G
        refine Gl.via (fun _ k => XS.goto X26.here hx rfl (pc0 := 99) (pc' := 103) rfl (hb hby at_99) (by decide) (by decide) k) ?_
        show Gl p.tables e below T26 (mkF m 103 #[.val (.int p0), .val (.int p1), .val (.int (0 : Int32)), .val (.ref b1), .val (.ref b17), .unset] [(.int (1 : Int32))]) G
        refine Gl.via (fun _ k => XS.istore X26.here hx rfl (hb hby at_103) rfl (l' := #[.val (.int p0), .val (.int p1), .val (.int (0 : Int32)), .val (.ref b1), .val (.ref b17), .val (.int (1 : Int32))]) rfl k) ?_
        show Gl p.tables e below T26 (mkF m 105 #[.val (.int p0), .val (.int p1), .val (.int (0 : Int32)), .val (.ref b1), .val (.ref b17), .val (.int (1 : Int32))] []) G
        refine Gl.via (fun _ k => XS.aload X26.here hx rfl (hb hby at_105) rfl rfl k) ?_
        show Gl p.tables e below T26 (mkF m 107 #[.val (.int p0), .val (.int p1), .val (.int (0 : Int32)), .val (.ref b1), .val (.ref b17), .val (.int (1 : Int32))] [(.ref b17)]) G
        obtain ⟨cq33, kq33, q33a, q33b, q33c⟩ := isOf hZ rfl P27
        obtain ⟨_, _, ⟨T33, L33, k33, n33⟩, -, X33, ⟨Lc33, hQ33, l33, y33, z33⟩, st33⟩ := X26.virtualBack hx (y := (⟨"com/example/kereso/kereso/Search$ResultPage", "hasPrevious", "()Z"⟩ : MethodName)) (z := (⟨"com/example/kereso/kereso/Search$ResultPage", "hasPrevious", "()Z"⟩ : MethodName)) hown (mvT hZ (hw _ (List.mem_of_getElem? (i := 118) rfl))) (mvT hZ (hw _ (List.mem_of_getElem? (i := 119) rfl))) (notFace_of_selects (args := #[]) (mvT hZ (hw _ (List.mem_of_getElem? (i := 121) rfl)))) (mvT hZ (hw _ (List.mem_of_getElem? (i := 121) rfl))) (mvT hZ (hw _ (List.mem_of_getElem? (i := 120) rfl))) (by decide) (backOf (W := 0) (hp1 l Z a0 hw [] b17 p0 T26.heap n0 Z29 P28 (own_two' nn)) hZ (hw _ (List.mem_of_getElem? (i := 122) rfl)) (hw _ (List.mem_of_getElem? (i := 107) rfl)) (by decide) (by decide)) q33a q33c (g := (mkF m 107 #[.val (.int p0), .val (.int p1), .val (.int (0 : Int32)), .val (.ref b1), .val (.ref b17), .val (.int (1 : Int32))] [(.ref b17)])) rfl (by rw [hml]; rfl) (Steps.refl _) (argsL := []) (rest := []) (lenOf pd_9 rfl) rfl (by show 2 * 0 + _ ≤ _; exact Nat.le_of_eq rfl) (hb hby at_107) (fun _ _ => ⟨rfl, rfl, (by decide : 2 + 0 ≤ _), (by decide : 6 + 0 ≤ _)⟩)
        dsimp only [Pt.U, Pt.locs, Pt.cells, Pt.slots] at X33 l33 y33 z33 st33 hQ33
        subst l33 y33 z33
        obtain ⟨rfl, N33q, eh33⟩ := hQ33
        have N33_ := Fr.app N26_ N33q
        refine Gl.via (fun _ k => st33.trans k) ?_
        show Gl p.tables e below T33 (mkF m 110 #[.val (.int p0), .val (.int p1), .val (.int (0 : Int32)), .val (.ref b1), .val (.ref b17), .val (.int (1 : Int32))] [(.int (1 : Int32))]) G
        refine Gl.via (fun _ k => XS.iload X33.here hx rfl (hb hby at_110) rfl k) ?_
        show Gl p.tables e below T33 (mkF m 112 #[.val (.int p0), .val (.int p1), .val (.int (0 : Int32)), .val (.ref b1), .val (.ref b17), .val (.int (1 : Int32))] [(.int (1 : Int32)), (.int (1 : Int32))]) G
        refine Gl.via (fun _ k => XS.icmpNo X33.here hx rfl (hb hby at_112) rfl (teq (by decide)).2 k) ?_
        show Gl p.tables e below T33 (mkF m 115 #[.val (.int p0), .val (.int p1), .val (.int (0 : Int32)), .val (.ref b1), .val (.ref b17), .val (.int (1 : Int32))] []) G
        refine Gl.via (fun _ k => XS.aload X33.here hx rfl (hb hby at_115) rfl rfl k) ?_
        show Gl p.tables e below T33 (mkF m 117 #[.val (.int p0), .val (.int p1), .val (.int (0 : Int32)), .val (.ref b1), .val (.ref b17), .val (.int (1 : Int32))] [(.ref b17)]) G
        obtain ⟨cq34, kq34, q34a, q34b, q34c⟩ := isOf hZ eh33 P27
        obtain ⟨_, _, ⟨T34, L34, k34, n34⟩, -, X34, ⟨Lc34, hQ34, l34, y34, z34⟩, st34⟩ := X33.virtualBack hx (y := (⟨"com/example/kereso/kereso/Search$ResultPage", "number", "()I"⟩ : MethodName)) (z := (⟨"com/example/kereso/kereso/Search$ResultPage", "number", "()I"⟩ : MethodName)) hown (mvT hZ (hw _ (List.mem_of_getElem? (i := 123) rfl))) (mvT hZ (hw _ (List.mem_of_getElem? (i := 124) rfl))) (notFace_of_selects (args := #[]) (mvT hZ (hw _ (List.mem_of_getElem? (i := 126) rfl)))) (mvT hZ (hw _ (List.mem_of_getElem? (i := 126) rfl))) (mvT hZ (hw _ (List.mem_of_getElem? (i := 125) rfl))) (by decide) (backOf (W := 0) (gnum l Z a0 hw [] b17 p0 T26.heap n0 Z29 P28) hZ (hw _ (List.mem_of_getElem? (i := 127) rfl)) (hw _ (List.mem_of_getElem? (i := 107) rfl)) (by decide) (by decide)) q34a q34c (g := (mkF m 117 #[.val (.int p0), .val (.int p1), .val (.int (0 : Int32)), .val (.ref b1), .val (.ref b17), .val (.int (1 : Int32))] [(.ref b17)])) rfl (by rw [hml]; rfl) (Steps.refl _) (argsL := []) (rest := []) (lenOf pd_10 rfl) rfl (by show 2 * 0 + _ ≤ _; exact Nat.le_of_eq rfl) (hb hby at_117) (fun _ _ => ⟨rfl, eh33, (by decide : 2 + 0 ≤ _), (by decide : 6 + 0 ≤ _)⟩)
        dsimp only [Pt.U, Pt.locs, Pt.cells, Pt.slots] at X34 l34 y34 z34 st34 hQ34
        subst l34 y34 z34
        obtain ⟨rfl, N34q, eh34⟩ := hQ34
        have N34_ := Fr.app N33_ N34q
        refine Gl.via (fun _ k => st34.trans k) ?_
        show Gl p.tables e below T34 (mkF m 120 #[.val (.int p0), .val (.int p1), .val (.int (0 : Int32)), .val (.ref b1), .val (.ref b17), .val (.int (1 : Int32))] [(.int p0)]) G
        refine Gl.via (fun _ k => XS.iloadN X34.here hx rfl (hb hby at_120) rfl k) ?_
        show Gl p.tables e below T34 (mkF m 121 #[.val (.int p0), .val (.int p1), .val (.int (0 : Int32)), .val (.ref b1), .val (.ref b17), .val (.int (1 : Int32))] [(.int p0), (.int p0)]) G
        refine Gl.via (fun _ k => XS.icmpNo X34.here hx rfl (hb hby at_121) rfl (teq rfl).2 k) ?_
        show Gl p.tables e below T34 (mkF m 124 #[.val (.int p0), .val (.int p1), .val (.int (0 : Int32)), .val (.ref b1), .val (.ref b17), .val (.int (1 : Int32))] []) G
        refine Gl.via (fun _ k => XS.iconst X34.here hx rfl (hb hby at_124) k) ?_
        show Gl p.tables e below T34 (mkF m 125 #[.val (.int p0), .val (.int p1), .val (.int (0 : Int32)), .val (.ref b1), .val (.ref b17), .val (.int (1 : Int32))] [(.int (1 : Int32))]) G
        refine Gl.via (fun _ k => XS.goto X34.here hx rfl (pc0 := 125) (pc' := 129) rfl (hb hby at_125) (by decide) (by decide) k) ?_
        show Gl p.tables e below T34 (mkF m 129 #[.val (.int p0), .val (.int p1), .val (.int (0 : Int32)), .val (.ref b1), .val (.ref b17), .val (.int (1 : Int32))] [(.int (1 : Int32))]) G
        obtain ⟨fs, hr, hrun, hended, hW, hsame⟩ := X34.leave (v := some (.int (1 : Int32))) (fun h => by rw [Bd.returns] at h; cases h)
        have hq : ∀ L, Fr n0 L → Q_rm0 Z p0 p1 cs da dk h0 n0 (some (.int (1 : Int32))) T34.heap L := by
          intro L hN
          rw [eh34]
          exact ⟨rfl, hN⟩
        rw [hG]
        exact Gl.fin (retN X34 hx (t := .boolean) Bd.returns (by simp) (hb hby at_129) hr) ⟨_, hrun, hended, _, _, rfl, hq _ N34_, ⟨_, rfl⟩, hW, hsame.mono (by decide) (by decide)⟩
    · refine Gl.via (fun _ k => XS.ifNo X9.here hx rfl (hb hby at_23) rfl ((if0 _ _).trans (feq f2).1) k) ?_
      show Gl p.tables e below T9 (mkF m 26 #[.val (.int p0), .val (.int p1), .val (.int (0 : Int32)), .val (.ref b1), .unset, .unset] []) G
      refine Gl.via (fun _ k => XS.iloadN X9.here hx rfl (hb hby at_26) rfl k) ?_
      show Gl p.tables e below T9 (mkF m 27 #[.val (.int p0), .val (.int p1), .val (.int (0 : Int32)), .val (.ref b1), .unset, .unset] [(.int p1)]) G
      refine Gl.via (fun _ k => XS.bipush X9.here hx rfl (hb hby at_27) k) ?_
      show Gl p.tables e below T9 (mkF m 29 #[.val (.int p0), .val (.int p1), .val (.int (0 : Int32)), .val (.ref b1), .unset, .unset] [(.int (10 : Int32)), (.int p1)]) G
      refine Gl.via (fun _ k => XS.iushr X9.here hx rfl (hb hby at_29) rfl k) ?_
      show Gl p.tables e below T9 (mkF m 30 #[.val (.int p0), .val (.int p1), .val (.int (0 : Int32)), .val (.ref b1), .unset, .unset] [(.int ((p1.toUInt32 >>> ((10 : Int32) &&& 31).toUInt32).toInt32))]) G
      refine Gl.via (fun _ k => XS.sipush X9.here hx rfl (hb hby at_30) k) ?_
      show Gl p.tables e below T9 (mkF m 33 #[.val (.int p0), .val (.int p1), .val (.int (0 : Int32)), .val (.ref b1), .unset, .unset] [(.int (255 : Int32)), (.int ((p1.toUInt32 >>> ((10 : Int32) &&& 31).toUInt32).toInt32))]) G
      refine Gl.via (fun _ k => XS.iand X9.here hx rfl (hb hby at_33) rfl k) ?_
      show Gl p.tables e below T9 (mkF m 34 #[.val (.int p0), .val (.int p1), .val (.int (0 : Int32)), .val (.ref b1), .unset, .unset] [(.int (((p1.toUInt32 >>> ((10 : Int32) &&& 31).toUInt32).toInt32) &&& (255 : Int32)))]) G
      refine Gl.via (fun _ k => XS.i2c X9.here hx rfl (hb hby at_34) rfl k) ?_
      show Gl p.tables e below T9 (mkF m 35 #[.val (.int p0), .val (.int p1), .val (.int (0 : Int32)), .val (.ref b1), .unset, .unset] [(.int ((((p1.toUInt32 >>> ((10 : Int32) &&& 31).toUInt32).toInt32) &&& (255 : Int32)).toUInt32.toUInt16.toUInt32.toInt32))]) G
      refine Gl.via (fun _ k => XS.istore X9.here hx rfl (hb hby at_35) rfl (l' := #[.val (.int p0), .val (.int p1), .val (.int (0 : Int32)), .val (.ref b1), .val (.int ((((p1.toUInt32 >>> ((10 : Int32) &&& 31).toUInt32).toInt32) &&& (255 : Int32)).toUInt32.toUInt16.toUInt32.toInt32)), .unset]) rfl k) ?_
      show Gl p.tables e below T9 (mkF m 37 #[.val (.int p0), .val (.int p1), .val (.int (0 : Int32)), .val (.ref b1), .val (.int ((((p1.toUInt32 >>> ((10 : Int32) &&& 31).toUInt32).toInt32) &&& (255 : Int32)).toUInt32.toUInt16.toUInt32.toInt32)), .unset] []) G
      refine Gl.via (fun _ k => XS.iloadN X9.here hx rfl (hb hby at_37) rfl k) ?_
      show Gl p.tables e below T9 (mkF m 38 #[.val (.int p0), .val (.int p1), .val (.int (0 : Int32)), .val (.ref b1), .val (.int ((((p1.toUInt32 >>> ((10 : Int32) &&& 31).toUInt32).toInt32) &&& (255 : Int32)).toUInt32.toUInt16.toUInt32.toInt32)), .unset] [(.int p1)]) G
      refine Gl.via (fun _ k => XS.bipush X9.here hx rfl (hb hby at_38) k) ?_
      show Gl p.tables e below T9 (mkF m 40 #[.val (.int p0), .val (.int p1), .val (.int (0 : Int32)), .val (.ref b1), .val (.int ((((p1.toUInt32 >>> ((10 : Int32) &&& 31).toUInt32).toInt32) &&& (255 : Int32)).toUInt32.toUInt16.toUInt32.toInt32)), .unset] [(.int (18 : Int32)), (.int p1)]) G
      refine Gl.via (fun _ k => XS.iushr X9.here hx rfl (hb hby at_40) rfl k) ?_
      show Gl p.tables e below T9 (mkF m 41 #[.val (.int p0), .val (.int p1), .val (.int (0 : Int32)), .val (.ref b1), .val (.int ((((p1.toUInt32 >>> ((10 : Int32) &&& 31).toUInt32).toInt32) &&& (255 : Int32)).toUInt32.toUInt16.toUInt32.toInt32)), .unset] [(.int ((p1.toUInt32 >>> ((18 : Int32) &&& 31).toUInt32).toInt32))]) G
      refine Gl.via (fun _ k => XS.sipush X9.here hx rfl (hb hby at_41) k) ?_
      show Gl p.tables e below T9 (mkF m 44 #[.val (.int p0), .val (.int p1), .val (.int (0 : Int32)), .val (.ref b1), .val (.int ((((p1.toUInt32 >>> ((10 : Int32) &&& 31).toUInt32).toInt32) &&& (255 : Int32)).toUInt32.toUInt16.toUInt32.toInt32)), .unset] [(.int (255 : Int32)), (.int ((p1.toUInt32 >>> ((18 : Int32) &&& 31).toUInt32).toInt32))]) G
      refine Gl.via (fun _ k => XS.iand X9.here hx rfl (hb hby at_44) rfl k) ?_
      show Gl p.tables e below T9 (mkF m 45 #[.val (.int p0), .val (.int p1), .val (.int (0 : Int32)), .val (.ref b1), .val (.int ((((p1.toUInt32 >>> ((10 : Int32) &&& 31).toUInt32).toInt32) &&& (255 : Int32)).toUInt32.toUInt16.toUInt32.toInt32)), .unset] [(.int (((p1.toUInt32 >>> ((18 : Int32) &&& 31).toUInt32).toInt32) &&& (255 : Int32)))]) G
      refine Gl.via (fun _ k => XS.i2c X9.here hx rfl (hb hby at_45) rfl k) ?_
      show Gl p.tables e below T9 (mkF m 46 #[.val (.int p0), .val (.int p1), .val (.int (0 : Int32)), .val (.ref b1), .val (.int ((((p1.toUInt32 >>> ((10 : Int32) &&& 31).toUInt32).toInt32) &&& (255 : Int32)).toUInt32.toUInt16.toUInt32.toInt32)), .unset] [(.int ((((p1.toUInt32 >>> ((18 : Int32) &&& 31).toUInt32).toInt32) &&& (255 : Int32)).toUInt32.toUInt16.toUInt32.toInt32))]) G
      refine Gl.via (fun _ k => XS.istore X9.here hx rfl (hb hby at_46) rfl (l' := #[.val (.int p0), .val (.int p1), .val (.int (0 : Int32)), .val (.ref b1), .val (.int ((((p1.toUInt32 >>> ((10 : Int32) &&& 31).toUInt32).toInt32) &&& (255 : Int32)).toUInt32.toUInt16.toUInt32.toInt32)), .val (.int ((((p1.toUInt32 >>> ((18 : Int32) &&& 31).toUInt32).toInt32) &&& (255 : Int32)).toUInt32.toUInt16.toUInt32.toInt32))]) rfl k) ?_
      show Gl p.tables e below T9 (mkF m 48 #[.val (.int p0), .val (.int p1), .val (.int (0 : Int32)), .val (.ref b1), .val (.int ((((p1.toUInt32 >>> ((10 : Int32) &&& 31).toUInt32).toInt32) &&& (255 : Int32)).toUInt32.toUInt16.toUInt32.toInt32)), .val (.int ((((p1.toUInt32 >>> ((18 : Int32) &&& 31).toUInt32).toInt32) &&& (255 : Int32)).toUInt32.toUInt16.toUInt32.toInt32))] []) G
      refine Gl.via (fun _ k => XS.aloadN X9.here hx rfl (hb hby at_48) rfl rfl k) ?_
      show Gl p.tables e below T9 (mkF m 49 #[.val (.int p0), .val (.int p1), .val (.int (0 : Int32)), .val (.ref b1), .val (.int ((((p1.toUInt32 >>> ((10 : Int32) &&& 31).toUInt32).toInt32) &&& (255 : Int32)).toUInt32.toUInt16.toUInt32.toInt32)), .val (.int ((((p1.toUInt32 >>> ((18 : Int32) &&& 31).toUInt32).toInt32) &&& (255 : Int32)).toUInt32.toUInt16.toUInt32.toInt32))] [(.ref b1)]) G
      obtain ⟨T35, h35, X35, e35, E35, A35, D35, -, st35⟩ := newO X9 hx hZ hown (hw _ (List.mem_of_getElem? (i := 26) rfl)) (hw _ (List.mem_of_getElem? (i := 27) rfl)) (hw _ (List.mem_of_getElem? (i := 28) rfl)) rfl (g := (mkF m 49 #[.val (.int p0), .val (.int p1), .val (.int (0 : Int32)), .val (.ref b1), .val (.int ((((p1.toUInt32 >>> ((10 : Int32) &&& 31).toUInt32).toInt32) &&& (255 : Int32)).toUInt32.toUInt16.toUInt32.toInt32)), .val (.int ((((p1.toUInt32 >>> ((18 : Int32) &&& 31).toUInt32).toInt32) &&& (255 : Int32)).toUInt32.toUInt16.toUInt32.toInt32))] [(.ref b1)])) rfl (hb hby at_49) (by decide) (by decide)
      obtain ⟨b35, g35⟩ : ∃ z, z = T9.heap.size := ⟨_, rfl⟩
      rw [← g35] at A35 D35 st35
      have ne36 : b1 ≠ b35 := Nat.ne_of_lt (Nat.lt_of_lt_of_le P11.lt (Nat.le_of_eq g35.symm))
      have ge37 : n0 ≤ b35 := Nat.le_trans Z15 (Nat.le_of_eq g35.symm)
      have gz38 : h0.size ≤ b35 := Nat.le_trans Y16 (Nat.le_of_eq g35.symm)
      refine Gl.via st35 ?_
      have Z39 : n0 ≤ h35.size := Nat.le_trans Z15 E35.1
      have Y40 : h0.size ≤ h35.size := Nat.le_trans Y16 E35.1
      have F41 : Fld Z h35 b35 "com/example/kereso/kereso/Search$Hit" "rank" "I" (.int (0 : Int32)) := D35 (Or.inr (hw _ (List.mem_of_getElem? (i := 63) rfl))) (ty := .int) (by decide)
      have F42 : Fld Z h35 b35 "com/example/kereso/kereso/Search$Hit" "score" "D" (.double (0 : UInt64)) := D35 (Or.inr (hw _ (List.mem_of_getElem? (i := 65) rfl))) (ty := .double) (by decide)
      have F43 : Fld Z h35 b35 "com/example/kereso/kereso/Search$Hit" "url" "Ljava/lang/String;" .null := D35 (Or.inr (hw _ (List.mem_of_getElem? (i := 67) rfl))) (ty := (.object "java/lang/String")) (by decide)
      have F44 : Fld Z h35 b35 "com/example/kereso/kereso/Search$Hit" "title" "Ljava/lang/String;" .null := D35 (Or.inr (hw _ (List.mem_of_getElem? (i := 69) rfl))) (ty := (.object "java/lang/String")) (by decide)
      show Gl p.tables e below T35 (mkF m 52 #[.val (.int p0), .val (.int p1), .val (.int (0 : Int32)), .val (.ref b1), .val (.int ((((p1.toUInt32 >>> ((10 : Int32) &&& 31).toUInt32).toInt32) &&& (255 : Int32)).toUInt32.toUInt16.toUInt32.toInt32)), .val (.int ((((p1.toUInt32 >>> ((18 : Int32) &&& 31).toUInt32).toInt32) &&& (255 : Int32)).toUInt32.toUInt16.toUInt32.toInt32))] [(.ref b35), (.ref b1)]) G
      refine Gl.via (fun _ k => XS.dup X35.here hx rfl (hb hby at_52) rfl rfl k) ?_
      show Gl p.tables e below T35 (mkF m 53 #[.val (.int p0), .val (.int p1), .val (.int (0 : Int32)), .val (.ref b1), .val (.int ((((p1.toUInt32 >>> ((10 : Int32) &&& 31).toUInt32).toInt32) &&& (255 : Int32)).toUInt32.toUInt16.toUInt32.toInt32)), .val (.int ((((p1.toUInt32 >>> ((18 : Int32) &&& 31).toUInt32).toInt32) &&& (255 : Int32)).toUInt32.toUInt16.toUInt32.toInt32))] [(.ref b35), (.ref b35), (.ref b1)]) G
      refine Gl.via (fun _ k => XS.iloadN X35.here hx rfl (hb hby at_53) rfl k) ?_
      show Gl p.tables e below T35 (mkF m 54 #[.val (.int p0), .val (.int p1), .val (.int (0 : Int32)), .val (.ref b1), .val (.int ((((p1.toUInt32 >>> ((10 : Int32) &&& 31).toUInt32).toInt32) &&& (255 : Int32)).toUInt32.toUInt16.toUInt32.toInt32)), .val (.int ((((p1.toUInt32 >>> ((18 : Int32) &&& 31).toUInt32).toInt32) &&& (255 : Int32)).toUInt32.toUInt16.toUInt32.toInt32))] [(.int p0), (.ref b35), (.ref b35), (.ref b1)]) G
      refine Gl.via (fun _ k => XS.iloadN X35.here hx rfl (hb hby at_54) rfl k) ?_
      show Gl p.tables e below T35 (mkF m 55 #[.val (.int p0), .val (.int p1), .val (.int (0 : Int32)), .val (.ref b1), .val (.int ((((p1.toUInt32 >>> ((10 : Int32) &&& 31).toUInt32).toInt32) &&& (255 : Int32)).toUInt32.toUInt16.toUInt32.toInt32)), .val (.int ((((p1.toUInt32 >>> ((18 : Int32) &&& 31).toUInt32).toInt32) &&& (255 : Int32)).toUInt32.toUInt16.toUInt32.toInt32))] [(.int p1), (.int p0), (.ref b35), (.ref b35), (.ref b1)]) G
      refine Gl.via (fun _ k => XS.iconst X35.here hx rfl (hb hby at_55) k) ?_
      show Gl p.tables e below T35 (mkF m 56 #[.val (.int p0), .val (.int p1), .val (.int (0 : Int32)), .val (.ref b1), .val (.int ((((p1.toUInt32 >>> ((10 : Int32) &&& 31).toUInt32).toInt32) &&& (255 : Int32)).toUInt32.toUInt16.toUInt32.toInt32)), .val (.int ((((p1.toUInt32 >>> ((18 : Int32) &&& 31).toUInt32).toInt32) &&& (255 : Int32)).toUInt32.toUInt16.toUInt32.toInt32))] [(.int (2 : Int32)), (.int p1), (.int p0), (.ref b35), (.ref b35), (.ref b1)]) G
      refine Gl.via (fun _ k => XS.iushr X35.here hx rfl (hb hby at_56) rfl k) ?_
      show Gl p.tables e below T35 (mkF m 57 #[.val (.int p0), .val (.int p1), .val (.int (0 : Int32)), .val (.ref b1), .val (.int ((((p1.toUInt32 >>> ((10 : Int32) &&& 31).toUInt32).toInt32) &&& (255 : Int32)).toUInt32.toUInt16.toUInt32.toInt32)), .val (.int ((((p1.toUInt32 >>> ((18 : Int32) &&& 31).toUInt32).toInt32) &&& (255 : Int32)).toUInt32.toUInt16.toUInt32.toInt32))] [(.int ((p1.toUInt32 >>> ((2 : Int32) &&& 31).toUInt32).toInt32)), (.int p0), (.ref b35), (.ref b35), (.ref b1)]) G
      refine Gl.via (fun _ k => XS.sipush X35.here hx rfl (hb hby at_57) k) ?_
      show Gl p.tables e below T35 (mkF m 60 #[.val (.int p0), .val (.int p1), .val (.int (0 : Int32)), .val (.ref b1), .val (.int ((((p1.toUInt32 >>> ((10 : Int32) &&& 31).toUInt32).toInt32) &&& (255 : Int32)).toUInt32.toUInt16.toUInt32.toInt32)), .val (.int ((((p1.toUInt32 >>> ((18 : Int32) &&& 31).toUInt32).toInt32) &&& (255 : Int32)).toUInt32.toUInt16.toUInt32.toInt32))] [(.int (255 : Int32)), (.int ((p1.toUInt32 >>> ((2 : Int32) &&& 31).toUInt32).toInt32)), (.int p0), (.ref b35), (.ref b35), (.ref b1)]) G
      refine Gl.via (fun _ k => XS.iand X35.here hx rfl (hb hby at_60) rfl k) ?_
      show Gl p.tables e below T35 (mkF m 61 #[.val (.int p0), .val (.int p1), .val (.int (0 : Int32)), .val (.ref b1), .val (.int ((((p1.toUInt32 >>> ((10 : Int32) &&& 31).toUInt32).toInt32) &&& (255 : Int32)).toUInt32.toUInt16.toUInt32.toInt32)), .val (.int ((((p1.toUInt32 >>> ((18 : Int32) &&& 31).toUInt32).toInt32) &&& (255 : Int32)).toUInt32.toUInt16.toUInt32.toInt32))] [(.int (((p1.toUInt32 >>> ((2 : Int32) &&& 31).toUInt32).toInt32) &&& (255 : Int32))), (.int p0), (.ref b35), (.ref b35), (.ref b1)]) G
      refine Gl.via (fun _ k => XS.i2dS X35.here hx rfl (hb hby at_61) rfl rfl k) ?_
      show Gl p.tables e below T35 (mkF m 62 #[.val (.int p0), .val (.int p1), .val (.int (0 : Int32)), .val (.ref b1), .val (.int ((((p1.toUInt32 >>> ((10 : Int32) &&& 31).toUInt32).toInt32) &&& (255 : Int32)).toUInt32.toUInt16.toUInt32.toInt32)), .val (.int ((((p1.toUInt32 >>> ((18 : Int32) &&& 31).toUInt32).toInt32) &&& (255 : Int32)).toUInt32.toUInt16.toUInt32.toInt32))] [(.double (FP.i2d (((p1.toUInt32 >>> ((2 : Int32) &&& 31).toUInt32).toInt32) &&& (255 : Int32)))), (.int p0), (.ref b35), (.ref b35), (.ref b1)]) G
      refine Gl.via (fun _ k => XS.iload X35.here hx rfl (hb hby at_62) rfl k) ?_
      show Gl p.tables e below T35 (mkF m 64 #[.val (.int p0), .val (.int p1), .val (.int (0 : Int32)), .val (.ref b1), .val (.int ((((p1.toUInt32 >>> ((10 : Int32) &&& 31).toUInt32).toInt32) &&& (255 : Int32)).toUInt32.toUInt16.toUInt32.toInt32)), .val (.int ((((p1.toUInt32 >>> ((18 : Int32) &&& 31).toUInt32).toInt32) &&& (255 : Int32)).toUInt32.toUInt16.toUInt32.toInt32))] [(.int ((((p1.toUInt32 >>> ((10 : Int32) &&& 31).toUInt32).toInt32) &&& (255 : Int32)).toUInt32.toUInt16.toUInt32.toInt32)), (.double (FP.i2d (((p1.toUInt32 >>> ((2 : Int32) &&& 31).toUInt32).toInt32) &&& (255 : Int32)))), (.int p0), (.ref b35), (.ref b35), (.ref b1)]) G
      have G46 : Old Z n0 h35 := ((G10.keep K9 (allS ge2 all0)).ext E35)
      obtain ⟨_, _, ⟨T45, L45, k45, n45⟩, -, X45, ⟨Lc45, hQ45, l45, y45, z45⟩, st45⟩ := Jvm.LawKit.callS X35 hx (y := (⟨"java/lang/String", "valueOf", "(C)Ljava/lang/String;"⟩ : MethodName)) hown (mvT hZ (hw _ (List.mem_of_getElem? (i := 29) rfl))) (mvT hZ (hw _ (List.mem_of_getElem? (i := 30) rfl))) (mvT hZ (hw _ (List.mem_of_getElem? (i := 31) rfl))) (mvT hZ (hw _ (List.mem_of_getElem? (i := 32) rfl))) (by decide) (backOf (W := 6) (vof l Z a0 hw [] ((((p1.toUInt32 >>> ((10 : Int32) &&& 31).toUInt32).toInt32) &&& (255 : Int32)).toUInt32.toUInt16.toUInt32.toInt32) cs h35 n0 Z39 F0_java_lang_String G46 hcs (own_chr _)) hZ (hw _ (List.mem_of_getElem? (i := 32) rfl)) (hw _ (List.mem_of_getElem? (i := 31) rfl)) (by decide) (by decide)) (g := (mkF m 64 #[.val (.int p0), .val (.int p1), .val (.int (0 : Int32)), .val (.ref b1), .val (.int ((((p1.toUInt32 >>> ((10 : Int32) &&& 31).toUInt32).toInt32) &&& (255 : Int32)).toUInt32.toUInt16.toUInt32.toInt32)), .val (.int ((((p1.toUInt32 >>> ((18 : Int32) &&& 31).toUInt32).toInt32) &&& (255 : Int32)).toUInt32.toUInt16.toUInt32.toInt32))] [(.int ((((p1.toUInt32 >>> ((10 : Int32) &&& 31).toUInt32).toInt32) &&& (255 : Int32)).toUInt32.toUInt16.toUInt32.toInt32)), (.double (FP.i2d (((p1.toUInt32 >>> ((2 : Int32) &&& 31).toUInt32).toInt32) &&& (255 : Int32)))), (.int p0), (.ref b35), (.ref b35), (.ref b1)])) rfl (by rw [hml]; rfl) (argsL := [(.int ((((p1.toUInt32 >>> ((10 : Int32) &&& 31).toUInt32).toInt32) &&& (255 : Int32)).toUInt32.toUInt16.toUInt32.toInt32))]) (rest := [(.double (FP.i2d (((p1.toUInt32 >>> ((2 : Int32) &&& 31).toUInt32).toInt32) &&& (255 : Int32)))), (.int p0), (.ref b35), (.ref b35), (.ref b1)]) (lenOf pd_11 rfl) rfl (by show 2 * 0 + _ ≤ _; exact Nat.le_of_eq rfl) (hb hby at_64) (fun _ _ => ⟨rfl, e35, (by decide : 2 + 2 ≤ _), (by decide : 7 + 5 ≤ _)⟩)
      dsimp only [Pt.U, Pt.locs, Pt.cells, Pt.slots] at X45 l45 y45 z45 st45 hQ45
      subst l45 y45 z45
      obtain ⟨b_45, rfl, N45q, K45, P47, R48⟩ := hQ45
      have N45_ := Fr.app N9_ N45q
      refine Gl.via (fun _ k => st45 _ k) ?_
      have G49 : Exa Z h35 b1 "java/util/ArrayList" := (P11.ext E35)
      have ne50 : b1 ≠ b_45 := Nat.ne_of_lt (Nat.lt_of_lt_of_le G49.lt R48)
      have ne51 : b35 ≠ b_45 := Nat.ne_of_lt (Nat.lt_of_lt_of_le A35.lt R48)
      have ge52 : n0 ≤ b_45 := Nat.le_trans Z39 R48
      have gz53 : h0.size ≤ b_45 := Nat.le_trans Y40 R48
      have Z54 : n0 ≤ T45.heap.size := Nat.le_trans Z39 K45.1
      have Y55 : h0.size ≤ T45.heap.size := Nat.le_trans Y40 K45.1
      show Gl p.tables e below T45 (mkF m 67 #[.val (.int p0), .val (.int p1), .val (.int (0 : Int32)), .val (.ref b1), .val (.int ((((p1.toUInt32 >>> ((10 : Int32) &&& 31).toUInt32).toInt32) &&& (255 : Int32)).toUInt32.toUInt16.toUInt32.toInt32)), .val (.int ((((p1.toUInt32 >>> ((18 : Int32) &&& 31).toUInt32).toInt32) &&& (255 : Int32)).toUInt32.toUInt16.toUInt32.toInt32))] [(.ref b_45), (.double (FP.i2d (((p1.toUInt32 >>> ((2 : Int32) &&& 31).toUInt32).toInt32) &&& (255 : Int32)))), (.int p0), (.ref b35), (.ref b35), (.ref b1)]) G
      refine Gl.via (fun _ k => XS.iload X45.here hx rfl (hb hby at_67) rfl k) ?_
      show Gl p.tables e below T45 (mkF m 69 #[.val (.int p0), .val (.int p1), .val (.int (0 : Int32)), .val (.ref b1), .val (.int ((((p1.toUInt32 >>> ((10 : Int32) &&& 31).toUInt32).toInt32) &&& (255 : Int32)).toUInt32.toUInt16.toUInt32.toInt32)), .val (.int ((((p1.toUInt32 >>> ((18 : Int32) &&& 31).toUInt32).toInt32) &&& (255 : Int32)).toUInt32.toUInt16.toUInt32.toInt32))] [(.int ((((p1.toUInt32 >>> ((18 : Int32) &&& 31).toUInt32).toInt32) &&& (255 : Int32)).toUInt32.toUInt16.toUInt32.toInt32)), (.ref b_45), (.double (FP.i2d (((p1.toUInt32 >>> ((2 : Int32) &&& 31).toUInt32).toInt32) &&& (255 : Int32)))), (.int p0), (.ref b35), (.ref b35), (.ref b1)]) G
      have G57 : Old Z n0 T45.heap := (G46.keep K45 all0)
      obtain ⟨_, _, ⟨T56, L56, k56, n56⟩, -, X56, ⟨Lc56, hQ56, l56, y56, z56⟩, st56⟩ := Jvm.LawKit.callS X45 hx (y := (⟨"java/lang/String", "valueOf", "(C)Ljava/lang/String;"⟩ : MethodName)) hown (mvT hZ (hw _ (List.mem_of_getElem? (i := 29) rfl))) (mvT hZ (hw _ (List.mem_of_getElem? (i := 30) rfl))) (mvT hZ (hw _ (List.mem_of_getElem? (i := 31) rfl))) (mvT hZ (hw _ (List.mem_of_getElem? (i := 32) rfl))) (by decide) (backOf (W := 7) (vof l Z a0 hw [] ((((p1.toUInt32 >>> ((18 : Int32) &&& 31).toUInt32).toInt32) &&& (255 : Int32)).toUInt32.toUInt16.toUInt32.toInt32) cs T45.heap n0 Z54 F0_java_lang_String G57 hcs (own_chr _)) hZ (hw _ (List.mem_of_getElem? (i := 32) rfl)) (hw _ (List.mem_of_getElem? (i := 31) rfl)) (by decide) (by decide)) (g := (mkF m 69 #[.val (.int p0), .val (.int p1), .val (.int (0 : Int32)), .val (.ref b1), .val (.int ((((p1.toUInt32 >>> ((10 : Int32) &&& 31).toUInt32).toInt32) &&& (255 : Int32)).toUInt32.toUInt16.toUInt32.toInt32)), .val (.int ((((p1.toUInt32 >>> ((18 : Int32) &&& 31).toUInt32).toInt32) &&& (255 : Int32)).toUInt32.toUInt16.toUInt32.toInt32))] [(.int ((((p1.toUInt32 >>> ((18 : Int32) &&& 31).toUInt32).toInt32) &&& (255 : Int32)).toUInt32.toUInt16.toUInt32.toInt32)), (.ref b_45), (.double (FP.i2d (((p1.toUInt32 >>> ((2 : Int32) &&& 31).toUInt32).toInt32) &&& (255 : Int32)))), (.int p0), (.ref b35), (.ref b35), (.ref b1)])) rfl (by rw [hml]; rfl) (argsL := [(.int ((((p1.toUInt32 >>> ((18 : Int32) &&& 31).toUInt32).toInt32) &&& (255 : Int32)).toUInt32.toUInt16.toUInt32.toInt32))]) (rest := [(.ref b_45), (.double (FP.i2d (((p1.toUInt32 >>> ((2 : Int32) &&& 31).toUInt32).toInt32) &&& (255 : Int32)))), (.int p0), (.ref b35), (.ref b35), (.ref b1)]) (lenOf pd_11 rfl) rfl (by show 2 * 0 + _ ≤ _; exact Nat.le_of_eq rfl) (hb hby at_69) (fun _ _ => ⟨rfl, rfl, (by decide : 4 + 2 ≤ _), (by decide : 12 + 5 ≤ _)⟩)
      dsimp only [Pt.U, Pt.locs, Pt.cells, Pt.slots] at X56 l56 y56 z56 st56 hQ56
      subst l56 y56 z56
      obtain ⟨b_56, rfl, N56q, K56, P58, R59⟩ := hQ56
      have N56_ := Fr.app N45_ N56q
      refine Gl.via (fun _ k => st56 _ k) ?_
      have G60 : Exa Z T45.heap b1 "java/util/ArrayList" := (G49.keep K45)
      have ne61 : b1 ≠ b_56 := Nat.ne_of_lt (Nat.lt_of_lt_of_le G60.lt R59)
      have G62 : Exa Z T45.heap b35 "com/example/kereso/kereso/Search$Hit" := (A35.keep K45)
      have ne63 : b35 ≠ b_56 := Nat.ne_of_lt (Nat.lt_of_lt_of_le G62.lt R59)
      have ne64 : b_45 ≠ b_56 := Nat.ne_of_lt (Nat.lt_of_lt_of_le P47.lt R59)
      have ge65 : n0 ≤ b_56 := Nat.le_trans Z54 R59
      have gz66 : h0.size ≤ b_56 := Nat.le_trans Y55 R59
      have Z67 : n0 ≤ T56.heap.size := Nat.le_trans Z54 K56.1
      have Y68 : h0.size ≤ T56.heap.size := Nat.le_trans Y55 K56.1
      show Gl p.tables e below T56 (mkF m 72 #[.val (.int p0), .val (.int p1), .val (.int (0 : Int32)), .val (.ref b1), .val (.int ((((p1.toUInt32 >>> ((10 : Int32) &&& 31).toUInt32).toInt32) &&& (255 : Int32)).toUInt32.toUInt16.toUInt32.toInt32)), .val (.int ((((p1.toUInt32 >>> ((18 : Int32) &&& 31).toUInt32).toInt32) &&& (255 : Int32)).toUInt32.toUInt16.toUInt32.toInt32))] [(.ref b_56), (.ref b_45), (.double (FP.i2d (((p1.toUInt32 >>> ((2 : Int32) &&& 31).toUInt32).toInt32) &&& (255 : Int32)))), (.int p0), (.ref b35), (.ref b35), (.ref b1)]) G
      have G70 : Exa Z T56.heap b35 "com/example/kereso/kereso/Search$Hit" := (G62.keep K56)
      have G71 : Fld Z T56.heap b35 "com/example/kereso/kereso/Search$Hit" "rank" "I" (.int (0 : Int32)) := ((F41.keep K45 nin0).keep K56 nin0)
      have G72 : Fld Z T56.heap b35 "com/example/kereso/kereso/Search$Hit" "score" "D" (.double (0 : UInt64)) := ((F42.keep K45 nin0).keep K56 nin0)
      have G73 : Fld Z T56.heap b35 "com/example/kereso/kereso/Search$Hit" "url" "Ljava/lang/String;" .null := ((F43.keep K45 nin0).keep K56 nin0)
      have G74 : Fld Z T56.heap b35 "com/example/kereso/kereso/Search$Hit" "title" "Ljava/lang/String;" .null := ((F44.keep K45 nin0).keep K56 nin0)
      obtain ⟨_, _, ⟨T69, L69, k69, n69⟩, -, X69, ⟨Lc69, hQ69, l69, y69, z69⟩, st69⟩ := X56.specialBack hx (y := (⟨"com/example/kereso/kereso/Search$Hit", "<init>", "(IDLjava/lang/String;Ljava/lang/String;)V"⟩ : MethodName)) rfl hown (mvT hZ (hw _ (List.mem_of_getElem? (i := 53) rfl))) (mvT hZ (hw _ (List.mem_of_getElem? (i := 54) rfl))) (mvT hZ (hw _ (List.mem_of_getElem? (i := 55) rfl))) (by decide) (backOf (W := 2) (h_init l Z a0 hw [] b35 p0 (FP.i2d (((p1.toUInt32 >>> ((2 : Int32) &&& 31).toUInt32).toInt32) &&& (255 : Int32))) b_45 b_56 (.int (0 : Int32)) (.double (0 : UInt64)) .null .null T56.heap n0 Z67 G70 G71 G72 G73 G74 ge37) hZ (hw _ (List.mem_of_getElem? (i := 55) rfl)) (hw _ (List.mem_of_getElem? (i := 28) rfl)) (by decide) (by decide)) (g := (mkF m 72 #[.val (.int p0), .val (.int p1), .val (.int (0 : Int32)), .val (.ref b1), .val (.int ((((p1.toUInt32 >>> ((10 : Int32) &&& 31).toUInt32).toInt32) &&& (255 : Int32)).toUInt32.toUInt16.toUInt32.toInt32)), .val (.int ((((p1.toUInt32 >>> ((18 : Int32) &&& 31).toUInt32).toInt32) &&& (255 : Int32)).toUInt32.toUInt16.toUInt32.toInt32))] [(.ref b_56), (.ref b_45), (.double (FP.i2d (((p1.toUInt32 >>> ((2 : Int32) &&& 31).toUInt32).toInt32) &&& (255 : Int32)))), (.int p0), (.ref b35), (.ref b35), (.ref b1)])) rfl (by rw [hml]; rfl) (Steps.refl _) (a := b35) (argsL := [(.int p0), (.double (FP.i2d (((p1.toUInt32 >>> ((2 : Int32) &&& 31).toUInt32).toInt32) &&& (255 : Int32)))), (.ref b_45), (.ref b_56)]) (rest := [(.ref b35), (.ref b1)]) (lenOf pd_12 rfl) rfl (by show 2 * 0 + _ ≤ _; exact Nat.le_of_eq rfl) (hb hby at_72) (fun _ _ => ⟨rfl, rfl, (by decide : 6 + 0 ≤ _), (by decide : 17 + 0 ≤ _)⟩)
      dsimp only [Pt.U, Pt.locs, Pt.cells, Pt.slots] at X69 l69 y69 z69 st69 hQ69
      subst l69 y69 z69
      obtain ⟨rfl, N69q, K69, P75⟩ := hQ69
      have N69_ := Fr.app N56_ N69q
      refine Gl.via (fun _ k => st69.trans k) ?_
      have Z76 : n0 ≤ T69.heap.size := Nat.le_trans Z67 K69.1
      have Y77 : h0.size ≤ T69.heap.size := Nat.le_trans Y68 K69.1
      show Gl p.tables e below T69 (mkF m 75 #[.val (.int p0), .val (.int p1), .val (.int (0 : Int32)), .val (.ref b1), .val (.int ((((p1.toUInt32 >>> ((10 : Int32) &&& 31).toUInt32).toInt32) &&& (255 : Int32)).toUInt32.toUInt16.toUInt32.toInt32)), .val (.int ((((p1.toUInt32 >>> ((18 : Int32) &&& 31).toUInt32).toInt32) &&& (255 : Int32)).toUInt32.toUInt16.toUInt32.toInt32))] [(.ref b35), (.ref b1)]) G
      have G79 : Exa Z T69.heap b1 "java/util/ArrayList" := ((G60.keep K56).keep K69)
      have G80 : Fld Z T69.heap b1 "java/util/AbstractList" "modCount" "I" (.int (0 : Int32)) := ((((P12.ext E35).keep K45 nin0).keep K56 nin0).keep K69 (ninS ne36 nin0))
      have G81 : Fld Z T69.heap b1 "java/util/ArrayList" "elementData" "[Ljava/lang/Object;" (.ref da) := ((((P13.ext E35).keep K45 nin0).keep K56 nin0).keep K69 (ninS ne36 nin0))
      have G82 : Fld Z T69.heap b1 "java/util/ArrayList" "size" "I" (.int (0 : Int32)) := ((((P14.ext E35).keep K45 nin0).keep K56 nin0).keep K69 (ninS ne36 nin0))
      have G83 : Old Z n0 T69.heap := ((G57.keep K56 all0).keep K69 (allS ge37 all0))
      obtain ⟨cq78, kq78, q78a, q78b, q78c⟩ := isOf hZ rfl G79
      obtain ⟨_, _, ⟨T78, L78, k78, n78⟩, -, X78, ⟨Lc78, hQ78, l78, y78, z78⟩, st78⟩ := X69.interfaceBack hx (xi := (⟨"java/util/List", "add", "(Ljava/lang/Object;)Z"⟩ : MethodName)) (y := (⟨"java/util/ArrayList", "add", "(Ljava/lang/Object;)Z"⟩ : MethodName)) hown (mvT hZ (hw _ (List.mem_of_getElem? (i := 70) rfl))) (mvT hZ (hw _ (List.mem_of_getElem? (i := 71) rfl))) (mvT hZ (hw _ (List.mem_of_getElem? (i := 72) rfl))) (mvT hZ (hw _ (List.mem_of_getElem? (i := 73) rfl))) (mvT hZ (hw _ (List.mem_of_getElem? (i := 74) rfl))) (mvT hZ (hw _ (List.mem_of_getElem? (i := 75) rfl))) (mvT hZ (hw _ (List.mem_of_getElem? (i := 76) rfl))) (mvT hZ (hw _ (List.mem_of_getElem? (i := 77) rfl))) (by decide) (backOf (W := 0) (add1 l Z a0 hw [] b1 da dk (0 : Int32) b35 T69.heap n0 Z76 G79 G80 G81 G82 F1_java_util_ArrayList F2_da G83 P75 ge2) hZ (hw _ (List.mem_of_getElem? (i := 78) rfl)) (hw _ (List.mem_of_getElem? (i := 2) rfl)) (by decide) (by decide)) q78a q78b q78c (g := (mkF m 75 #[.val (.int p0), .val (.int p1), .val (.int (0 : Int32)), .val (.ref b1), .val (.int ((((p1.toUInt32 >>> ((10 : Int32) &&& 31).toUInt32).toInt32) &&& (255 : Int32)).toUInt32.toUInt16.toUInt32.toInt32)), .val (.int ((((p1.toUInt32 >>> ((18 : Int32) &&& 31).toUInt32).toInt32) &&& (255 : Int32)).toUInt32.toUInt16.toUInt32.toInt32))] [(.ref b35), (.ref b1)])) rfl (by rw [hml]; rfl) (Steps.refl _) (argsL := [(.ref b35)]) (rest := []) (lenOf pd_13 rfl) rfl (by show 2 * 0 + _ ≤ _; exact Nat.le_of_eq rfl) (hb hby at_75) (fun _ _ => ⟨rfl, rfl, (by decide : 6 + 1 ≤ _), (by decide : 17 + 10 ≤ _)⟩)
      dsimp only [Pt.U, Pt.locs, Pt.cells, Pt.slots] at X78 l78 y78 z78 st78 hQ78
      subst l78 y78 z78
      obtain ⟨rfl, N78q, K78, P84⟩ := hQ78
      have N78_ := Fr.app N69_ N78q
      refine Gl.via (fun _ k => st78.trans k) ?_
      have Z85 : n0 ≤ T78.heap.size := Nat.le_trans Z76 K78.1
      have Y86 : h0.size ≤ T78.heap.size := Nat.le_trans Y77 K78.1
      show Gl p.tables e below T78 (mkF m 80 #[.val (.int p0), .val (.int p1), .val (.int (0 : Int32)), .val (.ref b1), .val (.int ((((p1.toUInt32 >>> ((10 : Int32) &&& 31).toUInt32).toInt32) &&& (255 : Int32)).toUInt32.toUInt16.toUInt32.toInt32)), .val (.int ((((p1.toUInt32 >>> ((18 : Int32) &&& 31).toUInt32).toInt32) &&& (255 : Int32)).toUInt32.toUInt16.toUInt32.toInt32))] [(.int (1 : Int32))]) G
      refine Gl.via (fun _ k => XS.pop X78.here hx rfl (hb hby at_80) rfl rfl k) ?_
      show Gl p.tables e below T78 (mkF m 81 #[.val (.int p0), .val (.int p1), .val (.int (0 : Int32)), .val (.ref b1), .val (.int ((((p1.toUInt32 >>> ((10 : Int32) &&& 31).toUInt32).toInt32) &&& (255 : Int32)).toUInt32.toUInt16.toUInt32.toInt32)), .val (.int ((((p1.toUInt32 >>> ((18 : Int32) &&& 31).toUInt32).toInt32) &&& (255 : Int32)).toUInt32.toUInt16.toUInt32.toInt32))] []) G
      obtain ⟨T87, h87, X87, e87, E87, A87, D87, -, st87⟩ := newO X78 hx hZ hown (hw _ (List.mem_of_getElem? (i := 105) rfl)) (hw _ (List.mem_of_getElem? (i := 106) rfl)) (hw _ (List.mem_of_getElem? (i := 107) rfl)) rfl (g := (mkF m 81 #[.val (.int p0), .val (.int p1), .val (.int (0 : Int32)), .val (.ref b1), .val (.int ((((p1.toUInt32 >>> ((10 : Int32) &&& 31).toUInt32).toInt32) &&& (255 : Int32)).toUInt32.toUInt16.toUInt32.toInt32)), .val (.int ((((p1.toUInt32 >>> ((18 : Int32) &&& 31).toUInt32).toInt32) &&& (255 : Int32)).toUInt32.toUInt16.toUInt32.toInt32))] [])) rfl (hb hby at_81) (by decide) (by decide)
      obtain ⟨b87, g87⟩ : ∃ z, z = T78.heap.size := ⟨_, rfl⟩
      rw [← g87] at A87 D87 st87
      have ne88 : b1 ≠ b87 := Nat.ne_of_lt (Nat.lt_of_lt_of_le P84.lt (Nat.le_of_eq g87.symm))
      have G89 : Exa Z T78.heap b35 "com/example/kereso/kereso/Search$Hit" := (P75.keep K78)
      have ne90 : b35 ≠ b87 := Nat.ne_of_lt (Nat.lt_of_lt_of_le G89.lt (Nat.le_of_eq g87.symm))
      have G91 : Exa Z T78.heap b_45 "java/lang/String" := (((P47.keep K56).keep K69).keep K78)
      have ne92 : b_45 ≠ b87 := Nat.ne_of_lt (Nat.lt_of_lt_of_le G91.lt (Nat.le_of_eq g87.symm))
      have G93 : Exa Z T78.heap b_56 "java/lang/String" := ((P58.keep K69).keep K78)
      have ne94 : b_56 ≠ b87 := Nat.ne_of_lt (Nat.lt_of_lt_of_le G93.lt (Nat.le_of_eq g87.symm))
      have ge95 : n0 ≤ b87 := Nat.le_trans Z85 (Nat.le_of_eq g87.symm)
      have gz96 : h0.size ≤ b87 := Nat.le_trans Y86 (Nat.le_of_eq g87.symm)
      refine Gl.via st87 ?_
      have Z97 : n0 ≤ h87.size := Nat.le_trans Z85 E87.1
      have Y98 : h0.size ≤ h87.size := Nat.le_trans Y86 E87.1
      have F99 : Fld Z h87 b87 "com/example/kereso/kereso/Search$ResultPage" "number" "I" (.int (0 : Int32)) := D87 (Or.inr (hw _ (List.mem_of_getElem? (i := 113) rfl))) (ty := .int) (by decide)
      have F100 : Fld Z h87 b87 "com/example/kereso/kereso/Search$ResultPage" "hits" "Ljava/util/List;" .null := D87 (Or.inr (hw _ (List.mem_of_getElem? (i := 115) rfl))) (ty := (.object "java/util/List")) (by decide)
      have F101 : Fld Z h87 b87 "com/example/kereso/kereso/Search$ResultPage" "hasNext" "Z" (.int (0 : Int32)) := D87 (Or.inr (hw _ (List.mem_of_getElem? (i := 117) rfl))) (ty := .boolean) (by decide)
      show Gl p.tables e below T87 (mkF m 84 #[.val (.int p0), .val (.int p1), .val (.int (0 : Int32)), .val (.ref b1), .val (.int ((((p1.toUInt32 >>> ((10 : Int32) &&& 31).toUInt32).toInt32) &&& (255 : Int32)).toUInt32.toUInt16.toUInt32.toInt32)), .val (.int ((((p1.toUInt32 >>> ((18 : Int32) &&& 31).toUInt32).toInt32) &&& (255 : Int32)).toUInt32.toUInt16.toUInt32.toInt32))] [(.ref b87)]) G
      refine Gl.via (fun _ k => XS.dup X87.here hx rfl (hb hby at_84) rfl rfl k) ?_
      show Gl p.tables e below T87 (mkF m 85 #[.val (.int p0), .val (.int p1), .val (.int (0 : Int32)), .val (.ref b1), .val (.int ((((p1.toUInt32 >>> ((10 : Int32) &&& 31).toUInt32).toInt32) &&& (255 : Int32)).toUInt32.toUInt16.toUInt32.toInt32)), .val (.int ((((p1.toUInt32 >>> ((18 : Int32) &&& 31).toUInt32).toInt32) &&& (255 : Int32)).toUInt32.toUInt16.toUInt32.toInt32))] [(.ref b87), (.ref b87)]) G
      refine Gl.via (fun _ k => XS.iloadN X87.here hx rfl (hb hby at_85) rfl k) ?_
      show Gl p.tables e below T87 (mkF m 86 #[.val (.int p0), .val (.int p1), .val (.int (0 : Int32)), .val (.ref b1), .val (.int ((((p1.toUInt32 >>> ((10 : Int32) &&& 31).toUInt32).toInt32) &&& (255 : Int32)).toUInt32.toUInt16.toUInt32.toInt32)), .val (.int ((((p1.toUInt32 >>> ((18 : Int32) &&& 31).toUInt32).toInt32) &&& (255 : Int32)).toUInt32.toUInt16.toUInt32.toInt32))] [(.int p0), (.ref b87), (.ref b87)]) G
      refine Gl.via (fun _ k => XS.aloadN X87.here hx rfl (hb hby at_86) rfl rfl k) ?_
      show Gl p.tables e below T87 (mkF m 87 #[.val (.int p0), .val (.int p1), .val (.int (0 : Int32)), .val (.ref b1), .val (.int ((((p1.toUInt32 >>> ((10 : Int32) &&& 31).toUInt32).toInt32) &&& (255 : Int32)).toUInt32.toUInt16.toUInt32.toInt32)), .val (.int ((((p1.toUInt32 >>> ((18 : Int32) &&& 31).toUInt32).toInt32) &&& (255 : Int32)).toUInt32.toUInt16.toUInt32.toInt32))] [(.ref b1), (.int p0), (.ref b87), (.ref b87)]) G
      refine Gl.via (fun _ k => XS.iloadN X87.here hx rfl (hb hby at_87) rfl k) ?_
      show Gl p.tables e below T87 (mkF m 88 #[.val (.int p0), .val (.int p1), .val (.int (0 : Int32)), .val (.ref b1), .val (.int ((((p1.toUInt32 >>> ((10 : Int32) &&& 31).toUInt32).toInt32) &&& (255 : Int32)).toUInt32.toUInt16.toUInt32.toInt32)), .val (.int ((((p1.toUInt32 >>> ((18 : Int32) &&& 31).toUInt32).toInt32) &&& (255 : Int32)).toUInt32.toUInt16.toUInt32.toInt32))] [(.int (0 : Int32)), (.ref b1), (.int p0), (.ref b87), (.ref b87)]) G
      obtain ⟨_, _, ⟨T102, L102, k102, n102⟩, -, X102, ⟨Lc102, hQ102, l102, y102, z102⟩, st102⟩ := X87.specialBack hx (y := (⟨"com/example/kereso/kereso/Search$ResultPage", "<init>", "(ILjava/util/List;Z)V"⟩ : MethodName)) rfl hown (mvT hZ (hw _ (List.mem_of_getElem? (i := 108) rfl))) (mvT hZ (hw _ (List.mem_of_getElem? (i := 109) rfl))) (mvT hZ (hw _ (List.mem_of_getElem? (i := 110) rfl))) (by decide) (backOf (W := 1) (p_init l Z a0 hw [] b87 p0 b1 (0 : Int32) (.int (0 : Int32)) .null (.int (0 : Int32)) h87 n0 Z97 A87 F99 F100 F101 ge95 (by first | assumption | rfl | decide | omega) (by first | assumption | rfl | decide | omega)) hZ (hw _ (List.mem_of_getElem? (i := 110) rfl)) (hw _ (List.mem_of_getElem? (i := 107) rfl)) (by decide) (by decide)) (g := (mkF m 88 #[.val (.int p0), .val (.int p1), .val (.int (0 : Int32)), .val (.ref b1), .val (.int ((((p1.toUInt32 >>> ((10 : Int32) &&& 31).toUInt32).toInt32) &&& (255 : Int32)).toUInt32.toUInt16.toUInt32.toInt32)), .val (.int ((((p1.toUInt32 >>> ((18 : Int32) &&& 31).toUInt32).toInt32) &&& (255 : Int32)).toUInt32.toUInt16.toUInt32.toInt32))] [(.int (0 : Int32)), (.ref b1), (.int p0), (.ref b87), (.ref b87)])) rfl (by rw [hml]; rfl) (Steps.refl _) (a := b87) (argsL := [(.int p0), (.ref b1), (.int (0 : Int32))]) (rest := [(.ref b87)]) (lenOf pd_8 rfl) rfl (by show 2 * 0 + _ ≤ _; exact Nat.le_of_eq rfl) (hb hby at_88) (fun _ _ => ⟨rfl, e87, (by decide : 8 + 0 ≤ _), (by decide : 30 + 0 ≤ _)⟩)
      dsimp only [Pt.U, Pt.locs, Pt.cells, Pt.slots] at X102 l102 y102 z102 st102 hQ102
      subst l102 y102 z102
      obtain ⟨rfl, N102q, K102, P103, P104⟩ := hQ102
      have N102_ := Fr.app N78_ N102q
      refine Gl.via (fun _ k => st102.trans k) ?_
      have Z105 : n0 ≤ T102.heap.size := Nat.le_trans Z97 K102.1
      have Y106 : h0.size ≤ T102.heap.size := Nat.le_trans Y98 K102.1
      show Gl p.tables e below T102 (mkF m 91 #[.val (.int p0), .val (.int p1), .val (.int (0 : Int32)), .val (.ref b1), .val (.int ((((p1.toUInt32 >>> ((10 : Int32) &&& 31).toUInt32).toInt32) &&& (255 : Int32)).toUInt32.toUInt16.toUInt32.toInt32)), .val (.int ((((p1.toUInt32 >>> ((18 : Int32) &&& 31).toUInt32).toInt32) &&& (255 : Int32)).toUInt32.toUInt16.toUInt32.toInt32))] [(.ref b87)]) G
      refine Gl.via (fun _ k => XS.astore X102.here hx rfl (hb hby at_91) rfl rfl (l' := #[.val (.int p0), .val (.int p1), .val (.int (0 : Int32)), .val (.ref b1), .val (.ref b87), .val (.int ((((p1.toUInt32 >>> ((18 : Int32) &&& 31).toUInt32).toInt32) &&& (255 : Int32)).toUInt32.toUInt16.toUInt32.toInt32))]) rfl k) ?_
      show Gl p.tables e below T102 (mkF m 93 #[.val (.int p0), .val (.int p1), .val (.int (0 : Int32)), .val (.ref b1), .val (.ref b87), .val (.int ((((p1.toUInt32 >>> ((18 : Int32) &&& 31).toUInt32).toInt32) &&& (255 : Int32)).toUInt32.toUInt16.toUInt32.toInt32))] []) G
      refine Gl.via (fun _ k => XS.iloadN X102.here hx rfl (hb hby at_93) rfl k) ?_
      show Gl p.tables e below T102 (mkF m 94 #[.val (.int p0), .val (.int p1), .val (.int (0 : Int32)), .val (.ref b1), .val (.ref b87), .val (.int ((((p1.toUInt32 >>> ((18 : Int32) &&& 31).toUInt32).toInt32) &&& (255 : Int32)).toUInt32.toUInt16.toUInt32.toInt32))] [(.int p0)]) G
      refine Gl.via (fun _ k => XS.iconst X102.here hx rfl (hb hby at_94) k) ?_
      show Gl p.tables e below T102 (mkF m 95 #[.val (.int p0), .val (.int p1), .val (.int (0 : Int32)), .val (.ref b1), .val (.ref b87), .val (.int ((((p1.toUInt32 >>> ((18 : Int32) &&& 31).toUInt32).toInt32) &&& (255 : Int32)).toUInt32.toUInt16.toUInt32.toInt32))] [(.int (2 : Int32)), (.int p0)]) G
      by_cases nn : p0 < (2 : Int32)
      · refine Gl.via (fun _ k => XS.icmpYes X102.here hx rfl (pc0 := 95) (pc' := 102) rfl (hb hby at_95) rfl (tlt nn).1 (by decide) (by decide) k) ?_
        show Gl p.tables e below T102 (mkF m 102 #[.val (.int p0), .val (.int p1), .val (.int (0 : Int32)), .val (.ref b1), .val (.ref b87), .val (.int ((((p1.toUInt32 >>> ((18 : Int32) &&& 31).toUInt32).toInt32) &&& (255 : Int32)).toUInt32.toUInt16.toUInt32.toInt32))] []) G
        refine Gl.via (fun _ k => XS.iconst X102.here hx rfl (hb hby at_102) k) ?_
        show Gl p.tables e below T102 (mkF m 103 #[.val (.int p0), .val (.int p1), .val (.int (0 : Int32)), .val (.ref b1), .val (.ref b87), .val (.int ((((p1.toUInt32 >>> ((18 : Int32) &&& 31).toUInt32).toInt32) &&& (255 : Int32)).toUInt32.toUInt16.toUInt32.toInt32))] [(.int (0 : Int32))]) G
        refine Gl.via (fun _ k => XS.istore X102.here hx rfl (hb hby at_103) rfl (l' := #[.val (.int p0), .val (.int p1), .val (.int (0 : Int32)), .val (.ref b1), .val (.ref b87), .val (.int (0 : Int32))]) rfl k) ?_
        show Gl p.tables e below T102 (mkF m 105 #[.val (.int p0), .val (.int p1), .val (.int (0 : Int32)), .val (.ref b1), .val (.ref b87), .val (.int (0 : Int32))] []) G
        refine Gl.via (fun _ k => XS.aload X102.here hx rfl (hb hby at_105) rfl rfl k) ?_
        show Gl p.tables e below T102 (mkF m 107 #[.val (.int p0), .val (.int p1), .val (.int (0 : Int32)), .val (.ref b1), .val (.ref b87), .val (.int (0 : Int32))] [(.ref b87)]) G
        obtain ⟨cq107, kq107, q107a, q107b, q107c⟩ := isOf hZ rfl P103
        obtain ⟨_, _, ⟨T107, L107, k107, n107⟩, -, X107, ⟨Lc107, hQ107, l107, y107, z107⟩, st107⟩ := X102.virtualBack hx (y := (⟨"com/example/kereso/kereso/Search$ResultPage", "hasPrevious", "()Z"⟩ : MethodName)) (z := (⟨"com/example/kereso/kereso/Search$ResultPage", "hasPrevious", "()Z"⟩ : MethodName)) hown (mvT hZ (hw _ (List.mem_of_getElem? (i := 118) rfl))) (mvT hZ (hw _ (List.mem_of_getElem? (i := 119) rfl))) (notFace_of_selects (args := #[]) (mvT hZ (hw _ (List.mem_of_getElem? (i := 121) rfl)))) (mvT hZ (hw _ (List.mem_of_getElem? (i := 121) rfl))) (mvT hZ (hw _ (List.mem_of_getElem? (i := 120) rfl))) (by decide) (backOf (W := 0) (hp0 l Z a0 hw [] b87 p0 T102.heap n0 Z105 P104 (own_two nn)) hZ (hw _ (List.mem_of_getElem? (i := 122) rfl)) (hw _ (List.mem_of_getElem? (i := 107) rfl)) (by decide) (by decide)) q107a q107c (g := (mkF m 107 #[.val (.int p0), .val (.int p1), .val (.int (0 : Int32)), .val (.ref b1), .val (.ref b87), .val (.int (0 : Int32))] [(.ref b87)])) rfl (by rw [hml]; rfl) (Steps.refl _) (argsL := []) (rest := []) (lenOf pd_9 rfl) rfl (by show 2 * 0 + _ ≤ _; exact Nat.le_of_eq rfl) (hb hby at_107) (fun _ _ => ⟨rfl, rfl, (by decide : 8 + 0 ≤ _), (by decide : 30 + 0 ≤ _)⟩)
        dsimp only [Pt.U, Pt.locs, Pt.cells, Pt.slots] at X107 l107 y107 z107 st107 hQ107
        subst l107 y107 z107
        obtain ⟨rfl, N107q, eh107⟩ := hQ107
        have N107_ := Fr.app N102_ N107q
        refine Gl.via (fun _ k => st107.trans k) ?_
        show Gl p.tables e below T107 (mkF m 110 #[.val (.int p0), .val (.int p1), .val (.int (0 : Int32)), .val (.ref b1), .val (.ref b87), .val (.int (0 : Int32))] [(.int (0 : Int32))]) G
        refine Gl.via (fun _ k => XS.iload X107.here hx rfl (hb hby at_110) rfl k) ?_
        show Gl p.tables e below T107 (mkF m 112 #[.val (.int p0), .val (.int p1), .val (.int (0 : Int32)), .val (.ref b1), .val (.ref b87), .val (.int (0 : Int32))] [(.int (0 : Int32)), (.int (0 : Int32))]) G
        refine Gl.via (fun _ k => XS.icmpNo X107.here hx rfl (hb hby at_112) rfl (teq (by decide)).2 k) ?_
        show Gl p.tables e below T107 (mkF m 115 #[.val (.int p0), .val (.int p1), .val (.int (0 : Int32)), .val (.ref b1), .val (.ref b87), .val (.int (0 : Int32))] []) G
        refine Gl.via (fun _ k => XS.aload X107.here hx rfl (hb hby at_115) rfl rfl k) ?_
        show Gl p.tables e below T107 (mkF m 117 #[.val (.int p0), .val (.int p1), .val (.int (0 : Int32)), .val (.ref b1), .val (.ref b87), .val (.int (0 : Int32))] [(.ref b87)]) G
        obtain ⟨cq108, kq108, q108a, q108b, q108c⟩ := isOf hZ eh107 P103
        obtain ⟨_, _, ⟨T108, L108, k108, n108⟩, -, X108, ⟨Lc108, hQ108, l108, y108, z108⟩, st108⟩ := X107.virtualBack hx (y := (⟨"com/example/kereso/kereso/Search$ResultPage", "number", "()I"⟩ : MethodName)) (z := (⟨"com/example/kereso/kereso/Search$ResultPage", "number", "()I"⟩ : MethodName)) hown (mvT hZ (hw _ (List.mem_of_getElem? (i := 123) rfl))) (mvT hZ (hw _ (List.mem_of_getElem? (i := 124) rfl))) (notFace_of_selects (args := #[]) (mvT hZ (hw _ (List.mem_of_getElem? (i := 126) rfl)))) (mvT hZ (hw _ (List.mem_of_getElem? (i := 126) rfl))) (mvT hZ (hw _ (List.mem_of_getElem? (i := 125) rfl))) (by decide) (backOf (W := 0) (gnum l Z a0 hw [] b87 p0 T102.heap n0 Z105 P104) hZ (hw _ (List.mem_of_getElem? (i := 127) rfl)) (hw _ (List.mem_of_getElem? (i := 107) rfl)) (by decide) (by decide)) q108a q108c (g := (mkF m 117 #[.val (.int p0), .val (.int p1), .val (.int (0 : Int32)), .val (.ref b1), .val (.ref b87), .val (.int (0 : Int32))] [(.ref b87)])) rfl (by rw [hml]; rfl) (Steps.refl _) (argsL := []) (rest := []) (lenOf pd_10 rfl) rfl (by show 2 * 0 + _ ≤ _; exact Nat.le_of_eq rfl) (hb hby at_117) (fun _ _ => ⟨rfl, eh107, (by decide : 8 + 0 ≤ _), (by decide : 30 + 0 ≤ _)⟩)
        dsimp only [Pt.U, Pt.locs, Pt.cells, Pt.slots] at X108 l108 y108 z108 st108 hQ108
        subst l108 y108 z108
        obtain ⟨rfl, N108q, eh108⟩ := hQ108
        have N108_ := Fr.app N107_ N108q
        refine Gl.via (fun _ k => st108.trans k) ?_
        show Gl p.tables e below T108 (mkF m 120 #[.val (.int p0), .val (.int p1), .val (.int (0 : Int32)), .val (.ref b1), .val (.ref b87), .val (.int (0 : Int32))] [(.int p0)]) G
        refine Gl.via (fun _ k => XS.iloadN X108.here hx rfl (hb hby at_120) rfl k) ?_
        show Gl p.tables e below T108 (mkF m 121 #[.val (.int p0), .val (.int p1), .val (.int (0 : Int32)), .val (.ref b1), .val (.ref b87), .val (.int (0 : Int32))] [(.int p0), (.int p0)]) G
        refine Gl.via (fun _ k => XS.icmpNo X108.here hx rfl (hb hby at_121) rfl (teq rfl).2 k) ?_
        show Gl p.tables e below T108 (mkF m 124 #[.val (.int p0), .val (.int p1), .val (.int (0 : Int32)), .val (.ref b1), .val (.ref b87), .val (.int (0 : Int32))] []) G
        refine Gl.via (fun _ k => XS.iconst X108.here hx rfl (hb hby at_124) k) ?_
        show Gl p.tables e below T108 (mkF m 125 #[.val (.int p0), .val (.int p1), .val (.int (0 : Int32)), .val (.ref b1), .val (.ref b87), .val (.int (0 : Int32))] [(.int (1 : Int32))]) G
        refine Gl.via (fun _ k => XS.goto X108.here hx rfl (pc0 := 125) (pc' := 129) rfl (hb hby at_125) (by decide) (by decide) k) ?_
        show Gl p.tables e below T108 (mkF m 129 #[.val (.int p0), .val (.int p1), .val (.int (0 : Int32)), .val (.ref b1), .val (.ref b87), .val (.int (0 : Int32))] [(.int (1 : Int32))]) G
        obtain ⟨fs, hr, hrun, hended, hW, hsame⟩ := X108.leave (v := some (.int (1 : Int32))) (fun h => by rw [Bd.returns] at h; cases h)
        have hq : ∀ L, Fr n0 L → Q_rm0 Z p0 p1 cs da dk h0 n0 (some (.int (1 : Int32))) T108.heap L := by
          intro L hN
          rw [eh108]
          exact ⟨rfl, hN⟩
        rw [hG]
        exact Gl.fin (retN X108 hx (t := .boolean) Bd.returns (by simp) (hb hby at_129) hr) ⟨_, hrun, hended, _, _, rfl, hq _ N108_, ⟨_, rfl⟩, hW, hsame.mono (by decide) (by decide)⟩
      · refine Gl.via (fun _ k => XS.icmpNo X102.here hx rfl (hb hby at_95) rfl (flt nn).1 k) ?_
        show Gl p.tables e below T102 (mkF m 98 #[.val (.int p0), .val (.int p1), .val (.int (0 : Int32)), .val (.ref b1), .val (.ref b87), .val (.int ((((p1.toUInt32 >>> ((18 : Int32) &&& 31).toUInt32).toInt32) &&& (255 : Int32)).toUInt32.toUInt16.toUInt32.toInt32))] []) G
        refine Gl.via (fun _ k => XS.iconst X102.here hx rfl (hb hby at_98) k) ?_
        show Gl p.tables e below T102 (mkF m 99 #[.val (.int p0), .val (.int p1), .val (.int (0 : Int32)), .val (.ref b1), .val (.ref b87), .val (.int ((((p1.toUInt32 >>> ((18 : Int32) &&& 31).toUInt32).toInt32) &&& (255 : Int32)).toUInt32.toUInt16.toUInt32.toInt32))] [(.int (1 : Int32))]) G
        refine Gl.via (fun _ k => XS.goto X102.here hx rfl (pc0 := 99) (pc' := 103) rfl (hb hby at_99) (by decide) (by decide) k) ?_
        show Gl p.tables e below T102 (mkF m 103 #[.val (.int p0), .val (.int p1), .val (.int (0 : Int32)), .val (.ref b1), .val (.ref b87), .val (.int ((((p1.toUInt32 >>> ((18 : Int32) &&& 31).toUInt32).toInt32) &&& (255 : Int32)).toUInt32.toUInt16.toUInt32.toInt32))] [(.int (1 : Int32))]) G
        refine Gl.via (fun _ k => XS.istore X102.here hx rfl (hb hby at_103) rfl (l' := #[.val (.int p0), .val (.int p1), .val (.int (0 : Int32)), .val (.ref b1), .val (.ref b87), .val (.int (1 : Int32))]) rfl k) ?_
        show Gl p.tables e below T102 (mkF m 105 #[.val (.int p0), .val (.int p1), .val (.int (0 : Int32)), .val (.ref b1), .val (.ref b87), .val (.int (1 : Int32))] []) G
        refine Gl.via (fun _ k => XS.aload X102.here hx rfl (hb hby at_105) rfl rfl k) ?_
        show Gl p.tables e below T102 (mkF m 107 #[.val (.int p0), .val (.int p1), .val (.int (0 : Int32)), .val (.ref b1), .val (.ref b87), .val (.int (1 : Int32))] [(.ref b87)]) G
        obtain ⟨cq109, kq109, q109a, q109b, q109c⟩ := isOf hZ rfl P103
        obtain ⟨_, _, ⟨T109, L109, k109, n109⟩, -, X109, ⟨Lc109, hQ109, l109, y109, z109⟩, st109⟩ := X102.virtualBack hx (y := (⟨"com/example/kereso/kereso/Search$ResultPage", "hasPrevious", "()Z"⟩ : MethodName)) (z := (⟨"com/example/kereso/kereso/Search$ResultPage", "hasPrevious", "()Z"⟩ : MethodName)) hown (mvT hZ (hw _ (List.mem_of_getElem? (i := 118) rfl))) (mvT hZ (hw _ (List.mem_of_getElem? (i := 119) rfl))) (notFace_of_selects (args := #[]) (mvT hZ (hw _ (List.mem_of_getElem? (i := 121) rfl)))) (mvT hZ (hw _ (List.mem_of_getElem? (i := 121) rfl))) (mvT hZ (hw _ (List.mem_of_getElem? (i := 120) rfl))) (by decide) (backOf (W := 0) (hp1 l Z a0 hw [] b87 p0 T102.heap n0 Z105 P104 (own_two' nn)) hZ (hw _ (List.mem_of_getElem? (i := 122) rfl)) (hw _ (List.mem_of_getElem? (i := 107) rfl)) (by decide) (by decide)) q109a q109c (g := (mkF m 107 #[.val (.int p0), .val (.int p1), .val (.int (0 : Int32)), .val (.ref b1), .val (.ref b87), .val (.int (1 : Int32))] [(.ref b87)])) rfl (by rw [hml]; rfl) (Steps.refl _) (argsL := []) (rest := []) (lenOf pd_9 rfl) rfl (by show 2 * 0 + _ ≤ _; exact Nat.le_of_eq rfl) (hb hby at_107) (fun _ _ => ⟨rfl, rfl, (by decide : 8 + 0 ≤ _), (by decide : 30 + 0 ≤ _)⟩)
        dsimp only [Pt.U, Pt.locs, Pt.cells, Pt.slots] at X109 l109 y109 z109 st109 hQ109
        subst l109 y109 z109
        obtain ⟨rfl, N109q, eh109⟩ := hQ109
        have N109_ := Fr.app N102_ N109q
        refine Gl.via (fun _ k => st109.trans k) ?_
        show Gl p.tables e below T109 (mkF m 110 #[.val (.int p0), .val (.int p1), .val (.int (0 : Int32)), .val (.ref b1), .val (.ref b87), .val (.int (1 : Int32))] [(.int (1 : Int32))]) G
        refine Gl.via (fun _ k => XS.iload X109.here hx rfl (hb hby at_110) rfl k) ?_
        show Gl p.tables e below T109 (mkF m 112 #[.val (.int p0), .val (.int p1), .val (.int (0 : Int32)), .val (.ref b1), .val (.ref b87), .val (.int (1 : Int32))] [(.int (1 : Int32)), (.int (1 : Int32))]) G
        refine Gl.via (fun _ k => XS.icmpNo X109.here hx rfl (hb hby at_112) rfl (teq (by decide)).2 k) ?_
        show Gl p.tables e below T109 (mkF m 115 #[.val (.int p0), .val (.int p1), .val (.int (0 : Int32)), .val (.ref b1), .val (.ref b87), .val (.int (1 : Int32))] []) G
        refine Gl.via (fun _ k => XS.aload X109.here hx rfl (hb hby at_115) rfl rfl k) ?_
        show Gl p.tables e below T109 (mkF m 117 #[.val (.int p0), .val (.int p1), .val (.int (0 : Int32)), .val (.ref b1), .val (.ref b87), .val (.int (1 : Int32))] [(.ref b87)]) G
        obtain ⟨cq110, kq110, q110a, q110b, q110c⟩ := isOf hZ eh109 P103
        obtain ⟨_, _, ⟨T110, L110, k110, n110⟩, -, X110, ⟨Lc110, hQ110, l110, y110, z110⟩, st110⟩ := X109.virtualBack hx (y := (⟨"com/example/kereso/kereso/Search$ResultPage", "number", "()I"⟩ : MethodName)) (z := (⟨"com/example/kereso/kereso/Search$ResultPage", "number", "()I"⟩ : MethodName)) hown (mvT hZ (hw _ (List.mem_of_getElem? (i := 123) rfl))) (mvT hZ (hw _ (List.mem_of_getElem? (i := 124) rfl))) (notFace_of_selects (args := #[]) (mvT hZ (hw _ (List.mem_of_getElem? (i := 126) rfl)))) (mvT hZ (hw _ (List.mem_of_getElem? (i := 126) rfl))) (mvT hZ (hw _ (List.mem_of_getElem? (i := 125) rfl))) (by decide) (backOf (W := 0) (gnum l Z a0 hw [] b87 p0 T102.heap n0 Z105 P104) hZ (hw _ (List.mem_of_getElem? (i := 127) rfl)) (hw _ (List.mem_of_getElem? (i := 107) rfl)) (by decide) (by decide)) q110a q110c (g := (mkF m 117 #[.val (.int p0), .val (.int p1), .val (.int (0 : Int32)), .val (.ref b1), .val (.ref b87), .val (.int (1 : Int32))] [(.ref b87)])) rfl (by rw [hml]; rfl) (Steps.refl _) (argsL := []) (rest := []) (lenOf pd_10 rfl) rfl (by show 2 * 0 + _ ≤ _; exact Nat.le_of_eq rfl) (hb hby at_117) (fun _ _ => ⟨rfl, eh109, (by decide : 8 + 0 ≤ _), (by decide : 30 + 0 ≤ _)⟩)
        dsimp only [Pt.U, Pt.locs, Pt.cells, Pt.slots] at X110 l110 y110 z110 st110 hQ110
        subst l110 y110 z110
        obtain ⟨rfl, N110q, eh110⟩ := hQ110
        have N110_ := Fr.app N109_ N110q
        refine Gl.via (fun _ k => st110.trans k) ?_
        show Gl p.tables e below T110 (mkF m 120 #[.val (.int p0), .val (.int p1), .val (.int (0 : Int32)), .val (.ref b1), .val (.ref b87), .val (.int (1 : Int32))] [(.int p0)]) G
        refine Gl.via (fun _ k => XS.iloadN X110.here hx rfl (hb hby at_120) rfl k) ?_
        show Gl p.tables e below T110 (mkF m 121 #[.val (.int p0), .val (.int p1), .val (.int (0 : Int32)), .val (.ref b1), .val (.ref b87), .val (.int (1 : Int32))] [(.int p0), (.int p0)]) G
        refine Gl.via (fun _ k => XS.icmpNo X110.here hx rfl (hb hby at_121) rfl (teq rfl).2 k) ?_
        show Gl p.tables e below T110 (mkF m 124 #[.val (.int p0), .val (.int p1), .val (.int (0 : Int32)), .val (.ref b1), .val (.ref b87), .val (.int (1 : Int32))] []) G
        refine Gl.via (fun _ k => XS.iconst X110.here hx rfl (hb hby at_124) k) ?_
        show Gl p.tables e below T110 (mkF m 125 #[.val (.int p0), .val (.int p1), .val (.int (0 : Int32)), .val (.ref b1), .val (.ref b87), .val (.int (1 : Int32))] [(.int (1 : Int32))]) G
        refine Gl.via (fun _ k => XS.goto X110.here hx rfl (pc0 := 125) (pc' := 129) rfl (hb hby at_125) (by decide) (by decide) k) ?_
        show Gl p.tables e below T110 (mkF m 129 #[.val (.int p0), .val (.int p1), .val (.int (0 : Int32)), .val (.ref b1), .val (.ref b87), .val (.int (1 : Int32))] [(.int (1 : Int32))]) G
        obtain ⟨fs, hr, hrun, hended, hW, hsame⟩ := X110.leave (v := some (.int (1 : Int32))) (fun h => by rw [Bd.returns] at h; cases h)
        have hq : ∀ L, Fr n0 L → Q_rm0 Z p0 p1 cs da dk h0 n0 (some (.int (1 : Int32))) T110.heap L := by
          intro L hN
          rw [eh110]
          exact ⟨rfl, hN⟩
        rw [hG]
        exact Gl.fin (retN X110 hx (t := .boolean) Bd.returns (by simp) (hb hby at_129) hr) ⟨_, hrun, hended, _, _, rfl, hq _ N110_, ⟨_, rfl⟩, hW, hsame.mono (by decide) (by decide)⟩
  · refine Gl.via (fun _ k => XS.ifNo X0.here hx rfl (hb hby at_3) rfl ((if0 _ _).trans (feq f1).1) k) ?_
    show Gl p.tables e below s₁ (mkF m 6 #[.val (.int p0), .val (.int p1), .unset, .unset, .unset, .unset] []) G
    refine Gl.via (fun _ k => XS.iconst X0.here hx rfl (hb hby at_6) k) ?_
    show Gl p.tables e below s₁ (mkF m 7 #[.val (.int p0), .val (.int p1), .unset, .unset, .unset, .unset] [(.int (1 : Int32))]) G
    refine Gl.via (fun _ k => XS.goto X0.here hx rfl (pc0 := 7) (pc' := 11) rfl (hb hby at_7) (by decide) (by decide) k) ?_
    show Gl p.tables e below s₁ (mkF m 11 #[.val (.int p0), .val (.int p1), .unset, .unset, .unset, .unset] [(.int (1 : Int32))]) G
    refine Gl.via (fun _ k => XS.istoreN X0.here hx rfl (hb hby at_11) rfl (l' := #[.val (.int p0), .val (.int p1), .val (.int (1 : Int32)), .unset, .unset, .unset]) rfl k) ?_
    show Gl p.tables e below s₁ (mkF m 12 #[.val (.int p0), .val (.int p1), .val (.int (1 : Int32)), .unset, .unset, .unset] []) G
    obtain ⟨T111, h111, X111, e111, E111, A111, D111, -, st111⟩ := newO X0 hx hZ hown (hw _ (List.mem_of_getElem? (i := 0) rfl)) (hw _ (List.mem_of_getElem? (i := 1) rfl)) (hw _ (List.mem_of_getElem? (i := 2) rfl)) e0 (g := (mkF m 12 #[.val (.int p0), .val (.int p1), .val (.int (1 : Int32)), .unset, .unset, .unset] [])) rfl (hb hby at_12) (by decide) (by decide)
    obtain ⟨b111, g111⟩ : ∃ z, z = h0.size := ⟨_, rfl⟩
    rw [← g111] at A111 D111 st111
    have ge112 : n0 ≤ b111 := Nat.le_trans Z0 (Nat.le_of_eq g111.symm)
    have gz113 : h0.size ≤ b111 := Nat.le_trans (Nat.le_refl h0.size) (Nat.le_of_eq g111.symm)
    refine Gl.via st111 ?_
    have Z114 : n0 ≤ h111.size := Nat.le_trans Z0 E111.1
    have Y115 : h0.size ≤ h111.size := Nat.le_trans (Nat.le_refl h0.size) E111.1
    have F116 : Fld Z h111 b111 "java/util/AbstractList" "modCount" "I" (.int (0 : Int32)) := D111 (Or.inl (hw _ (List.mem_of_getElem? (i := 22) rfl))) (ty := .int) (by decide)
    have F117 : Fld Z h111 b111 "java/util/ArrayList" "elementData" "[Ljava/lang/Object;" .null := D111 (Or.inl (hw _ (List.mem_of_getElem? (i := 25) rfl))) (ty := (.array (.object "java/lang/Object"))) (by decide)
    have F118 : Fld Z h111 b111 "java/util/ArrayList" "size" "I" (.int (0 : Int32)) := D111 (Or.inl (hw _ (List.mem_of_getElem? (i := 82) rfl))) (ty := .int) (by decide)
    show Gl p.tables e below T111 (mkF m 15 #[.val (.int p0), .val (.int p1), .val (.int (1 : Int32)), .unset, .unset, .unset] [(.ref b111)]) G
    refine Gl.via (fun _ k => XS.dup X111.here hx rfl (hb hby at_15) rfl rfl k) ?_
    show Gl p.tables e below T111 (mkF m 16 #[.val (.int p0), .val (.int p1), .val (.int (1 : Int32)), .unset, .unset, .unset] [(.ref b111), (.ref b111)]) G
    have G120 : Old Z n0 h111 := (F3_.ext E111)
    obtain ⟨_, _, ⟨T119, L119, k119, n119⟩, -, X119, ⟨Lc119, hQ119, l119, y119, z119⟩, st119⟩ := X111.specialBack hx (y := (⟨"java/util/ArrayList", "<init>", "()V"⟩ : MethodName)) rfl hown (mvT hZ (hw _ (List.mem_of_getElem? (i := 3) rfl))) (mvT hZ (hw _ (List.mem_of_getElem? (i := 4) rfl))) (mvT hZ (hw _ (List.mem_of_getElem? (i := 5) rfl))) (by decide) (backOf (W := 1) (l_init l Z a0 hw [] b111 da (.int (0 : Int32)) .null (.int (0 : Int32)) h111 n0 Z114 A111 F116 F117 F118 F1_java_util_ArrayList G120 ge112) hZ (hw _ (List.mem_of_getElem? (i := 5) rfl)) (hw _ (List.mem_of_getElem? (i := 2) rfl)) (by decide) (by decide)) (g := (mkF m 16 #[.val (.int p0), .val (.int p1), .val (.int (1 : Int32)), .unset, .unset, .unset] [(.ref b111), (.ref b111)])) rfl (by rw [hml]; rfl) (Steps.refl _) (a := b111) (argsL := []) (rest := [(.ref b111)]) (lenOf pd_0 rfl) rfl (by show 2 * 0 + _ ≤ _; exact Nat.le_of_eq rfl) (hb hby at_16) (fun _ _ => ⟨rfl, e111, (by decide : 1 + 0 ≤ _), (by decide : 3 + 0 ≤ _)⟩)
    dsimp only [Pt.U, Pt.locs, Pt.cells, Pt.slots] at X119 l119 y119 z119 st119 hQ119
    subst l119 y119 z119
    obtain ⟨rfl, N119q, K119, P121, P122, P123, P124⟩ := hQ119
    have N119_ := Fr.app N0 N119q
    refine Gl.via (fun _ k => st119.trans k) ?_
    have Z125 : n0 ≤ T119.heap.size := Nat.le_trans Z114 K119.1
    have Y126 : h0.size ≤ T119.heap.size := Nat.le_trans Y115 K119.1
    show Gl p.tables e below T119 (mkF m 19 #[.val (.int p0), .val (.int p1), .val (.int (1 : Int32)), .unset, .unset, .unset] [(.ref b111)]) G
    refine Gl.via (fun _ k => XS.astoreN X119.here hx rfl (hb hby at_19) rfl rfl (l' := #[.val (.int p0), .val (.int p1), .val (.int (1 : Int32)), .val (.ref b111), .unset, .unset]) rfl k) ?_
    show Gl p.tables e below T119 (mkF m 20 #[.val (.int p0), .val (.int p1), .val (.int (1 : Int32)), .val (.ref b111), .unset, .unset] []) G
    refine Gl.via (fun _ k => XS.iloadN X119.here hx rfl (hb hby at_20) rfl k) ?_
    show Gl p.tables e below T119 (mkF m 21 #[.val (.int p0), .val (.int p1), .val (.int (1 : Int32)), .val (.ref b111), .unset, .unset] [(.int p1)]) G
    refine Gl.via (fun _ k => XS.iconst X119.here hx rfl (hb hby at_21) k) ?_
    show Gl p.tables e below T119 (mkF m 22 #[.val (.int p0), .val (.int p1), .val (.int (1 : Int32)), .val (.ref b111), .unset, .unset] [(.int (2 : Int32)), (.int p1)]) G
    refine Gl.via (fun _ k => XS.iand X119.here hx rfl (hb hby at_22) rfl k) ?_
    show Gl p.tables e below T119 (mkF m 23 #[.val (.int p0), .val (.int p1), .val (.int (1 : Int32)), .val (.ref b111), .unset, .unset] [(.int (p1 &&& (2 : Int32)))]) G
    by_cases f2 : (p1 &&& (2 : Int32)) = (0 : Int32)
    · refine Gl.via (fun _ k => XS.ifYes X119.here hx rfl (pc0 := 23) (pc' := 81) rfl (hb hby at_23) rfl ((if0 _ _).trans (teq f2).1) (by decide) (by decide) k) ?_
      show Gl p.tables e below T119 (mkF m 81 #[.val (.int p0), .val (.int p1), .val (.int (1 : Int32)), .val (.ref b111), .unset, .unset] []) G
      obtain ⟨T127, h127, X127, e127, E127, A127, D127, -, st127⟩ := newO X119 hx hZ hown (hw _ (List.mem_of_getElem? (i := 105) rfl)) (hw _ (List.mem_of_getElem? (i := 106) rfl)) (hw _ (List.mem_of_getElem? (i := 107) rfl)) rfl (g := (mkF m 81 #[.val (.int p0), .val (.int p1), .val (.int (1 : Int32)), .val (.ref b111), .unset, .unset] [])) rfl (hb hby at_81) (by decide) (by decide)
      obtain ⟨b127, g127⟩ : ∃ z, z = T119.heap.size := ⟨_, rfl⟩
      rw [← g127] at A127 D127 st127
      have ne128 : b111 ≠ b127 := Nat.ne_of_lt (Nat.lt_of_lt_of_le P121.lt (Nat.le_of_eq g127.symm))
      have ge129 : n0 ≤ b127 := Nat.le_trans Z125 (Nat.le_of_eq g127.symm)
      have gz130 : h0.size ≤ b127 := Nat.le_trans Y126 (Nat.le_of_eq g127.symm)
      refine Gl.via st127 ?_
      have Z131 : n0 ≤ h127.size := Nat.le_trans Z125 E127.1
      have Y132 : h0.size ≤ h127.size := Nat.le_trans Y126 E127.1
      have F133 : Fld Z h127 b127 "com/example/kereso/kereso/Search$ResultPage" "number" "I" (.int (0 : Int32)) := D127 (Or.inr (hw _ (List.mem_of_getElem? (i := 113) rfl))) (ty := .int) (by decide)
      have F134 : Fld Z h127 b127 "com/example/kereso/kereso/Search$ResultPage" "hits" "Ljava/util/List;" .null := D127 (Or.inr (hw _ (List.mem_of_getElem? (i := 115) rfl))) (ty := (.object "java/util/List")) (by decide)
      have F135 : Fld Z h127 b127 "com/example/kereso/kereso/Search$ResultPage" "hasNext" "Z" (.int (0 : Int32)) := D127 (Or.inr (hw _ (List.mem_of_getElem? (i := 117) rfl))) (ty := .boolean) (by decide)
      show Gl p.tables e below T127 (mkF m 84 #[.val (.int p0), .val (.int p1), .val (.int (1 : Int32)), .val (.ref b111), .unset, .unset] [(.ref b127)]) G
      refine Gl.via (fun _ k => XS.dup X127.here hx rfl (hb hby at_84) rfl rfl k) ?_
      show Gl p.tables e below T127 (mkF m 85 #[.val (.int p0), .val (.int p1), .val (.int (1 : Int32)), .val (.ref b111), .unset, .unset] [(.ref b127), (.ref b127)]) G
      refine Gl.via (fun _ k => XS.iloadN X127.here hx rfl (hb hby at_85) rfl k) ?_
      show Gl p.tables e below T127 (mkF m 86 #[.val (.int p0), .val (.int p1), .val (.int (1 : Int32)), .val (.ref b111), .unset, .unset] [(.int p0), (.ref b127), (.ref b127)]) G
      refine Gl.via (fun _ k => XS.aloadN X127.here hx rfl (hb hby at_86) rfl rfl k) ?_
      show Gl p.tables e below T127 (mkF m 87 #[.val (.int p0), .val (.int p1), .val (.int (1 : Int32)), .val (.ref b111), .unset, .unset] [(.ref b111), (.int p0), (.ref b127), (.ref b127)]) G
      refine Gl.via (fun _ k => XS.iloadN X127.here hx rfl (hb hby at_87) rfl k) ?_
      show Gl p.tables e below T127 (mkF m 88 #[.val (.int p0), .val (.int p1), .val (.int (1 : Int32)), .val (.ref b111), .unset, .unset] [(.int (1 : Int32)), (.ref b111), (.int p0), (.ref b127), (.ref b127)]) G
      obtain ⟨_, _, ⟨T136, L136, k136, n136⟩, -, X136, ⟨Lc136, hQ136, l136, y136, z136⟩, st136⟩ := X127.specialBack hx (y := (⟨"com/example/kereso/kereso/Search$ResultPage", "<init>", "(ILjava/util/List;Z)V"⟩ : MethodName)) rfl hown (mvT hZ (hw _ (List.mem_of_getElem? (i := 108) rfl))) (mvT hZ (hw _ (List.mem_of_getElem? (i := 109) rfl))) (mvT hZ (hw _ (List.mem_of_getElem? (i := 110) rfl))) (by decide) (backOf (W := 1) (p_init l Z a0 hw [] b127 p0 b111 (1 : Int32) (.int (0 : Int32)) .null (.int (0 : Int32)) h127 n0 Z131 A127 F133 F134 F135 ge129 (by first | assumption | rfl | decide | omega) (by first | assumption | rfl | decide | omega)) hZ (hw _ (List.mem_of_getElem? (i := 110) rfl)) (hw _ (List.mem_of_getElem? (i := 107) rfl)) (by decide) (by decide)) (g := (mkF m 88 #[.val (.int p0), .val (.int p1), .val (.int (1 : Int32)), .val (.ref b111), .unset, .unset] [(.int (1 : Int32)), (.ref b111), (.int p0), (.ref b127), (.ref b127)])) rfl (by rw [hml]; rfl) (Steps.refl _) (a := b127) (argsL := [(.int p0), (.ref b111), (.int (1 : Int32))]) (rest := [(.ref b127)]) (lenOf pd_8 rfl) rfl (by show 2 * 0 + _ ≤ _; exact Nat.le_of_eq rfl) (hb hby at_88) (fun _ _ => ⟨rfl, e127, (by decide : 2 + 0 ≤ _), (by decide : 6 + 0 ≤ _)⟩)
      dsimp only [Pt.U, Pt.locs, Pt.cells, Pt.slots] at X136 l136 y136 z136 st136 hQ136
      subst l136 y136 z136
      obtain ⟨rfl, N136q, K136, P137, P138⟩ := hQ136
      have N136_ := Fr.app N119_ N136q
      refine Gl.via (fun _ k => st136.trans k) ?_
      have Z139 : n0 ≤ T136.heap.size := Nat.le_trans Z131 K136.1
      have Y140 : h0.size ≤ T136.heap.size := Nat.le_trans Y132 K136.1
      show Gl p.tables e below T136 (mkF m 91 #[.val (.int p0), .val (.int p1), .val (.int (1 : Int32)), .val (.ref b111), .unset, .unset] [(.ref b127)]) G
      refine Gl.via (fun _ k => XS.astore X136.here hx rfl (hb hby at_91) rfl rfl (l' := #[.val (.int p0), .val (.int p1), .val (.int (1 : Int32)), .val (.ref b111), .val (.ref b127), .unset]) rfl k) ?_
      show Gl p.tables e below T136 (mkF m 93 #[.val (.int p0), .val (.int p1), .val (.int (1 : Int32)), .val (.ref b111), .val (.ref b127), .unset] []) G
      refine Gl.via (fun _ k => XS.iloadN X136.here hx rfl (hb hby at_93) rfl k) ?_
      show Gl p.tables e below T136 (mkF m 94 #[.val (.int p0), .val (.int p1), .val (.int (1 : Int32)), .val (.ref b111), .val (.ref b127), .unset] [(.int p0)]) G
      refine Gl.via (fun _ k => XS.iconst X136.here hx rfl (hb hby at_94) k) ?_
      show Gl p.tables e below T136 (mkF m 95 #[.val (.int p0), .val (.int p1), .val (.int (1 : Int32)), .val (.ref b111), .val (.ref b127), .unset] [(.int (2 : Int32)), (.int p0)]) G
      by_cases nn : p0 < (2 : Int32)
      · refine Gl.via (fun _ k => XS.icmpYes X136.here hx rfl (pc0 := 95) (pc' := 102) rfl (hb hby at_95) rfl (tlt nn).1 (by decide) (by decide) k) ?_
        show Gl p.tables e below T136 (mkF m 102 #[.val (.int p0), .val (.int p1), .val (.int (1 : Int32)), .val (.ref b111), .val (.ref b127), .unset] []) G
        refine Gl.via (fun _ k => XS.iconst X136.here hx rfl (hb hby at_102) k) ?_
        show Gl p.tables e below T136 (mkF m 103 #[.val (.int p0), .val (.int p1), .val (.int (1 : Int32)), .val (.ref b111), .val (.ref b127), .unset] [(.int (0 : Int32))]) G
        refine Gl.via (fun _ k => XS.istore X136.here hx rfl (hb hby at_103) rfl (l' := #[.val (.int p0), .val (.int p1), .val (.int (1 : Int32)), .val (.ref b111), .val (.ref b127), .val (.int (0 : Int32))]) rfl k) ?_
        show Gl p.tables e below T136 (mkF m 105 #[.val (.int p0), .val (.int p1), .val (.int (1 : Int32)), .val (.ref b111), .val (.ref b127), .val (.int (0 : Int32))] []) G
        refine Gl.via (fun _ k => XS.aload X136.here hx rfl (hb hby at_105) rfl rfl k) ?_
        show Gl p.tables e below T136 (mkF m 107 #[.val (.int p0), .val (.int p1), .val (.int (1 : Int32)), .val (.ref b111), .val (.ref b127), .val (.int (0 : Int32))] [(.ref b127)]) G
        obtain ⟨cq141, kq141, q141a, q141b, q141c⟩ := isOf hZ rfl P137
        obtain ⟨_, _, ⟨T141, L141, k141, n141⟩, -, X141, ⟨Lc141, hQ141, l141, y141, z141⟩, st141⟩ := X136.virtualBack hx (y := (⟨"com/example/kereso/kereso/Search$ResultPage", "hasPrevious", "()Z"⟩ : MethodName)) (z := (⟨"com/example/kereso/kereso/Search$ResultPage", "hasPrevious", "()Z"⟩ : MethodName)) hown (mvT hZ (hw _ (List.mem_of_getElem? (i := 118) rfl))) (mvT hZ (hw _ (List.mem_of_getElem? (i := 119) rfl))) (notFace_of_selects (args := #[]) (mvT hZ (hw _ (List.mem_of_getElem? (i := 121) rfl)))) (mvT hZ (hw _ (List.mem_of_getElem? (i := 121) rfl))) (mvT hZ (hw _ (List.mem_of_getElem? (i := 120) rfl))) (by decide) (backOf (W := 0) (hp0 l Z a0 hw [] b127 p0 T136.heap n0 Z139 P138 (own_two nn)) hZ (hw _ (List.mem_of_getElem? (i := 122) rfl)) (hw _ (List.mem_of_getElem? (i := 107) rfl)) (by decide) (by decide)) q141a q141c (g := (mkF m 107 #[.val (.int p0), .val (.int p1), .val (.int (1 : Int32)), .val (.ref b111), .val (.ref b127), .val (.int (0 : Int32))] [(.ref b127)])) rfl (by rw [hml]; rfl) (Steps.refl _) (argsL := []) (rest := []) (lenOf pd_9 rfl) rfl (by show 2 * 0 + _ ≤ _; exact Nat.le_of_eq rfl) (hb hby at_107) (fun _ _ => ⟨rfl, rfl, (by decide : 2 + 0 ≤ _), (by decide : 6 + 0 ≤ _)⟩)
        dsimp only [Pt.U, Pt.locs, Pt.cells, Pt.slots] at X141 l141 y141 z141 st141 hQ141
        subst l141 y141 z141
        obtain ⟨rfl, N141q, eh141⟩ := hQ141
        have N141_ := Fr.app N136_ N141q
        refine Gl.via (fun _ k => st141.trans k) ?_
        show Gl p.tables e below T141 (mkF m 110 #[.val (.int p0), .val (.int p1), .val (.int (1 : Int32)), .val (.ref b111), .val (.ref b127), .val (.int (0 : Int32))] [(.int (0 : Int32))]) G
        refine Gl.via (fun _ k => XS.iload X141.here hx rfl (hb hby at_110) rfl k) ?_
        show Gl p.tables e below T141 (mkF m 112 #[.val (.int p0), .val (.int p1), .val (.int (1 : Int32)), .val (.ref b111), .val (.ref b127), .val (.int (0 : Int32))] [(.int (0 : Int32)), (.int (0 : Int32))]) G
        refine Gl.via (fun _ k => XS.icmpNo X141.here hx rfl (hb hby at_112) rfl (teq (by decide)).2 k) ?_
        show Gl p.tables e below T141 (mkF m 115 #[.val (.int p0), .val (.int p1), .val (.int (1 : Int32)), .val (.ref b111), .val (.ref b127), .val (.int (0 : Int32))] []) G
        refine Gl.via (fun _ k => XS.aload X141.here hx rfl (hb hby at_115) rfl rfl k) ?_
        show Gl p.tables e below T141 (mkF m 117 #[.val (.int p0), .val (.int p1), .val (.int (1 : Int32)), .val (.ref b111), .val (.ref b127), .val (.int (0 : Int32))] [(.ref b127)]) G
        obtain ⟨cq142, kq142, q142a, q142b, q142c⟩ := isOf hZ eh141 P137
        obtain ⟨_, _, ⟨T142, L142, k142, n142⟩, -, X142, ⟨Lc142, hQ142, l142, y142, z142⟩, st142⟩ := X141.virtualBack hx (y := (⟨"com/example/kereso/kereso/Search$ResultPage", "number", "()I"⟩ : MethodName)) (z := (⟨"com/example/kereso/kereso/Search$ResultPage", "number", "()I"⟩ : MethodName)) hown (mvT hZ (hw _ (List.mem_of_getElem? (i := 123) rfl))) (mvT hZ (hw _ (List.mem_of_getElem? (i := 124) rfl))) (notFace_of_selects (args := #[]) (mvT hZ (hw _ (List.mem_of_getElem? (i := 126) rfl)))) (mvT hZ (hw _ (List.mem_of_getElem? (i := 126) rfl))) (mvT hZ (hw _ (List.mem_of_getElem? (i := 125) rfl))) (by decide) (backOf (W := 0) (gnum l Z a0 hw [] b127 p0 T136.heap n0 Z139 P138) hZ (hw _ (List.mem_of_getElem? (i := 127) rfl)) (hw _ (List.mem_of_getElem? (i := 107) rfl)) (by decide) (by decide)) q142a q142c (g := (mkF m 117 #[.val (.int p0), .val (.int p1), .val (.int (1 : Int32)), .val (.ref b111), .val (.ref b127), .val (.int (0 : Int32))] [(.ref b127)])) rfl (by rw [hml]; rfl) (Steps.refl _) (argsL := []) (rest := []) (lenOf pd_10 rfl) rfl (by show 2 * 0 + _ ≤ _; exact Nat.le_of_eq rfl) (hb hby at_117) (fun _ _ => ⟨rfl, eh141, (by decide : 2 + 0 ≤ _), (by decide : 6 + 0 ≤ _)⟩)
        dsimp only [Pt.U, Pt.locs, Pt.cells, Pt.slots] at X142 l142 y142 z142 st142 hQ142
        subst l142 y142 z142
        obtain ⟨rfl, N142q, eh142⟩ := hQ142
        have N142_ := Fr.app N141_ N142q
        refine Gl.via (fun _ k => st142.trans k) ?_
        show Gl p.tables e below T142 (mkF m 120 #[.val (.int p0), .val (.int p1), .val (.int (1 : Int32)), .val (.ref b111), .val (.ref b127), .val (.int (0 : Int32))] [(.int p0)]) G
        refine Gl.via (fun _ k => XS.iloadN X142.here hx rfl (hb hby at_120) rfl k) ?_
        show Gl p.tables e below T142 (mkF m 121 #[.val (.int p0), .val (.int p1), .val (.int (1 : Int32)), .val (.ref b111), .val (.ref b127), .val (.int (0 : Int32))] [(.int p0), (.int p0)]) G
        refine Gl.via (fun _ k => XS.icmpNo X142.here hx rfl (hb hby at_121) rfl (teq rfl).2 k) ?_
        show Gl p.tables e below T142 (mkF m 124 #[.val (.int p0), .val (.int p1), .val (.int (1 : Int32)), .val (.ref b111), .val (.ref b127), .val (.int (0 : Int32))] []) G
        refine Gl.via (fun _ k => XS.iconst X142.here hx rfl (hb hby at_124) k) ?_
        show Gl p.tables e below T142 (mkF m 125 #[.val (.int p0), .val (.int p1), .val (.int (1 : Int32)), .val (.ref b111), .val (.ref b127), .val (.int (0 : Int32))] [(.int (1 : Int32))]) G
        refine Gl.via (fun _ k => XS.goto X142.here hx rfl (pc0 := 125) (pc' := 129) rfl (hb hby at_125) (by decide) (by decide) k) ?_
        show Gl p.tables e below T142 (mkF m 129 #[.val (.int p0), .val (.int p1), .val (.int (1 : Int32)), .val (.ref b111), .val (.ref b127), .val (.int (0 : Int32))] [(.int (1 : Int32))]) G
        obtain ⟨fs, hr, hrun, hended, hW, hsame⟩ := X142.leave (v := some (.int (1 : Int32))) (fun h => by rw [Bd.returns] at h; cases h)
        have hq : ∀ L, Fr n0 L → Q_rm0 Z p0 p1 cs da dk h0 n0 (some (.int (1 : Int32))) T142.heap L := by
          intro L hN
          rw [eh142]
          exact ⟨rfl, hN⟩
        rw [hG]
        exact Gl.fin (retN X142 hx (t := .boolean) Bd.returns (by simp) (hb hby at_129) hr) ⟨_, hrun, hended, _, _, rfl, hq _ N142_, ⟨_, rfl⟩, hW, hsame.mono (by decide) (by decide)⟩
      · refine Gl.via (fun _ k => XS.icmpNo X136.here hx rfl (hb hby at_95) rfl (flt nn).1 k) ?_
        show Gl p.tables e below T136 (mkF m 98 #[.val (.int p0), .val (.int p1), .val (.int (1 : Int32)), .val (.ref b111), .val (.ref b127), .unset] []) G
        refine Gl.via (fun _ k => XS.iconst X136.here hx rfl (hb hby at_98) k) ?_
        show Gl p.tables e below T136 (mkF m 99 #[.val (.int p0), .val (.int p1), .val (.int (1 : Int32)), .val (.ref b111), .val (.ref b127), .unset] [(.int (1 : Int32))]) G
        refine Gl.via (fun _ k => XS.goto X136.here hx rfl (pc0 := 99) (pc' := 103) rfl (hb hby at_99) (by decide) (by decide) k) ?_
        show Gl p.tables e below T136 (mkF m 103 #[.val (.int p0), .val (.int p1), .val (.int (1 : Int32)), .val (.ref b111), .val (.ref b127), .unset] [(.int (1 : Int32))]) G
        refine Gl.via (fun _ k => XS.istore X136.here hx rfl (hb hby at_103) rfl (l' := #[.val (.int p0), .val (.int p1), .val (.int (1 : Int32)), .val (.ref b111), .val (.ref b127), .val (.int (1 : Int32))]) rfl k) ?_
        show Gl p.tables e below T136 (mkF m 105 #[.val (.int p0), .val (.int p1), .val (.int (1 : Int32)), .val (.ref b111), .val (.ref b127), .val (.int (1 : Int32))] []) G
        refine Gl.via (fun _ k => XS.aload X136.here hx rfl (hb hby at_105) rfl rfl k) ?_
        show Gl p.tables e below T136 (mkF m 107 #[.val (.int p0), .val (.int p1), .val (.int (1 : Int32)), .val (.ref b111), .val (.ref b127), .val (.int (1 : Int32))] [(.ref b127)]) G
        obtain ⟨cq143, kq143, q143a, q143b, q143c⟩ := isOf hZ rfl P137
        obtain ⟨_, _, ⟨T143, L143, k143, n143⟩, -, X143, ⟨Lc143, hQ143, l143, y143, z143⟩, st143⟩ := X136.virtualBack hx (y := (⟨"com/example/kereso/kereso/Search$ResultPage", "hasPrevious", "()Z"⟩ : MethodName)) (z := (⟨"com/example/kereso/kereso/Search$ResultPage", "hasPrevious", "()Z"⟩ : MethodName)) hown (mvT hZ (hw _ (List.mem_of_getElem? (i := 118) rfl))) (mvT hZ (hw _ (List.mem_of_getElem? (i := 119) rfl))) (notFace_of_selects (args := #[]) (mvT hZ (hw _ (List.mem_of_getElem? (i := 121) rfl)))) (mvT hZ (hw _ (List.mem_of_getElem? (i := 121) rfl))) (mvT hZ (hw _ (List.mem_of_getElem? (i := 120) rfl))) (by decide) (backOf (W := 0) (hp1 l Z a0 hw [] b127 p0 T136.heap n0 Z139 P138 (own_two' nn)) hZ (hw _ (List.mem_of_getElem? (i := 122) rfl)) (hw _ (List.mem_of_getElem? (i := 107) rfl)) (by decide) (by decide)) q143a q143c (g := (mkF m 107 #[.val (.int p0), .val (.int p1), .val (.int (1 : Int32)), .val (.ref b111), .val (.ref b127), .val (.int (1 : Int32))] [(.ref b127)])) rfl (by rw [hml]; rfl) (Steps.refl _) (argsL := []) (rest := []) (lenOf pd_9 rfl) rfl (by show 2 * 0 + _ ≤ _; exact Nat.le_of_eq rfl) (hb hby at_107) (fun _ _ => ⟨rfl, rfl, (by decide : 2 + 0 ≤ _), (by decide : 6 + 0 ≤ _)⟩)
        dsimp only [Pt.U, Pt.locs, Pt.cells, Pt.slots] at X143 l143 y143 z143 st143 hQ143
        subst l143 y143 z143
        obtain ⟨rfl, N143q, eh143⟩ := hQ143
        have N143_ := Fr.app N136_ N143q
        refine Gl.via (fun _ k => st143.trans k) ?_
        show Gl p.tables e below T143 (mkF m 110 #[.val (.int p0), .val (.int p1), .val (.int (1 : Int32)), .val (.ref b111), .val (.ref b127), .val (.int (1 : Int32))] [(.int (1 : Int32))]) G
        refine Gl.via (fun _ k => XS.iload X143.here hx rfl (hb hby at_110) rfl k) ?_
        show Gl p.tables e below T143 (mkF m 112 #[.val (.int p0), .val (.int p1), .val (.int (1 : Int32)), .val (.ref b111), .val (.ref b127), .val (.int (1 : Int32))] [(.int (1 : Int32)), (.int (1 : Int32))]) G
        refine Gl.via (fun _ k => XS.icmpNo X143.here hx rfl (hb hby at_112) rfl (teq (by decide)).2 k) ?_
        show Gl p.tables e below T143 (mkF m 115 #[.val (.int p0), .val (.int p1), .val (.int (1 : Int32)), .val (.ref b111), .val (.ref b127), .val (.int (1 : Int32))] []) G
        refine Gl.via (fun _ k => XS.aload X143.here hx rfl (hb hby at_115) rfl rfl k) ?_
        show Gl p.tables e below T143 (mkF m 117 #[.val (.int p0), .val (.int p1), .val (.int (1 : Int32)), .val (.ref b111), .val (.ref b127), .val (.int (1 : Int32))] [(.ref b127)]) G
        obtain ⟨cq144, kq144, q144a, q144b, q144c⟩ := isOf hZ eh143 P137
        obtain ⟨_, _, ⟨T144, L144, k144, n144⟩, -, X144, ⟨Lc144, hQ144, l144, y144, z144⟩, st144⟩ := X143.virtualBack hx (y := (⟨"com/example/kereso/kereso/Search$ResultPage", "number", "()I"⟩ : MethodName)) (z := (⟨"com/example/kereso/kereso/Search$ResultPage", "number", "()I"⟩ : MethodName)) hown (mvT hZ (hw _ (List.mem_of_getElem? (i := 123) rfl))) (mvT hZ (hw _ (List.mem_of_getElem? (i := 124) rfl))) (notFace_of_selects (args := #[]) (mvT hZ (hw _ (List.mem_of_getElem? (i := 126) rfl)))) (mvT hZ (hw _ (List.mem_of_getElem? (i := 126) rfl))) (mvT hZ (hw _ (List.mem_of_getElem? (i := 125) rfl))) (by decide) (backOf (W := 0) (gnum l Z a0 hw [] b127 p0 T136.heap n0 Z139 P138) hZ (hw _ (List.mem_of_getElem? (i := 127) rfl)) (hw _ (List.mem_of_getElem? (i := 107) rfl)) (by decide) (by decide)) q144a q144c (g := (mkF m 117 #[.val (.int p0), .val (.int p1), .val (.int (1 : Int32)), .val (.ref b111), .val (.ref b127), .val (.int (1 : Int32))] [(.ref b127)])) rfl (by rw [hml]; rfl) (Steps.refl _) (argsL := []) (rest := []) (lenOf pd_10 rfl) rfl (by show 2 * 0 + _ ≤ _; exact Nat.le_of_eq rfl) (hb hby at_117) (fun _ _ => ⟨rfl, eh143, (by decide : 2 + 0 ≤ _), (by decide : 6 + 0 ≤ _)⟩)
        dsimp only [Pt.U, Pt.locs, Pt.cells, Pt.slots] at X144 l144 y144 z144 st144 hQ144
        subst l144 y144 z144
        obtain ⟨rfl, N144q, eh144⟩ := hQ144
        have N144_ := Fr.app N143_ N144q
        refine Gl.via (fun _ k => st144.trans k) ?_
        show Gl p.tables e below T144 (mkF m 120 #[.val (.int p0), .val (.int p1), .val (.int (1 : Int32)), .val (.ref b111), .val (.ref b127), .val (.int (1 : Int32))] [(.int p0)]) G
        refine Gl.via (fun _ k => XS.iloadN X144.here hx rfl (hb hby at_120) rfl k) ?_
        show Gl p.tables e below T144 (mkF m 121 #[.val (.int p0), .val (.int p1), .val (.int (1 : Int32)), .val (.ref b111), .val (.ref b127), .val (.int (1 : Int32))] [(.int p0), (.int p0)]) G
        refine Gl.via (fun _ k => XS.icmpNo X144.here hx rfl (hb hby at_121) rfl (teq rfl).2 k) ?_
        show Gl p.tables e below T144 (mkF m 124 #[.val (.int p0), .val (.int p1), .val (.int (1 : Int32)), .val (.ref b111), .val (.ref b127), .val (.int (1 : Int32))] []) G
        refine Gl.via (fun _ k => XS.iconst X144.here hx rfl (hb hby at_124) k) ?_
        show Gl p.tables e below T144 (mkF m 125 #[.val (.int p0), .val (.int p1), .val (.int (1 : Int32)), .val (.ref b111), .val (.ref b127), .val (.int (1 : Int32))] [(.int (1 : Int32))]) G
        refine Gl.via (fun _ k => XS.goto X144.here hx rfl (pc0 := 125) (pc' := 129) rfl (hb hby at_125) (by decide) (by decide) k) ?_
        show Gl p.tables e below T144 (mkF m 129 #[.val (.int p0), .val (.int p1), .val (.int (1 : Int32)), .val (.ref b111), .val (.ref b127), .val (.int (1 : Int32))] [(.int (1 : Int32))]) G
        obtain ⟨fs, hr, hrun, hended, hW, hsame⟩ := X144.leave (v := some (.int (1 : Int32))) (fun h => by rw [Bd.returns] at h; cases h)
        have hq : ∀ L, Fr n0 L → Q_rm0 Z p0 p1 cs da dk h0 n0 (some (.int (1 : Int32))) T144.heap L := by
          intro L hN
          rw [eh144]
          exact ⟨rfl, hN⟩
        rw [hG]
        exact Gl.fin (retN X144 hx (t := .boolean) Bd.returns (by simp) (hb hby at_129) hr) ⟨_, hrun, hended, _, _, rfl, hq _ N144_, ⟨_, rfl⟩, hW, hsame.mono (by decide) (by decide)⟩
    · refine Gl.via (fun _ k => XS.ifNo X119.here hx rfl (hb hby at_23) rfl ((if0 _ _).trans (feq f2).1) k) ?_
      show Gl p.tables e below T119 (mkF m 26 #[.val (.int p0), .val (.int p1), .val (.int (1 : Int32)), .val (.ref b111), .unset, .unset] []) G
      refine Gl.via (fun _ k => XS.iloadN X119.here hx rfl (hb hby at_26) rfl k) ?_
      show Gl p.tables e below T119 (mkF m 27 #[.val (.int p0), .val (.int p1), .val (.int (1 : Int32)), .val (.ref b111), .unset, .unset] [(.int p1)]) G
      refine Gl.via (fun _ k => XS.bipush X119.here hx rfl (hb hby at_27) k) ?_
      show Gl p.tables e below T119 (mkF m 29 #[.val (.int p0), .val (.int p1), .val (.int (1 : Int32)), .val (.ref b111), .unset, .unset] [(.int (10 : Int32)), (.int p1)]) G
      refine Gl.via (fun _ k => XS.iushr X119.here hx rfl (hb hby at_29) rfl k) ?_
      show Gl p.tables e below T119 (mkF m 30 #[.val (.int p0), .val (.int p1), .val (.int (1 : Int32)), .val (.ref b111), .unset, .unset] [(.int ((p1.toUInt32 >>> ((10 : Int32) &&& 31).toUInt32).toInt32))]) G
      refine Gl.via (fun _ k => XS.sipush X119.here hx rfl (hb hby at_30) k) ?_
      show Gl p.tables e below T119 (mkF m 33 #[.val (.int p0), .val (.int p1), .val (.int (1 : Int32)), .val (.ref b111), .unset, .unset] [(.int (255 : Int32)), (.int ((p1.toUInt32 >>> ((10 : Int32) &&& 31).toUInt32).toInt32))]) G
      refine Gl.via (fun _ k => XS.iand X119.here hx rfl (hb hby at_33) rfl k) ?_
      show Gl p.tables e below T119 (mkF m 34 #[.val (.int p0), .val (.int p1), .val (.int (1 : Int32)), .val (.ref b111), .unset, .unset] [(.int (((p1.toUInt32 >>> ((10 : Int32) &&& 31).toUInt32).toInt32) &&& (255 : Int32)))]) G
      refine Gl.via (fun _ k => XS.i2c X119.here hx rfl (hb hby at_34) rfl k) ?_
      show Gl p.tables e below T119 (mkF m 35 #[.val (.int p0), .val (.int p1), .val (.int (1 : Int32)), .val (.ref b111), .unset, .unset] [(.int ((((p1.toUInt32 >>> ((10 : Int32) &&& 31).toUInt32).toInt32) &&& (255 : Int32)).toUInt32.toUInt16.toUInt32.toInt32))]) G
      refine Gl.via (fun _ k => XS.istore X119.here hx rfl (hb hby at_35) rfl (l' := #[.val (.int p0), .val (.int p1), .val (.int (1 : Int32)), .val (.ref b111), .val (.int ((((p1.toUInt32 >>> ((10 : Int32) &&& 31).toUInt32).toInt32) &&& (255 : Int32)).toUInt32.toUInt16.toUInt32.toInt32)), .unset]) rfl k) ?_
      show Gl p.tables e below T119 (mkF m 37 #[.val (.int p0), .val (.int p1), .val (.int (1 : Int32)), .val (.ref b111), .val (.int ((((p1.toUInt32 >>> ((10 : Int32) &&& 31).toUInt32).toInt32) &&& (255 : Int32)).toUInt32.toUInt16.toUInt32.toInt32)), .unset] []) G
      refine Gl.via (fun _ k => XS.iloadN X119.here hx rfl (hb hby at_37) rfl k) ?_
      show Gl p.tables e below T119 (mkF m 38 #[.val (.int p0), .val (.int p1), .val (.int (1 : Int32)), .val (.ref b111), .val (.int ((((p1.toUInt32 >>> ((10 : Int32) &&& 31).toUInt32).toInt32) &&& (255 : Int32)).toUInt32.toUInt16.toUInt32.toInt32)), .unset] [(.int p1)]) G
      refine Gl.via (fun _ k => XS.bipush X119.here hx rfl (hb hby at_38) k) ?_
      show Gl p.tables e below T119 (mkF m 40 #[.val (.int p0), .val (.int p1), .val (.int (1 : Int32)), .val (.ref b111), .val (.int ((((p1.toUInt32 >>> ((10 : Int32) &&& 31).toUInt32).toInt32) &&& (255 : Int32)).toUInt32.toUInt16.toUInt32.toInt32)), .unset] [(.int (18 : Int32)), (.int p1)]) G
      refine Gl.via (fun _ k => XS.iushr X119.here hx rfl (hb hby at_40) rfl k) ?_
      show Gl p.tables e below T119 (mkF m 41 #[.val (.int p0), .val (.int p1), .val (.int (1 : Int32)), .val (.ref b111), .val (.int ((((p1.toUInt32 >>> ((10 : Int32) &&& 31).toUInt32).toInt32) &&& (255 : Int32)).toUInt32.toUInt16.toUInt32.toInt32)), .unset] [(.int ((p1.toUInt32 >>> ((18 : Int32) &&& 31).toUInt32).toInt32))]) G
      refine Gl.via (fun _ k => XS.sipush X119.here hx rfl (hb hby at_41) k) ?_
      show Gl p.tables e below T119 (mkF m 44 #[.val (.int p0), .val (.int p1), .val (.int (1 : Int32)), .val (.ref b111), .val (.int ((((p1.toUInt32 >>> ((10 : Int32) &&& 31).toUInt32).toInt32) &&& (255 : Int32)).toUInt32.toUInt16.toUInt32.toInt32)), .unset] [(.int (255 : Int32)), (.int ((p1.toUInt32 >>> ((18 : Int32) &&& 31).toUInt32).toInt32))]) G
      refine Gl.via (fun _ k => XS.iand X119.here hx rfl (hb hby at_44) rfl k) ?_
      show Gl p.tables e below T119 (mkF m 45 #[.val (.int p0), .val (.int p1), .val (.int (1 : Int32)), .val (.ref b111), .val (.int ((((p1.toUInt32 >>> ((10 : Int32) &&& 31).toUInt32).toInt32) &&& (255 : Int32)).toUInt32.toUInt16.toUInt32.toInt32)), .unset] [(.int (((p1.toUInt32 >>> ((18 : Int32) &&& 31).toUInt32).toInt32) &&& (255 : Int32)))]) G
      refine Gl.via (fun _ k => XS.i2c X119.here hx rfl (hb hby at_45) rfl k) ?_
      show Gl p.tables e below T119 (mkF m 46 #[.val (.int p0), .val (.int p1), .val (.int (1 : Int32)), .val (.ref b111), .val (.int ((((p1.toUInt32 >>> ((10 : Int32) &&& 31).toUInt32).toInt32) &&& (255 : Int32)).toUInt32.toUInt16.toUInt32.toInt32)), .unset] [(.int ((((p1.toUInt32 >>> ((18 : Int32) &&& 31).toUInt32).toInt32) &&& (255 : Int32)).toUInt32.toUInt16.toUInt32.toInt32))]) G
      refine Gl.via (fun _ k => XS.istore X119.here hx rfl (hb hby at_46) rfl (l' := #[.val (.int p0), .val (.int p1), .val (.int (1 : Int32)), .val (.ref b111), .val (.int ((((p1.toUInt32 >>> ((10 : Int32) &&& 31).toUInt32).toInt32) &&& (255 : Int32)).toUInt32.toUInt16.toUInt32.toInt32)), .val (.int ((((p1.toUInt32 >>> ((18 : Int32) &&& 31).toUInt32).toInt32) &&& (255 : Int32)).toUInt32.toUInt16.toUInt32.toInt32))]) rfl k) ?_
      show Gl p.tables e below T119 (mkF m 48 #[.val (.int p0), .val (.int p1), .val (.int (1 : Int32)), .val (.ref b111), .val (.int ((((p1.toUInt32 >>> ((10 : Int32) &&& 31).toUInt32).toInt32) &&& (255 : Int32)).toUInt32.toUInt16.toUInt32.toInt32)), .val (.int ((((p1.toUInt32 >>> ((18 : Int32) &&& 31).toUInt32).toInt32) &&& (255 : Int32)).toUInt32.toUInt16.toUInt32.toInt32))] []) G
      refine Gl.via (fun _ k => XS.aloadN X119.here hx rfl (hb hby at_48) rfl rfl k) ?_
      show Gl p.tables e below T119 (mkF m 49 #[.val (.int p0), .val (.int p1), .val (.int (1 : Int32)), .val (.ref b111), .val (.int ((((p1.toUInt32 >>> ((10 : Int32) &&& 31).toUInt32).toInt32) &&& (255 : Int32)).toUInt32.toUInt16.toUInt32.toInt32)), .val (.int ((((p1.toUInt32 >>> ((18 : Int32) &&& 31).toUInt32).toInt32) &&& (255 : Int32)).toUInt32.toUInt16.toUInt32.toInt32))] [(.ref b111)]) G
      obtain ⟨T145, h145, X145, e145, E145, A145, D145, -, st145⟩ := newO X119 hx hZ hown (hw _ (List.mem_of_getElem? (i := 26) rfl)) (hw _ (List.mem_of_getElem? (i := 27) rfl)) (hw _ (List.mem_of_getElem? (i := 28) rfl)) rfl (g := (mkF m 49 #[.val (.int p0), .val (.int p1), .val (.int (1 : Int32)), .val (.ref b111), .val (.int ((((p1.toUInt32 >>> ((10 : Int32) &&& 31).toUInt32).toInt32) &&& (255 : Int32)).toUInt32.toUInt16.toUInt32.toInt32)), .val (.int ((((p1.toUInt32 >>> ((18 : Int32) &&& 31).toUInt32).toInt32) &&& (255 : Int32)).toUInt32.toUInt16.toUInt32.toInt32))] [(.ref b111)])) rfl (hb hby at_49) (by decide) (by decide)
      obtain ⟨b145, g145⟩ : ∃ z, z = T119.heap.size := ⟨_, rfl⟩
      rw [← g145] at A145 D145 st145
      have ne146 : b111 ≠ b145 := Nat.ne_of_lt (Nat.lt_of_lt_of_le P121.lt (Nat.le_of_eq g145.symm))
      have ge147 : n0 ≤ b145 := Nat.le_trans Z125 (Nat.le_of_eq g145.symm)
      have gz148 : h0.size ≤ b145 := Nat.le_trans Y126 (Nat.le_of_eq g145.symm)
      refine Gl.via st145 ?_
      have Z149 : n0 ≤ h145.size := Nat.le_trans Z125 E145.1
      have Y150 : h0.size ≤ h145.size := Nat.le_trans Y126 E145.1
      have F151 : Fld Z h145 b145 "com/example/kereso/kereso/Search$Hit" "rank" "I" (.int (0 : Int32)) := D145 (Or.inr (hw _ (List.mem_of_getElem? (i := 63) rfl))) (ty := .int) (by decide)
      have F152 : Fld Z h145 b145 "com/example/kereso/kereso/Search$Hit" "score" "D" (.double (0 : UInt64)) := D145 (Or.inr (hw _ (List.mem_of_getElem? (i := 65) rfl))) (ty := .double) (by decide)
      have F153 : Fld Z h145 b145 "com/example/kereso/kereso/Search$Hit" "url" "Ljava/lang/String;" .null := D145 (Or.inr (hw _ (List.mem_of_getElem? (i := 67) rfl))) (ty := (.object "java/lang/String")) (by decide)
      have F154 : Fld Z h145 b145 "com/example/kereso/kereso/Search$Hit" "title" "Ljava/lang/String;" .null := D145 (Or.inr (hw _ (List.mem_of_getElem? (i := 69) rfl))) (ty := (.object "java/lang/String")) (by decide)
      show Gl p.tables e below T145 (mkF m 52 #[.val (.int p0), .val (.int p1), .val (.int (1 : Int32)), .val (.ref b111), .val (.int ((((p1.toUInt32 >>> ((10 : Int32) &&& 31).toUInt32).toInt32) &&& (255 : Int32)).toUInt32.toUInt16.toUInt32.toInt32)), .val (.int ((((p1.toUInt32 >>> ((18 : Int32) &&& 31).toUInt32).toInt32) &&& (255 : Int32)).toUInt32.toUInt16.toUInt32.toInt32))] [(.ref b145), (.ref b111)]) G
      refine Gl.via (fun _ k => XS.dup X145.here hx rfl (hb hby at_52) rfl rfl k) ?_
      show Gl p.tables e below T145 (mkF m 53 #[.val (.int p0), .val (.int p1), .val (.int (1 : Int32)), .val (.ref b111), .val (.int ((((p1.toUInt32 >>> ((10 : Int32) &&& 31).toUInt32).toInt32) &&& (255 : Int32)).toUInt32.toUInt16.toUInt32.toInt32)), .val (.int ((((p1.toUInt32 >>> ((18 : Int32) &&& 31).toUInt32).toInt32) &&& (255 : Int32)).toUInt32.toUInt16.toUInt32.toInt32))] [(.ref b145), (.ref b145), (.ref b111)]) G
      refine Gl.via (fun _ k => XS.iloadN X145.here hx rfl (hb hby at_53) rfl k) ?_
      show Gl p.tables e below T145 (mkF m 54 #[.val (.int p0), .val (.int p1), .val (.int (1 : Int32)), .val (.ref b111), .val (.int ((((p1.toUInt32 >>> ((10 : Int32) &&& 31).toUInt32).toInt32) &&& (255 : Int32)).toUInt32.toUInt16.toUInt32.toInt32)), .val (.int ((((p1.toUInt32 >>> ((18 : Int32) &&& 31).toUInt32).toInt32) &&& (255 : Int32)).toUInt32.toUInt16.toUInt32.toInt32))] [(.int p0), (.ref b145), (.ref b145), (.ref b111)]) G
      refine Gl.via (fun _ k => XS.iloadN X145.here hx rfl (hb hby at_54) rfl k) ?_
      show Gl p.tables e below T145 (mkF m 55 #[.val (.int p0), .val (.int p1), .val (.int (1 : Int32)), .val (.ref b111), .val (.int ((((p1.toUInt32 >>> ((10 : Int32) &&& 31).toUInt32).toInt32) &&& (255 : Int32)).toUInt32.toUInt16.toUInt32.toInt32)), .val (.int ((((p1.toUInt32 >>> ((18 : Int32) &&& 31).toUInt32).toInt32) &&& (255 : Int32)).toUInt32.toUInt16.toUInt32.toInt32))] [(.int p1), (.int p0), (.ref b145), (.ref b145), (.ref b111)]) G
      refine Gl.via (fun _ k => XS.iconst X145.here hx rfl (hb hby at_55) k) ?_
      show Gl p.tables e below T145 (mkF m 56 #[.val (.int p0), .val (.int p1), .val (.int (1 : Int32)), .val (.ref b111), .val (.int ((((p1.toUInt32 >>> ((10 : Int32) &&& 31).toUInt32).toInt32) &&& (255 : Int32)).toUInt32.toUInt16.toUInt32.toInt32)), .val (.int ((((p1.toUInt32 >>> ((18 : Int32) &&& 31).toUInt32).toInt32) &&& (255 : Int32)).toUInt32.toUInt16.toUInt32.toInt32))] [(.int (2 : Int32)), (.int p1), (.int p0), (.ref b145), (.ref b145), (.ref b111)]) G
      refine Gl.via (fun _ k => XS.iushr X145.here hx rfl (hb hby at_56) rfl k) ?_
      show Gl p.tables e below T145 (mkF m 57 #[.val (.int p0), .val (.int p1), .val (.int (1 : Int32)), .val (.ref b111), .val (.int ((((p1.toUInt32 >>> ((10 : Int32) &&& 31).toUInt32).toInt32) &&& (255 : Int32)).toUInt32.toUInt16.toUInt32.toInt32)), .val (.int ((((p1.toUInt32 >>> ((18 : Int32) &&& 31).toUInt32).toInt32) &&& (255 : Int32)).toUInt32.toUInt16.toUInt32.toInt32))] [(.int ((p1.toUInt32 >>> ((2 : Int32) &&& 31).toUInt32).toInt32)), (.int p0), (.ref b145), (.ref b145), (.ref b111)]) G
      refine Gl.via (fun _ k => XS.sipush X145.here hx rfl (hb hby at_57) k) ?_
      show Gl p.tables e below T145 (mkF m 60 #[.val (.int p0), .val (.int p1), .val (.int (1 : Int32)), .val (.ref b111), .val (.int ((((p1.toUInt32 >>> ((10 : Int32) &&& 31).toUInt32).toInt32) &&& (255 : Int32)).toUInt32.toUInt16.toUInt32.toInt32)), .val (.int ((((p1.toUInt32 >>> ((18 : Int32) &&& 31).toUInt32).toInt32) &&& (255 : Int32)).toUInt32.toUInt16.toUInt32.toInt32))] [(.int (255 : Int32)), (.int ((p1.toUInt32 >>> ((2 : Int32) &&& 31).toUInt32).toInt32)), (.int p0), (.ref b145), (.ref b145), (.ref b111)]) G
      refine Gl.via (fun _ k => XS.iand X145.here hx rfl (hb hby at_60) rfl k) ?_
      show Gl p.tables e below T145 (mkF m 61 #[.val (.int p0), .val (.int p1), .val (.int (1 : Int32)), .val (.ref b111), .val (.int ((((p1.toUInt32 >>> ((10 : Int32) &&& 31).toUInt32).toInt32) &&& (255 : Int32)).toUInt32.toUInt16.toUInt32.toInt32)), .val (.int ((((p1.toUInt32 >>> ((18 : Int32) &&& 31).toUInt32).toInt32) &&& (255 : Int32)).toUInt32.toUInt16.toUInt32.toInt32))] [(.int (((p1.toUInt32 >>> ((2 : Int32) &&& 31).toUInt32).toInt32) &&& (255 : Int32))), (.int p0), (.ref b145), (.ref b145), (.ref b111)]) G
      refine Gl.via (fun _ k => XS.i2dS X145.here hx rfl (hb hby at_61) rfl rfl k) ?_
      show Gl p.tables e below T145 (mkF m 62 #[.val (.int p0), .val (.int p1), .val (.int (1 : Int32)), .val (.ref b111), .val (.int ((((p1.toUInt32 >>> ((10 : Int32) &&& 31).toUInt32).toInt32) &&& (255 : Int32)).toUInt32.toUInt16.toUInt32.toInt32)), .val (.int ((((p1.toUInt32 >>> ((18 : Int32) &&& 31).toUInt32).toInt32) &&& (255 : Int32)).toUInt32.toUInt16.toUInt32.toInt32))] [(.double (FP.i2d (((p1.toUInt32 >>> ((2 : Int32) &&& 31).toUInt32).toInt32) &&& (255 : Int32)))), (.int p0), (.ref b145), (.ref b145), (.ref b111)]) G
      refine Gl.via (fun _ k => XS.iload X145.here hx rfl (hb hby at_62) rfl k) ?_
      show Gl p.tables e below T145 (mkF m 64 #[.val (.int p0), .val (.int p1), .val (.int (1 : Int32)), .val (.ref b111), .val (.int ((((p1.toUInt32 >>> ((10 : Int32) &&& 31).toUInt32).toInt32) &&& (255 : Int32)).toUInt32.toUInt16.toUInt32.toInt32)), .val (.int ((((p1.toUInt32 >>> ((18 : Int32) &&& 31).toUInt32).toInt32) &&& (255 : Int32)).toUInt32.toUInt16.toUInt32.toInt32))] [(.int ((((p1.toUInt32 >>> ((10 : Int32) &&& 31).toUInt32).toInt32) &&& (255 : Int32)).toUInt32.toUInt16.toUInt32.toInt32)), (.double (FP.i2d (((p1.toUInt32 >>> ((2 : Int32) &&& 31).toUInt32).toInt32) &&& (255 : Int32)))), (.int p0), (.ref b145), (.ref b145), (.ref b111)]) G
      have G156 : Old Z n0 h145 := ((G120.keep K119 (allS ge112 all0)).ext E145)
      obtain ⟨_, _, ⟨T155, L155, k155, n155⟩, -, X155, ⟨Lc155, hQ155, l155, y155, z155⟩, st155⟩ := Jvm.LawKit.callS X145 hx (y := (⟨"java/lang/String", "valueOf", "(C)Ljava/lang/String;"⟩ : MethodName)) hown (mvT hZ (hw _ (List.mem_of_getElem? (i := 29) rfl))) (mvT hZ (hw _ (List.mem_of_getElem? (i := 30) rfl))) (mvT hZ (hw _ (List.mem_of_getElem? (i := 31) rfl))) (mvT hZ (hw _ (List.mem_of_getElem? (i := 32) rfl))) (by decide) (backOf (W := 6) (vof l Z a0 hw [] ((((p1.toUInt32 >>> ((10 : Int32) &&& 31).toUInt32).toInt32) &&& (255 : Int32)).toUInt32.toUInt16.toUInt32.toInt32) cs h145 n0 Z149 F0_java_lang_String G156 hcs (own_chr _)) hZ (hw _ (List.mem_of_getElem? (i := 32) rfl)) (hw _ (List.mem_of_getElem? (i := 31) rfl)) (by decide) (by decide)) (g := (mkF m 64 #[.val (.int p0), .val (.int p1), .val (.int (1 : Int32)), .val (.ref b111), .val (.int ((((p1.toUInt32 >>> ((10 : Int32) &&& 31).toUInt32).toInt32) &&& (255 : Int32)).toUInt32.toUInt16.toUInt32.toInt32)), .val (.int ((((p1.toUInt32 >>> ((18 : Int32) &&& 31).toUInt32).toInt32) &&& (255 : Int32)).toUInt32.toUInt16.toUInt32.toInt32))] [(.int ((((p1.toUInt32 >>> ((10 : Int32) &&& 31).toUInt32).toInt32) &&& (255 : Int32)).toUInt32.toUInt16.toUInt32.toInt32)), (.double (FP.i2d (((p1.toUInt32 >>> ((2 : Int32) &&& 31).toUInt32).toInt32) &&& (255 : Int32)))), (.int p0), (.ref b145), (.ref b145), (.ref b111)])) rfl (by rw [hml]; rfl) (argsL := [(.int ((((p1.toUInt32 >>> ((10 : Int32) &&& 31).toUInt32).toInt32) &&& (255 : Int32)).toUInt32.toUInt16.toUInt32.toInt32))]) (rest := [(.double (FP.i2d (((p1.toUInt32 >>> ((2 : Int32) &&& 31).toUInt32).toInt32) &&& (255 : Int32)))), (.int p0), (.ref b145), (.ref b145), (.ref b111)]) (lenOf pd_11 rfl) rfl (by show 2 * 0 + _ ≤ _; exact Nat.le_of_eq rfl) (hb hby at_64) (fun _ _ => ⟨rfl, e145, (by decide : 2 + 2 ≤ _), (by decide : 7 + 5 ≤ _)⟩)
      dsimp only [Pt.U, Pt.locs, Pt.cells, Pt.slots] at X155 l155 y155 z155 st155 hQ155
      subst l155 y155 z155
      obtain ⟨b_155, rfl, N155q, K155, P157, R158⟩ := hQ155
      have N155_ := Fr.app N119_ N155q
      refine Gl.via (fun _ k => st155 _ k) ?_
      have G159 : Exa Z h145 b111 "java/util/ArrayList" := (P121.ext E145)
      have ne160 : b111 ≠ b_155 := Nat.ne_of_lt (Nat.lt_of_lt_of_le G159.lt R158)
      have ne161 : b145 ≠ b_155 := Nat.ne_of_lt (Nat.lt_of_lt_of_le A145.lt R158)
      have ge162 : n0 ≤ b_155 := Nat.le_trans Z149 R158
      have gz163 : h0.size ≤ b_155 := Nat.le_trans Y150 R158
      have Z164 : n0 ≤ T155.heap.size := Nat.le_trans Z149 K155.1
      have Y165 : h0.size ≤ T155.heap.size := Nat.le_trans Y150 K155.1
      show Gl p.tables e below T155 (mkF m 67 #[.val (.int p0), .val (.int p1), .val (.int (1 : Int32)), .val (.ref b111), .val (.int ((((p1.toUInt32 >>> ((10 : Int32) &&& 31).toUInt32).toInt32) &&& (255 : Int32)).toUInt32.toUInt16.toUInt32.toInt32)), .val (.int ((((p1.toUInt32 >>> ((18 : Int32) &&& 31).toUInt32).toInt32) &&& (255 : Int32)).toUInt32.toUInt16.toUInt32.toInt32))] [(.ref b_155), (.double (FP.i2d (((p1.toUInt32 >>> ((2 : Int32) &&& 31).toUInt32).toInt32) &&& (255 : Int32)))), (.int p0), (.ref b145), (.ref b145), (.ref b111)]) G
      refine Gl.via (fun _ k => XS.iload X155.here hx rfl (hb hby at_67) rfl k) ?_
      show Gl p.tables e below T155 (mkF m 69 #[.val (.int p0), .val (.int p1), .val (.int (1 : Int32)), .val (.ref b111), .val (.int ((((p1.toUInt32 >>> ((10 : Int32) &&& 31).toUInt32).toInt32) &&& (255 : Int32)).toUInt32.toUInt16.toUInt32.toInt32)), .val (.int ((((p1.toUInt32 >>> ((18 : Int32) &&& 31).toUInt32).toInt32) &&& (255 : Int32)).toUInt32.toUInt16.toUInt32.toInt32))] [(.int ((((p1.toUInt32 >>> ((18 : Int32) &&& 31).toUInt32).toInt32) &&& (255 : Int32)).toUInt32.toUInt16.toUInt32.toInt32)), (.ref b_155), (.double (FP.i2d (((p1.toUInt32 >>> ((2 : Int32) &&& 31).toUInt32).toInt32) &&& (255 : Int32)))), (.int p0), (.ref b145), (.ref b145), (.ref b111)]) G
      have G167 : Old Z n0 T155.heap := (G156.keep K155 all0)
      obtain ⟨_, _, ⟨T166, L166, k166, n166⟩, -, X166, ⟨Lc166, hQ166, l166, y166, z166⟩, st166⟩ := Jvm.LawKit.callS X155 hx (y := (⟨"java/lang/String", "valueOf", "(C)Ljava/lang/String;"⟩ : MethodName)) hown (mvT hZ (hw _ (List.mem_of_getElem? (i := 29) rfl))) (mvT hZ (hw _ (List.mem_of_getElem? (i := 30) rfl))) (mvT hZ (hw _ (List.mem_of_getElem? (i := 31) rfl))) (mvT hZ (hw _ (List.mem_of_getElem? (i := 32) rfl))) (by decide) (backOf (W := 7) (vof l Z a0 hw [] ((((p1.toUInt32 >>> ((18 : Int32) &&& 31).toUInt32).toInt32) &&& (255 : Int32)).toUInt32.toUInt16.toUInt32.toInt32) cs T155.heap n0 Z164 F0_java_lang_String G167 hcs (own_chr _)) hZ (hw _ (List.mem_of_getElem? (i := 32) rfl)) (hw _ (List.mem_of_getElem? (i := 31) rfl)) (by decide) (by decide)) (g := (mkF m 69 #[.val (.int p0), .val (.int p1), .val (.int (1 : Int32)), .val (.ref b111), .val (.int ((((p1.toUInt32 >>> ((10 : Int32) &&& 31).toUInt32).toInt32) &&& (255 : Int32)).toUInt32.toUInt16.toUInt32.toInt32)), .val (.int ((((p1.toUInt32 >>> ((18 : Int32) &&& 31).toUInt32).toInt32) &&& (255 : Int32)).toUInt32.toUInt16.toUInt32.toInt32))] [(.int ((((p1.toUInt32 >>> ((18 : Int32) &&& 31).toUInt32).toInt32) &&& (255 : Int32)).toUInt32.toUInt16.toUInt32.toInt32)), (.ref b_155), (.double (FP.i2d (((p1.toUInt32 >>> ((2 : Int32) &&& 31).toUInt32).toInt32) &&& (255 : Int32)))), (.int p0), (.ref b145), (.ref b145), (.ref b111)])) rfl (by rw [hml]; rfl) (argsL := [(.int ((((p1.toUInt32 >>> ((18 : Int32) &&& 31).toUInt32).toInt32) &&& (255 : Int32)).toUInt32.toUInt16.toUInt32.toInt32))]) (rest := [(.ref b_155), (.double (FP.i2d (((p1.toUInt32 >>> ((2 : Int32) &&& 31).toUInt32).toInt32) &&& (255 : Int32)))), (.int p0), (.ref b145), (.ref b145), (.ref b111)]) (lenOf pd_11 rfl) rfl (by show 2 * 0 + _ ≤ _; exact Nat.le_of_eq rfl) (hb hby at_69) (fun _ _ => ⟨rfl, rfl, (by decide : 4 + 2 ≤ _), (by decide : 12 + 5 ≤ _)⟩)
      dsimp only [Pt.U, Pt.locs, Pt.cells, Pt.slots] at X166 l166 y166 z166 st166 hQ166
      subst l166 y166 z166
      obtain ⟨b_166, rfl, N166q, K166, P168, R169⟩ := hQ166
      have N166_ := Fr.app N155_ N166q
      refine Gl.via (fun _ k => st166 _ k) ?_
      have G170 : Exa Z T155.heap b111 "java/util/ArrayList" := (G159.keep K155)
      have ne171 : b111 ≠ b_166 := Nat.ne_of_lt (Nat.lt_of_lt_of_le G170.lt R169)
      have G172 : Exa Z T155.heap b145 "com/example/kereso/kereso/Search$Hit" := (A145.keep K155)
      have ne173 : b145 ≠ b_166 := Nat.ne_of_lt (Nat.lt_of_lt_of_le G172.lt R169)
      have ne174 : b_155 ≠ b_166 := Nat.ne_of_lt (Nat.lt_of_lt_of_le P157.lt R169)
      have ge175 : n0 ≤ b_166 := Nat.le_trans Z164 R169
      have gz176 : h0.size ≤ b_166 := Nat.le_trans Y165 R169
      have Z177 : n0 ≤ T166.heap.size := Nat.le_trans Z164 K166.1
      have Y178 : h0.size ≤ T166.heap.size := Nat.le_trans Y165 K166.1
      show Gl p.tables e below T166 (mkF m 72 #[.val (.int p0), .val (.int p1), .val (.int (1 : Int32)), .val (.ref b111), .val (.int ((((p1.toUInt32 >>> ((10 : Int32) &&& 31).toUInt32).toInt32) &&& (255 : Int32)).toUInt32.toUInt16.toUInt32.toInt32)), .val (.int ((((p1.toUInt32 >>> ((18 : Int32) &&& 31).toUInt32).toInt32) &&& (255 : Int32)).toUInt32.toUInt16.toUInt32.toInt32))] [(.ref b_166), (.ref b_155), (.double (FP.i2d (((p1.toUInt32 >>> ((2 : Int32) &&& 31).toUInt32).toInt32) &&& (255 : Int32)))), (.int p0), (.ref b145), (.ref b145), (.ref b111)]) G
      have G180 : Exa Z T166.heap b145 "com/example/kereso/kereso/Search$Hit" := (G172.keep K166)
      have G181 : Fld Z T166.heap b145 "com/example/kereso/kereso/Search$Hit" "rank" "I" (.int (0 : Int32)) := ((F151.keep K155 nin0).keep K166 nin0)
      have G182 : Fld Z T166.heap b145 "com/example/kereso/kereso/Search$Hit" "score" "D" (.double (0 : UInt64)) := ((F152.keep K155 nin0).keep K166 nin0)
      have G183 : Fld Z T166.heap b145 "com/example/kereso/kereso/Search$Hit" "url" "Ljava/lang/String;" .null := ((F153.keep K155 nin0).keep K166 nin0)
      have G184 : Fld Z T166.heap b145 "com/example/kereso/kereso/Search$Hit" "title" "Ljava/lang/String;" .null := ((F154.keep K155 nin0).keep K166 nin0)
      obtain ⟨_, _, ⟨T179, L179, k179, n179⟩, -, X179, ⟨Lc179, hQ179, l179, y179, z179⟩, st179⟩ := X166.specialBack hx (y := (⟨"com/example/kereso/kereso/Search$Hit", "<init>", "(IDLjava/lang/String;Ljava/lang/String;)V"⟩ : MethodName)) rfl hown (mvT hZ (hw _ (List.mem_of_getElem? (i := 53) rfl))) (mvT hZ (hw _ (List.mem_of_getElem? (i := 54) rfl))) (mvT hZ (hw _ (List.mem_of_getElem? (i := 55) rfl))) (by decide) (backOf (W := 2) (h_init l Z a0 hw [] b145 p0 (FP.i2d (((p1.toUInt32 >>> ((2 : Int32) &&& 31).toUInt32).toInt32) &&& (255 : Int32))) b_155 b_166 (.int (0 : Int32)) (.double (0 : UInt64)) .null .null T166.heap n0 Z177 G180 G181 G182 G183 G184 ge147) hZ (hw _ (List.mem_of_getElem? (i := 55) rfl)) (hw _ (List.mem_of_getElem? (i := 28) rfl)) (by decide) (by decide)) (g := (mkF m 72 #[.val (.int p0), .val (.int p1), .val (.int (1 : Int32)), .val (.ref b111), .val (.int ((((p1.toUInt32 >>> ((10 : Int32) &&& 31).toUInt32).toInt32) &&& (255 : Int32)).toUInt32.toUInt16.toUInt32.toInt32)), .val (.int ((((p1.toUInt32 >>> ((18 : Int32) &&& 31).toUInt32).toInt32) &&& (255 : Int32)).toUInt32.toUInt16.toUInt32.toInt32))] [(.ref b_166), (.ref b_155), (.double (FP.i2d (((p1.toUInt32 >>> ((2 : Int32) &&& 31).toUInt32).toInt32) &&& (255 : Int32)))), (.int p0), (.ref b145), (.ref b145), (.ref b111)])) rfl (by rw [hml]; rfl) (Steps.refl _) (a := b145) (argsL := [(.int p0), (.double (FP.i2d (((p1.toUInt32 >>> ((2 : Int32) &&& 31).toUInt32).toInt32) &&& (255 : Int32)))), (.ref b_155), (.ref b_166)]) (rest := [(.ref b145), (.ref b111)]) (lenOf pd_12 rfl) rfl (by show 2 * 0 + _ ≤ _; exact Nat.le_of_eq rfl) (hb hby at_72) (fun _ _ => ⟨rfl, rfl, (by decide : 6 + 0 ≤ _), (by decide : 17 + 0 ≤ _)⟩)
      dsimp only [Pt.U, Pt.locs, Pt.cells, Pt.slots] at X179 l179 y179 z179 st179 hQ179
      subst l179 y179 z179
      obtain ⟨rfl, N179q, K179, P185⟩ := hQ179
      have N179_ := Fr.app N166_ N179q
      refine Gl.via (fun _ k => st179.trans k) ?_
      have Z186 : n0 ≤ T179.heap.size := Nat.le_trans Z177 K179.1
      have Y187 : h0.size ≤ T179.heap.size := Nat.le_trans Y178 K179.1
      show Gl p.tables e below T179 (mkF m 75 #[.val (.int p0), .val (.int p1), .val (.int (1 : Int32)), .val (.ref b111), .val (.int ((((p1.toUInt32 >>> ((10 : Int32) &&& 31).toUInt32).toInt32) &&& (255 : Int32)).toUInt32.toUInt16.toUInt32.toInt32)), .val (.int ((((p1.toUInt32 >>> ((18 : Int32) &&& 31).toUInt32).toInt32) &&& (255 : Int32)).toUInt32.toUInt16.toUInt32.toInt32))] [(.ref b145), (.ref b111)]) G
      have G189 : Exa Z T179.heap b111 "java/util/ArrayList" := ((G170.keep K166).keep K179)
      have G190 : Fld Z T179.heap b111 "java/util/AbstractList" "modCount" "I" (.int (0 : Int32)) := ((((P122.ext E145).keep K155 nin0).keep K166 nin0).keep K179 (ninS ne146 nin0))
      have G191 : Fld Z T179.heap b111 "java/util/ArrayList" "elementData" "[Ljava/lang/Object;" (.ref da) := ((((P123.ext E145).keep K155 nin0).keep K166 nin0).keep K179 (ninS ne146 nin0))
      have G192 : Fld Z T179.heap b111 "java/util/ArrayList" "size" "I" (.int (0 : Int32)) := ((((P124.ext E145).keep K155 nin0).keep K166 nin0).keep K179 (ninS ne146 nin0))
      have G193 : Old Z n0 T179.heap := ((G167.keep K166 all0).keep K179 (allS ge147 all0))
      obtain ⟨cq188, kq188, q188a, q188b, q188c⟩ := isOf hZ rfl G189
      obtain ⟨_, _, ⟨T188, L188, k188, n188⟩, -, X188, ⟨Lc188, hQ188, l188, y188, z188⟩, st188⟩ := X179.interfaceBack hx (xi := (⟨"java/util/List", "add", "(Ljava/lang/Object;)Z"⟩ : MethodName)) (y := (⟨"java/util/ArrayList", "add", "(Ljava/lang/Object;)Z"⟩ : MethodName)) hown (mvT hZ (hw _ (List.mem_of_getElem? (i := 70) rfl))) (mvT hZ (hw _ (List.mem_of_getElem? (i := 71) rfl))) (mvT hZ (hw _ (List.mem_of_getElem? (i := 72) rfl))) (mvT hZ (hw _ (List.mem_of_getElem? (i := 73) rfl))) (mvT hZ (hw _ (List.mem_of_getElem? (i := 74) rfl))) (mvT hZ (hw _ (List.mem_of_getElem? (i := 75) rfl))) (mvT hZ (hw _ (List.mem_of_getElem? (i := 76) rfl))) (mvT hZ (hw _ (List.mem_of_getElem? (i := 77) rfl))) (by decide) (backOf (W := 0) (add1 l Z a0 hw [] b111 da dk (0 : Int32) b145 T179.heap n0 Z186 G189 G190 G191 G192 F1_java_util_ArrayList F2_da G193 P185 ge112) hZ (hw _ (List.mem_of_getElem? (i := 78) rfl)) (hw _ (List.mem_of_getElem? (i := 2) rfl)) (by decide) (by decide)) q188a q188b q188c (g := (mkF m 75 #[.val (.int p0), .val (.int p1), .val (.int (1 : Int32)), .val (.ref b111), .val (.int ((((p1.toUInt32 >>> ((10 : Int32) &&& 31).toUInt32).toInt32) &&& (255 : Int32)).toUInt32.toUInt16.toUInt32.toInt32)), .val (.int ((((p1.toUInt32 >>> ((18 : Int32) &&& 31).toUInt32).toInt32) &&& (255 : Int32)).toUInt32.toUInt16.toUInt32.toInt32))] [(.ref b145), (.ref b111)])) rfl (by rw [hml]; rfl) (Steps.refl _) (argsL := [(.ref b145)]) (rest := []) (lenOf pd_13 rfl) rfl (by show 2 * 0 + _ ≤ _; exact Nat.le_of_eq rfl) (hb hby at_75) (fun _ _ => ⟨rfl, rfl, (by decide : 6 + 1 ≤ _), (by decide : 17 + 10 ≤ _)⟩)
      dsimp only [Pt.U, Pt.locs, Pt.cells, Pt.slots] at X188 l188 y188 z188 st188 hQ188
      subst l188 y188 z188
      obtain ⟨rfl, N188q, K188, P194⟩ := hQ188
      have N188_ := Fr.app N179_ N188q
      refine Gl.via (fun _ k => st188.trans k) ?_
      have Z195 : n0 ≤ T188.heap.size := Nat.le_trans Z186 K188.1
      have Y196 : h0.size ≤ T188.heap.size := Nat.le_trans Y187 K188.1
      show Gl p.tables e below T188 (mkF m 80 #[.val (.int p0), .val (.int p1), .val (.int (1 : Int32)), .val (.ref b111), .val (.int ((((p1.toUInt32 >>> ((10 : Int32) &&& 31).toUInt32).toInt32) &&& (255 : Int32)).toUInt32.toUInt16.toUInt32.toInt32)), .val (.int ((((p1.toUInt32 >>> ((18 : Int32) &&& 31).toUInt32).toInt32) &&& (255 : Int32)).toUInt32.toUInt16.toUInt32.toInt32))] [(.int (1 : Int32))]) G
      refine Gl.via (fun _ k => XS.pop X188.here hx rfl (hb hby at_80) rfl rfl k) ?_
      show Gl p.tables e below T188 (mkF m 81 #[.val (.int p0), .val (.int p1), .val (.int (1 : Int32)), .val (.ref b111), .val (.int ((((p1.toUInt32 >>> ((10 : Int32) &&& 31).toUInt32).toInt32) &&& (255 : Int32)).toUInt32.toUInt16.toUInt32.toInt32)), .val (.int ((((p1.toUInt32 >>> ((18 : Int32) &&& 31).toUInt32).toInt32) &&& (255 : Int32)).toUInt32.toUInt16.toUInt32.toInt32))] []) G
      obtain ⟨T197, h197, X197, e197, E197, A197, D197, -, st197⟩ := newO X188 hx hZ hown (hw _ (List.mem_of_getElem? (i := 105) rfl)) (hw _ (List.mem_of_getElem? (i := 106) rfl)) (hw _ (List.mem_of_getElem? (i := 107) rfl)) rfl (g := (mkF m 81 #[.val (.int p0), .val (.int p1), .val (.int (1 : Int32)), .val (.ref b111), .val (.int ((((p1.toUInt32 >>> ((10 : Int32) &&& 31).toUInt32).toInt32) &&& (255 : Int32)).toUInt32.toUInt16.toUInt32.toInt32)), .val (.int ((((p1.toUInt32 >>> ((18 : Int32) &&& 31).toUInt32).toInt32) &&& (255 : Int32)).toUInt32.toUInt16.toUInt32.toInt32))] [])) rfl (hb hby at_81) (by decide) (by decide)
      obtain ⟨b197, g197⟩ : ∃ z, z = T188.heap.size := ⟨_, rfl⟩
      rw [← g197] at A197 D197 st197
      have ne198 : b111 ≠ b197 := Nat.ne_of_lt (Nat.lt_of_lt_of_le P194.lt (Nat.le_of_eq g197.symm))
      have G199 : Exa Z T188.heap b145 "com/example/kereso/kereso/Search$Hit" := (P185.keep K188)
      have ne200 : b145 ≠ b197 := Nat.ne_of_lt (Nat.lt_of_lt_of_le G199.lt (Nat.le_of_eq g197.symm))
      have G201 : Exa Z T188.heap b_155 "java/lang/String" := (((P157.keep K166).keep K179).keep K188)
      have ne202 : b_155 ≠ b197 := Nat.ne_of_lt (Nat.lt_of_lt_of_le G201.lt (Nat.le_of_eq g197.symm))
      have G203 : Exa Z T188.heap b_166 "java/lang/String" := ((P168.keep K179).keep K188)
      have ne204 : b_166 ≠ b197 := Nat.ne_of_lt (Nat.lt_of_lt_of_le G203.lt (Nat.le_of_eq g197.symm))
      have ge205 : n0 ≤ b197 := Nat.le_trans Z195 (Nat.le_of_eq g197.symm)
      have gz206 : h0.size ≤ b197 := Nat.le_trans Y196 (Nat.le_of_eq g197.symm)
      refine Gl.via st197 ?_
      have Z207 : n0 ≤ h197.size := Nat.le_trans Z195 E197.1
      have Y208 : h0.size ≤ h197.size := Nat.le_trans Y196 E197.1
      have F209 : Fld Z h197 b197 "com/example/kereso/kereso/Search$ResultPage" "number" "I" (.int (0 : Int32)) := D197 (Or.inr (hw _ (List.mem_of_getElem? (i := 113) rfl))) (ty := .int) (by decide)
      have F210 : Fld Z h197 b197 "com/example/kereso/kereso/Search$ResultPage" "hits" "Ljava/util/List;" .null := D197 (Or.inr (hw _ (List.mem_of_getElem? (i := 115) rfl))) (ty := (.object "java/util/List")) (by decide)
      have F211 : Fld Z h197 b197 "com/example/kereso/kereso/Search$ResultPage" "hasNext" "Z" (.int (0 : Int32)) := D197 (Or.inr (hw _ (List.mem_of_getElem? (i := 117) rfl))) (ty := .boolean) (by decide)
      show Gl p.tables e below T197 (mkF m 84 #[.val (.int p0), .val (.int p1), .val (.int (1 : Int32)), .val (.ref b111), .val (.int ((((p1.toUInt32 >>> ((10 : Int32) &&& 31).toUInt32).toInt32) &&& (255 : Int32)).toUInt32.toUInt16.toUInt32.toInt32)), .val (.int ((((p1.toUInt32 >>> ((18 : Int32) &&& 31).toUInt32).toInt32) &&& (255 : Int32)).toUInt32.toUInt16.toUInt32.toInt32))] [(.ref b197)]) G
      refine Gl.via (fun _ k => XS.dup X197.here hx rfl (hb hby at_84) rfl rfl k) ?_
      show Gl p.tables e below T197 (mkF m 85 #[.val (.int p0), .val (.int p1), .val (.int (1 : Int32)), .val (.ref b111), .val (.int ((((p1.toUInt32 >>> ((10 : Int32) &&& 31).toUInt32).toInt32) &&& (255 : Int32)).toUInt32.toUInt16.toUInt32.toInt32)), .val (.int ((((p1.toUInt32 >>> ((18 : Int32) &&& 31).toUInt32).toInt32) &&& (255 : Int32)).toUInt32.toUInt16.toUInt32.toInt32))] [(.ref b197), (.ref b197)]) G
      refine Gl.via (fun _ k => XS.iloadN X197.here hx rfl (hb hby at_85) rfl k) ?_
      show Gl p.tables e below T197 (mkF m 86 #[.val (.int p0), .val (.int p1), .val (.int (1 : Int32)), .val (.ref b111), .val (.int ((((p1.toUInt32 >>> ((10 : Int32) &&& 31).toUInt32).toInt32) &&& (255 : Int32)).toUInt32.toUInt16.toUInt32.toInt32)), .val (.int ((((p1.toUInt32 >>> ((18 : Int32) &&& 31).toUInt32).toInt32) &&& (255 : Int32)).toUInt32.toUInt16.toUInt32.toInt32))] [(.int p0), (.ref b197), (.ref b197)]) G
      refine Gl.via (fun _ k => XS.aloadN X197.here hx rfl (hb hby at_86) rfl rfl k) ?_
      show Gl p.tables e below T197 (mkF m 87 #[.val (.int p0), .val (.int p1), .val (.int (1 : Int32)), .val (.ref b111), .val (.int ((((p1.toUInt32 >>> ((10 : Int32) &&& 31).toUInt32).toInt32) &&& (255 : Int32)).toUInt32.toUInt16.toUInt32.toInt32)), .val (.int ((((p1.toUInt32 >>> ((18 : Int32) &&& 31).toUInt32).toInt32) &&& (255 : Int32)).toUInt32.toUInt16.toUInt32.toInt32))] [(.ref b111), (.int p0), (.ref b197), (.ref b197)]) G
      refine Gl.via (fun _ k => XS.iloadN X197.here hx rfl (hb hby at_87) rfl k) ?_
      show Gl p.tables e below T197 (mkF m 88 #[.val (.int p0), .val (.int p1), .val (.int (1 : Int32)), .val (.ref b111), .val (.int ((((p1.toUInt32 >>> ((10 : Int32) &&& 31).toUInt32).toInt32) &&& (255 : Int32)).toUInt32.toUInt16.toUInt32.toInt32)), .val (.int ((((p1.toUInt32 >>> ((18 : Int32) &&& 31).toUInt32).toInt32) &&& (255 : Int32)).toUInt32.toUInt16.toUInt32.toInt32))] [(.int (1 : Int32)), (.ref b111), (.int p0), (.ref b197), (.ref b197)]) G
      obtain ⟨_, _, ⟨T212, L212, k212, n212⟩, -, X212, ⟨Lc212, hQ212, l212, y212, z212⟩, st212⟩ := X197.specialBack hx (y := (⟨"com/example/kereso/kereso/Search$ResultPage", "<init>", "(ILjava/util/List;Z)V"⟩ : MethodName)) rfl hown (mvT hZ (hw _ (List.mem_of_getElem? (i := 108) rfl))) (mvT hZ (hw _ (List.mem_of_getElem? (i := 109) rfl))) (mvT hZ (hw _ (List.mem_of_getElem? (i := 110) rfl))) (by decide) (backOf (W := 1) (p_init l Z a0 hw [] b197 p0 b111 (1 : Int32) (.int (0 : Int32)) .null (.int (0 : Int32)) h197 n0 Z207 A197 F209 F210 F211 ge205 (by first | assumption | rfl | decide | omega) (by first | assumption | rfl | decide | omega)) hZ (hw _ (List.mem_of_getElem? (i := 110) rfl)) (hw _ (List.mem_of_getElem? (i := 107) rfl)) (by decide) (by decide)) (g := (mkF m 88 #[.val (.int p0), .val (.int p1), .val (.int (1 : Int32)), .val (.ref b111), .val (.int ((((p1.toUInt32 >>> ((10 : Int32) &&& 31).toUInt32).toInt32) &&& (255 : Int32)).toUInt32.toUInt16.toUInt32.toInt32)), .val (.int ((((p1.toUInt32 >>> ((18 : Int32) &&& 31).toUInt32).toInt32) &&& (255 : Int32)).toUInt32.toUInt16.toUInt32.toInt32))] [(.int (1 : Int32)), (.ref b111), (.int p0), (.ref b197), (.ref b197)])) rfl (by rw [hml]; rfl) (Steps.refl _) (a := b197) (argsL := [(.int p0), (.ref b111), (.int (1 : Int32))]) (rest := [(.ref b197)]) (lenOf pd_8 rfl) rfl (by show 2 * 0 + _ ≤ _; exact Nat.le_of_eq rfl) (hb hby at_88) (fun _ _ => ⟨rfl, e197, (by decide : 8 + 0 ≤ _), (by decide : 30 + 0 ≤ _)⟩)
      dsimp only [Pt.U, Pt.locs, Pt.cells, Pt.slots] at X212 l212 y212 z212 st212 hQ212
      subst l212 y212 z212
      obtain ⟨rfl, N212q, K212, P213, P214⟩ := hQ212
      have N212_ := Fr.app N188_ N212q
      refine Gl.via (fun _ k => st212.trans k) ?_
      have Z215 : n0 ≤ T212.heap.size := Nat.le_trans Z207 K212.1
      have Y216 : h0.size ≤ T212.heap.size := Nat.le_trans Y208 K212.1
      show Gl p.tables e below T212 (mkF m 91 #[.val (.int p0), .val (.int p1), .val (.int (1 : Int32)), .val (.ref b111), .val (.int ((((p1.toUInt32 >>> ((10 : Int32) &&& 31).toUInt32).toInt32) &&& (255 : Int32)).toUInt32.toUInt16.toUInt32.toInt32)), .val (.int ((((p1.toUInt32 >>> ((18 : Int32) &&& 31).toUInt32).toInt32) &&& (255 : Int32)).toUInt32.toUInt16.toUInt32.toInt32))] [(.ref b197)]) G
      refine Gl.via (fun _ k => XS.astore X212.here hx rfl (hb hby at_91) rfl rfl (l' := #[.val (.int p0), .val (.int p1), .val (.int (1 : Int32)), .val (.ref b111), .val (.ref b197), .val (.int ((((p1.toUInt32 >>> ((18 : Int32) &&& 31).toUInt32).toInt32) &&& (255 : Int32)).toUInt32.toUInt16.toUInt32.toInt32))]) rfl k) ?_
      show Gl p.tables e below T212 (mkF m 93 #[.val (.int p0), .val (.int p1), .val (.int (1 : Int32)), .val (.ref b111), .val (.ref b197), .val (.int ((((p1.toUInt32 >>> ((18 : Int32) &&& 31).toUInt32).toInt32) &&& (255 : Int32)).toUInt32.toUInt16.toUInt32.toInt32))] []) G
      refine Gl.via (fun _ k => XS.iloadN X212.here hx rfl (hb hby at_93) rfl k) ?_
      show Gl p.tables e below T212 (mkF m 94 #[.val (.int p0), .val (.int p1), .val (.int (1 : Int32)), .val (.ref b111), .val (.ref b197), .val (.int ((((p1.toUInt32 >>> ((18 : Int32) &&& 31).toUInt32).toInt32) &&& (255 : Int32)).toUInt32.toUInt16.toUInt32.toInt32))] [(.int p0)]) G
      refine Gl.via (fun _ k => XS.iconst X212.here hx rfl (hb hby at_94) k) ?_
      show Gl p.tables e below T212 (mkF m 95 #[.val (.int p0), .val (.int p1), .val (.int (1 : Int32)), .val (.ref b111), .val (.ref b197), .val (.int ((((p1.toUInt32 >>> ((18 : Int32) &&& 31).toUInt32).toInt32) &&& (255 : Int32)).toUInt32.toUInt16.toUInt32.toInt32))] [(.int (2 : Int32)), (.int p0)]) G
      by_cases nn : p0 < (2 : Int32)
      · refine Gl.via (fun _ k => XS.icmpYes X212.here hx rfl (pc0 := 95) (pc' := 102) rfl (hb hby at_95) rfl (tlt nn).1 (by decide) (by decide) k) ?_
        show Gl p.tables e below T212 (mkF m 102 #[.val (.int p0), .val (.int p1), .val (.int (1 : Int32)), .val (.ref b111), .val (.ref b197), .val (.int ((((p1.toUInt32 >>> ((18 : Int32) &&& 31).toUInt32).toInt32) &&& (255 : Int32)).toUInt32.toUInt16.toUInt32.toInt32))] []) G
        refine Gl.via (fun _ k => XS.iconst X212.here hx rfl (hb hby at_102) k) ?_
        show Gl p.tables e below T212 (mkF m 103 #[.val (.int p0), .val (.int p1), .val (.int (1 : Int32)), .val (.ref b111), .val (.ref b197), .val (.int ((((p1.toUInt32 >>> ((18 : Int32) &&& 31).toUInt32).toInt32) &&& (255 : Int32)).toUInt32.toUInt16.toUInt32.toInt32))] [(.int (0 : Int32))]) G
        refine Gl.via (fun _ k => XS.istore X212.here hx rfl (hb hby at_103) rfl (l' := #[.val (.int p0), .val (.int p1), .val (.int (1 : Int32)), .val (.ref b111), .val (.ref b197), .val (.int (0 : Int32))]) rfl k) ?_
        show Gl p.tables e below T212 (mkF m 105 #[.val (.int p0), .val (.int p1), .val (.int (1 : Int32)), .val (.ref b111), .val (.ref b197), .val (.int (0 : Int32))] []) G
        refine Gl.via (fun _ k => XS.aload X212.here hx rfl (hb hby at_105) rfl rfl k) ?_
        show Gl p.tables e below T212 (mkF m 107 #[.val (.int p0), .val (.int p1), .val (.int (1 : Int32)), .val (.ref b111), .val (.ref b197), .val (.int (0 : Int32))] [(.ref b197)]) G
        obtain ⟨cq217, kq217, q217a, q217b, q217c⟩ := isOf hZ rfl P213
        obtain ⟨_, _, ⟨T217, L217, k217, n217⟩, -, X217, ⟨Lc217, hQ217, l217, y217, z217⟩, st217⟩ := X212.virtualBack hx (y := (⟨"com/example/kereso/kereso/Search$ResultPage", "hasPrevious", "()Z"⟩ : MethodName)) (z := (⟨"com/example/kereso/kereso/Search$ResultPage", "hasPrevious", "()Z"⟩ : MethodName)) hown (mvT hZ (hw _ (List.mem_of_getElem? (i := 118) rfl))) (mvT hZ (hw _ (List.mem_of_getElem? (i := 119) rfl))) (notFace_of_selects (args := #[]) (mvT hZ (hw _ (List.mem_of_getElem? (i := 121) rfl)))) (mvT hZ (hw _ (List.mem_of_getElem? (i := 121) rfl))) (mvT hZ (hw _ (List.mem_of_getElem? (i := 120) rfl))) (by decide) (backOf (W := 0) (hp0 l Z a0 hw [] b197 p0 T212.heap n0 Z215 P214 (own_two nn)) hZ (hw _ (List.mem_of_getElem? (i := 122) rfl)) (hw _ (List.mem_of_getElem? (i := 107) rfl)) (by decide) (by decide)) q217a q217c (g := (mkF m 107 #[.val (.int p0), .val (.int p1), .val (.int (1 : Int32)), .val (.ref b111), .val (.ref b197), .val (.int (0 : Int32))] [(.ref b197)])) rfl (by rw [hml]; rfl) (Steps.refl _) (argsL := []) (rest := []) (lenOf pd_9 rfl) rfl (by show 2 * 0 + _ ≤ _; exact Nat.le_of_eq rfl) (hb hby at_107) (fun _ _ => ⟨rfl, rfl, (by decide : 8 + 0 ≤ _), (by decide : 30 + 0 ≤ _)⟩)
        dsimp only [Pt.U, Pt.locs, Pt.cells, Pt.slots] at X217 l217 y217 z217 st217 hQ217
        subst l217 y217 z217
        obtain ⟨rfl, N217q, eh217⟩ := hQ217
        have N217_ := Fr.app N212_ N217q
        refine Gl.via (fun _ k => st217.trans k) ?_
        show Gl p.tables e below T217 (mkF m 110 #[.val (.int p0), .val (.int p1), .val (.int (1 : Int32)), .val (.ref b111), .val (.ref b197), .val (.int (0 : Int32))] [(.int (0 : Int32))]) G
        refine Gl.via (fun _ k => XS.iload X217.here hx rfl (hb hby at_110) rfl k) ?_
        show Gl p.tables e below T217 (mkF m 112 #[.val (.int p0), .val (.int p1), .val (.int (1 : Int32)), .val (.ref b111), .val (.ref b197), .val (.int (0 : Int32))] [(.int (0 : Int32)), (.int (0 : Int32))]) G
        refine Gl.via (fun _ k => XS.icmpNo X217.here hx rfl (hb hby at_112) rfl (teq (by decide)).2 k) ?_
        show Gl p.tables e below T217 (mkF m 115 #[.val (.int p0), .val (.int p1), .val (.int (1 : Int32)), .val (.ref b111), .val (.ref b197), .val (.int (0 : Int32))] []) G
        refine Gl.via (fun _ k => XS.aload X217.here hx rfl (hb hby at_115) rfl rfl k) ?_
        show Gl p.tables e below T217 (mkF m 117 #[.val (.int p0), .val (.int p1), .val (.int (1 : Int32)), .val (.ref b111), .val (.ref b197), .val (.int (0 : Int32))] [(.ref b197)]) G
        obtain ⟨cq218, kq218, q218a, q218b, q218c⟩ := isOf hZ eh217 P213
        obtain ⟨_, _, ⟨T218, L218, k218, n218⟩, -, X218, ⟨Lc218, hQ218, l218, y218, z218⟩, st218⟩ := X217.virtualBack hx (y := (⟨"com/example/kereso/kereso/Search$ResultPage", "number", "()I"⟩ : MethodName)) (z := (⟨"com/example/kereso/kereso/Search$ResultPage", "number", "()I"⟩ : MethodName)) hown (mvT hZ (hw _ (List.mem_of_getElem? (i := 123) rfl))) (mvT hZ (hw _ (List.mem_of_getElem? (i := 124) rfl))) (notFace_of_selects (args := #[]) (mvT hZ (hw _ (List.mem_of_getElem? (i := 126) rfl)))) (mvT hZ (hw _ (List.mem_of_getElem? (i := 126) rfl))) (mvT hZ (hw _ (List.mem_of_getElem? (i := 125) rfl))) (by decide) (backOf (W := 0) (gnum l Z a0 hw [] b197 p0 T212.heap n0 Z215 P214) hZ (hw _ (List.mem_of_getElem? (i := 127) rfl)) (hw _ (List.mem_of_getElem? (i := 107) rfl)) (by decide) (by decide)) q218a q218c (g := (mkF m 117 #[.val (.int p0), .val (.int p1), .val (.int (1 : Int32)), .val (.ref b111), .val (.ref b197), .val (.int (0 : Int32))] [(.ref b197)])) rfl (by rw [hml]; rfl) (Steps.refl _) (argsL := []) (rest := []) (lenOf pd_10 rfl) rfl (by show 2 * 0 + _ ≤ _; exact Nat.le_of_eq rfl) (hb hby at_117) (fun _ _ => ⟨rfl, eh217, (by decide : 8 + 0 ≤ _), (by decide : 30 + 0 ≤ _)⟩)
        dsimp only [Pt.U, Pt.locs, Pt.cells, Pt.slots] at X218 l218 y218 z218 st218 hQ218
        subst l218 y218 z218
        obtain ⟨rfl, N218q, eh218⟩ := hQ218
        have N218_ := Fr.app N217_ N218q
        refine Gl.via (fun _ k => st218.trans k) ?_
        show Gl p.tables e below T218 (mkF m 120 #[.val (.int p0), .val (.int p1), .val (.int (1 : Int32)), .val (.ref b111), .val (.ref b197), .val (.int (0 : Int32))] [(.int p0)]) G
        refine Gl.via (fun _ k => XS.iloadN X218.here hx rfl (hb hby at_120) rfl k) ?_
        show Gl p.tables e below T218 (mkF m 121 #[.val (.int p0), .val (.int p1), .val (.int (1 : Int32)), .val (.ref b111), .val (.ref b197), .val (.int (0 : Int32))] [(.int p0), (.int p0)]) G
        refine Gl.via (fun _ k => XS.icmpNo X218.here hx rfl (hb hby at_121) rfl (teq rfl).2 k) ?_
        show Gl p.tables e below T218 (mkF m 124 #[.val (.int p0), .val (.int p1), .val (.int (1 : Int32)), .val (.ref b111), .val (.ref b197), .val (.int (0 : Int32))] []) G
        refine Gl.via (fun _ k => XS.iconst X218.here hx rfl (hb hby at_124) k) ?_
        show Gl p.tables e below T218 (mkF m 125 #[.val (.int p0), .val (.int p1), .val (.int (1 : Int32)), .val (.ref b111), .val (.ref b197), .val (.int (0 : Int32))] [(.int (1 : Int32))]) G
        refine Gl.via (fun _ k => XS.goto X218.here hx rfl (pc0 := 125) (pc' := 129) rfl (hb hby at_125) (by decide) (by decide) k) ?_
        show Gl p.tables e below T218 (mkF m 129 #[.val (.int p0), .val (.int p1), .val (.int (1 : Int32)), .val (.ref b111), .val (.ref b197), .val (.int (0 : Int32))] [(.int (1 : Int32))]) G
        obtain ⟨fs, hr, hrun, hended, hW, hsame⟩ := X218.leave (v := some (.int (1 : Int32))) (fun h => by rw [Bd.returns] at h; cases h)
        have hq : ∀ L, Fr n0 L → Q_rm0 Z p0 p1 cs da dk h0 n0 (some (.int (1 : Int32))) T218.heap L := by
          intro L hN
          rw [eh218]
          exact ⟨rfl, hN⟩
        rw [hG]
        exact Gl.fin (retN X218 hx (t := .boolean) Bd.returns (by simp) (hb hby at_129) hr) ⟨_, hrun, hended, _, _, rfl, hq _ N218_, ⟨_, rfl⟩, hW, hsame.mono (by decide) (by decide)⟩
      · refine Gl.via (fun _ k => XS.icmpNo X212.here hx rfl (hb hby at_95) rfl (flt nn).1 k) ?_
        show Gl p.tables e below T212 (mkF m 98 #[.val (.int p0), .val (.int p1), .val (.int (1 : Int32)), .val (.ref b111), .val (.ref b197), .val (.int ((((p1.toUInt32 >>> ((18 : Int32) &&& 31).toUInt32).toInt32) &&& (255 : Int32)).toUInt32.toUInt16.toUInt32.toInt32))] []) G
        refine Gl.via (fun _ k => XS.iconst X212.here hx rfl (hb hby at_98) k) ?_
        show Gl p.tables e below T212 (mkF m 99 #[.val (.int p0), .val (.int p1), .val (.int (1 : Int32)), .val (.ref b111), .val (.ref b197), .val (.int ((((p1.toUInt32 >>> ((18 : Int32) &&& 31).toUInt32).toInt32) &&& (255 : Int32)).toUInt32.toUInt16.toUInt32.toInt32))] [(.int (1 : Int32))]) G
        refine Gl.via (fun _ k => XS.goto X212.here hx rfl (pc0 := 99) (pc' := 103) rfl (hb hby at_99) (by decide) (by decide) k) ?_
        show Gl p.tables e below T212 (mkF m 103 #[.val (.int p0), .val (.int p1), .val (.int (1 : Int32)), .val (.ref b111), .val (.ref b197), .val (.int ((((p1.toUInt32 >>> ((18 : Int32) &&& 31).toUInt32).toInt32) &&& (255 : Int32)).toUInt32.toUInt16.toUInt32.toInt32))] [(.int (1 : Int32))]) G
        refine Gl.via (fun _ k => XS.istore X212.here hx rfl (hb hby at_103) rfl (l' := #[.val (.int p0), .val (.int p1), .val (.int (1 : Int32)), .val (.ref b111), .val (.ref b197), .val (.int (1 : Int32))]) rfl k) ?_
        show Gl p.tables e below T212 (mkF m 105 #[.val (.int p0), .val (.int p1), .val (.int (1 : Int32)), .val (.ref b111), .val (.ref b197), .val (.int (1 : Int32))] []) G
        refine Gl.via (fun _ k => XS.aload X212.here hx rfl (hb hby at_105) rfl rfl k) ?_
        show Gl p.tables e below T212 (mkF m 107 #[.val (.int p0), .val (.int p1), .val (.int (1 : Int32)), .val (.ref b111), .val (.ref b197), .val (.int (1 : Int32))] [(.ref b197)]) G
        obtain ⟨cq219, kq219, q219a, q219b, q219c⟩ := isOf hZ rfl P213
        obtain ⟨_, _, ⟨T219, L219, k219, n219⟩, -, X219, ⟨Lc219, hQ219, l219, y219, z219⟩, st219⟩ := X212.virtualBack hx (y := (⟨"com/example/kereso/kereso/Search$ResultPage", "hasPrevious", "()Z"⟩ : MethodName)) (z := (⟨"com/example/kereso/kereso/Search$ResultPage", "hasPrevious", "()Z"⟩ : MethodName)) hown (mvT hZ (hw _ (List.mem_of_getElem? (i := 118) rfl))) (mvT hZ (hw _ (List.mem_of_getElem? (i := 119) rfl))) (notFace_of_selects (args := #[]) (mvT hZ (hw _ (List.mem_of_getElem? (i := 121) rfl)))) (mvT hZ (hw _ (List.mem_of_getElem? (i := 121) rfl))) (mvT hZ (hw _ (List.mem_of_getElem? (i := 120) rfl))) (by decide) (backOf (W := 0) (hp1 l Z a0 hw [] b197 p0 T212.heap n0 Z215 P214 (own_two' nn)) hZ (hw _ (List.mem_of_getElem? (i := 122) rfl)) (hw _ (List.mem_of_getElem? (i := 107) rfl)) (by decide) (by decide)) q219a q219c (g := (mkF m 107 #[.val (.int p0), .val (.int p1), .val (.int (1 : Int32)), .val (.ref b111), .val (.ref b197), .val (.int (1 : Int32))] [(.ref b197)])) rfl (by rw [hml]; rfl) (Steps.refl _) (argsL := []) (rest := []) (lenOf pd_9 rfl) rfl (by show 2 * 0 + _ ≤ _; exact Nat.le_of_eq rfl) (hb hby at_107) (fun _ _ => ⟨rfl, rfl, (by decide : 8 + 0 ≤ _), (by decide : 30 + 0 ≤ _)⟩)
        dsimp only [Pt.U, Pt.locs, Pt.cells, Pt.slots] at X219 l219 y219 z219 st219 hQ219
        subst l219 y219 z219
        obtain ⟨rfl, N219q, eh219⟩ := hQ219
        have N219_ := Fr.app N212_ N219q
        refine Gl.via (fun _ k => st219.trans k) ?_
        show Gl p.tables e below T219 (mkF m 110 #[.val (.int p0), .val (.int p1), .val (.int (1 : Int32)), .val (.ref b111), .val (.ref b197), .val (.int (1 : Int32))] [(.int (1 : Int32))]) G
        refine Gl.via (fun _ k => XS.iload X219.here hx rfl (hb hby at_110) rfl k) ?_
        show Gl p.tables e below T219 (mkF m 112 #[.val (.int p0), .val (.int p1), .val (.int (1 : Int32)), .val (.ref b111), .val (.ref b197), .val (.int (1 : Int32))] [(.int (1 : Int32)), (.int (1 : Int32))]) G
        refine Gl.via (fun _ k => XS.icmpNo X219.here hx rfl (hb hby at_112) rfl (teq (by decide)).2 k) ?_
        show Gl p.tables e below T219 (mkF m 115 #[.val (.int p0), .val (.int p1), .val (.int (1 : Int32)), .val (.ref b111), .val (.ref b197), .val (.int (1 : Int32))] []) G
        refine Gl.via (fun _ k => XS.aload X219.here hx rfl (hb hby at_115) rfl rfl k) ?_
        show Gl p.tables e below T219 (mkF m 117 #[.val (.int p0), .val (.int p1), .val (.int (1 : Int32)), .val (.ref b111), .val (.ref b197), .val (.int (1 : Int32))] [(.ref b197)]) G
        obtain ⟨cq220, kq220, q220a, q220b, q220c⟩ := isOf hZ eh219 P213
        obtain ⟨_, _, ⟨T220, L220, k220, n220⟩, -, X220, ⟨Lc220, hQ220, l220, y220, z220⟩, st220⟩ := X219.virtualBack hx (y := (⟨"com/example/kereso/kereso/Search$ResultPage", "number", "()I"⟩ : MethodName)) (z := (⟨"com/example/kereso/kereso/Search$ResultPage", "number", "()I"⟩ : MethodName)) hown (mvT hZ (hw _ (List.mem_of_getElem? (i := 123) rfl))) (mvT hZ (hw _ (List.mem_of_getElem? (i := 124) rfl))) (notFace_of_selects (args := #[]) (mvT hZ (hw _ (List.mem_of_getElem? (i := 126) rfl)))) (mvT hZ (hw _ (List.mem_of_getElem? (i := 126) rfl))) (mvT hZ (hw _ (List.mem_of_getElem? (i := 125) rfl))) (by decide) (backOf (W := 0) (gnum l Z a0 hw [] b197 p0 T212.heap n0 Z215 P214) hZ (hw _ (List.mem_of_getElem? (i := 127) rfl)) (hw _ (List.mem_of_getElem? (i := 107) rfl)) (by decide) (by decide)) q220a q220c (g := (mkF m 117 #[.val (.int p0), .val (.int p1), .val (.int (1 : Int32)), .val (.ref b111), .val (.ref b197), .val (.int (1 : Int32))] [(.ref b197)])) rfl (by rw [hml]; rfl) (Steps.refl _) (argsL := []) (rest := []) (lenOf pd_10 rfl) rfl (by show 2 * 0 + _ ≤ _; exact Nat.le_of_eq rfl) (hb hby at_117) (fun _ _ => ⟨rfl, eh219, (by decide : 8 + 0 ≤ _), (by decide : 30 + 0 ≤ _)⟩)
        dsimp only [Pt.U, Pt.locs, Pt.cells, Pt.slots] at X220 l220 y220 z220 st220 hQ220
        subst l220 y220 z220
        obtain ⟨rfl, N220q, eh220⟩ := hQ220
        have N220_ := Fr.app N219_ N220q
        refine Gl.via (fun _ k => st220.trans k) ?_
        show Gl p.tables e below T220 (mkF m 120 #[.val (.int p0), .val (.int p1), .val (.int (1 : Int32)), .val (.ref b111), .val (.ref b197), .val (.int (1 : Int32))] [(.int p0)]) G
        refine Gl.via (fun _ k => XS.iloadN X220.here hx rfl (hb hby at_120) rfl k) ?_
        show Gl p.tables e below T220 (mkF m 121 #[.val (.int p0), .val (.int p1), .val (.int (1 : Int32)), .val (.ref b111), .val (.ref b197), .val (.int (1 : Int32))] [(.int p0), (.int p0)]) G
        refine Gl.via (fun _ k => XS.icmpNo X220.here hx rfl (hb hby at_121) rfl (teq rfl).2 k) ?_
        show Gl p.tables e below T220 (mkF m 124 #[.val (.int p0), .val (.int p1), .val (.int (1 : Int32)), .val (.ref b111), .val (.ref b197), .val (.int (1 : Int32))] []) G
        refine Gl.via (fun _ k => XS.iconst X220.here hx rfl (hb hby at_124) k) ?_
        show Gl p.tables e below T220 (mkF m 125 #[.val (.int p0), .val (.int p1), .val (.int (1 : Int32)), .val (.ref b111), .val (.ref b197), .val (.int (1 : Int32))] [(.int (1 : Int32))]) G
        refine Gl.via (fun _ k => XS.goto X220.here hx rfl (pc0 := 125) (pc' := 129) rfl (hb hby at_125) (by decide) (by decide) k) ?_
        show Gl p.tables e below T220 (mkF m 129 #[.val (.int p0), .val (.int p1), .val (.int (1 : Int32)), .val (.ref b111), .val (.ref b197), .val (.int (1 : Int32))] [(.int (1 : Int32))]) G
        obtain ⟨fs, hr, hrun, hended, hW, hsame⟩ := X220.leave (v := some (.int (1 : Int32))) (fun h => by rw [Bd.returns] at h; cases h)
        have hq : ∀ L, Fr n0 L → Q_rm0 Z p0 p1 cs da dk h0 n0 (some (.int (1 : Int32))) T220.heap L := by
          intro L hN
          rw [eh220]
          exact ⟨rfl, hN⟩
        rw [hG]
        exact Gl.fin (retN X220 hx (t := .boolean) Bd.returns (by simp) (hb hby at_129) hr) ⟨_, hrun, hended, _, _, rfl, hq _ N220_, ⟨_, rfl⟩, hW, hsame.mono (by decide) (by decide)⟩
set_option maxRecDepth 65536 in
set_option maxHeartbeats 40000000 in
theorem comes_1 {Post : Tables → Env → Array Value → State → Outcome → State → Prop} (hpost : ∀ tb e args s v u, (limb_1_1.after args s (.returned v) u = true ∧ limb_1_2.after args s (.returned v) u = true ∧ True) → FrameEnd s (.returned v) u (Jvm.fieldLocs frame_1_writes args s ++ Jvm.arrayLocs frame_1_arrays args s ++ Jvm.staticLocs frame_1_statics s) 24 128 → Post tb e args s (.returned v) u) :
    ArmFor flags0 classFile x code maxLocals ret World_1 tables_1 room_1 Calls_1 rest_1 Pre_1 Post := by
  intro l hfl _ _ p e ha hc hk s m args below hf hA hF happ hP
  obtain ⟨hcalls, hrest, hpre⟩ := hP
  obtain ⟨-, -, -, hnamed, -, -, -, hat⟩ := (Spec.applies_iff hf).mp happ
  obtain ⟨hg, hn⟩ := and_e (Cond.before_iff.mp (show (Jvm.Cond.and given_1 narrow_1).before args s = true from hpre))
  obtain ⟨g1, g2⟩ := and_e hg
  obtain ⟨g3, g4⟩ := and_e g2
  obtain ⟨w0, w1, rfl⟩ : ∃ w0 w1 : Value, args = #[w0, w1] := by
    have hs : args.size = 2 := by simpa [Cond.value, given_1] using g1
    obtain ⟨L⟩ := args
    match L, hs with
    | [w0, w1], _ => exact ⟨w0, w1, rfl⟩
  have hw := fun d (hd : d ∈ tables_1) => atoms_spec (ws := Jvm.Cond.code x code maxLocals ret :: tables_1) hat d (List.mem_cons_of_mem _ hd)
  have hfit : Fit s := fun {y c} hc i hi => by
    obtain ⟨ha, rfl⟩ := Array.getElem?_eq_some_iff.mp hc
    have q := List.all_eq_true.mp ((Array.all_eq_true_iff_forall_mem.mp hF) _ (Array.getElem_mem ha)) i (List.mem_range.mpr hi)
    simpa [Array.getElem?_eq_getElem hi] using q
  obtain ⟨hsets, hown0⟩ := atoms_of _ (rest_1_c_eq ▸ (show rest_1_c.before _ s = true from hrest))
  have hr0 := Cond.before_iff.mp hown0
  obtain ⟨i0, ei0⟩ := is_v g3
  obtain rfl : w0 = (.int i0) := Option.some.inj ei0
  obtain ⟨i1, ei1⟩ := is_v g4
  obtain rfl : w1 = (.int i1) := Option.some.inj ei1
  obtain ⟨cs, ecs⟩ := is_v (Cond.before_iff.mp (hsets _ (List.mem_of_getElem? (i := 10) rfl)))
  have Scs : Sta s s.heap "java/lang/String" "COMPACT_STRINGS" "Z" (.int cs) := Sta.start ecs (Or.inl (hsets _ (List.mem_of_getElem? (i := 9) rfl)))
  have ncs := not_v (Cond.before_iff.mp (hsets _ (List.mem_of_getElem? (i := 11) rfl)))
  have hcs : ¬ (cs = (0 : Int32)) := gotF (Cond.eq_ints ecs (Term.int_eval (0))) ncs
  obtain ⟨da, _, _, _, eda, -⟩ := Cond.exactly_spec (hsets _ (List.mem_of_getElem? (i := 7) rfl))
  have Sda : Sta s s.heap "java/util/ArrayList" "DEFAULTCAPACITY_EMPTY_ELEMENTDATA" "[Ljava/lang/Object;" (.ref da) := Sta.start eda (Or.inr ⟨hw _ (List.mem_of_getElem? (i := 2) rfl), (hsets _ (List.mem_of_getElem? (i := 2) rfl))⟩)
  obtain ⟨dk, Ada⟩ := own_arr0 (dv := .null) hfit eda (Cond.before_iff.mp (hsets _ (List.mem_of_getElem? (i := 6) rfl))) (Cond.before_iff.mp (hsets _ (List.mem_of_getElem? (i := 8) rfl)))
  obtain ⟨n, o, h1, h2, h3, _, L, rfl, ⟨rfl, N⟩, hq⟩ := rm0 l s _ hw tables_1 i0 i1 cs da dk s.heap s.heap.size (Nat.le_refl _) Scs Sda Ada (Old.start s) hcs p e ha hc hk s m _ below hf ((Spec.applies_iff_loose hf).mp happ).1 ⟨rfl, State.Warmed39.refl s, rfl⟩ trivial
  refine ⟨n, _, h1, h2, h3, hpost _ _ _ _ _ _ ⟨Cond.after_iff.mpr rfl, Cond.after_iff.mpr (eq_i res_at (Term.int_eval (1)) rfl), trivial⟩ ⟨hq.1, hq.2.1, (hq.2.2.sift fun y hy => Or.inr (N y hy)).mono (by decide) (by decide)⟩⟩
theorem main_1_1 : Claimed_1_1 := comes_1 fun _ _ _ _ _ _ h hF => ⟨h.1, hF⟩
theorem main_1_2 : Claimed_1_2 := comes_1 fun _ _ _ _ _ _ h hF => ⟨h.2.1, hF⟩
end Jvm.Pilot.@@N@@
namespace Jvm.Pilot.@@N@@
open Jvm Jvm.ClassFile Sem Op Lib Jvm.Free Jvm.Stand Jvm.Pilot.@@N@@.Jvm.D
/-! MADE BY PROGRAM (witnessworld.py) out of the Statement's table words and the real class files: 27 classes; the members and pool entries that the words name. The judged class is class 1, her method 1. -/
namespace start1
open Jvm.ClassFile
def u (s : String) : CpInfo := .utf8 (stringToUtf16 s)
/-- a pool by its gaps: so many unusable entries, then the entry; so many at the end -/
def gap : Nat → List CpInfo → List CpInfo
  | 0, r => r
  | n + 1, r => .unusable :: gap n r
def poolList (es : List (Nat × CpInfo)) (last : Nat) : List CpInfo := es.foldr (fun e r => gap e.1 (e.2 :: r)) (gap last [])
def pool (es : List (Nat × CpInfo)) (last : Nat) : Array CpInfo := ⟨poolList es last⟩
def fileOf (pool : Array CpInfo) (this : Nat) (attrs : Array Attribute := #[]) (ms : Array MethodInfo := #[]) (fl : Nat := 33) (sup : Nat := 0) (ifs : Array Nat := #[]) (fds : Array FieldInfo := #[]) : ClassFile where
  minorVersion := 0
  majorVersion := 65
  constantPool := pool
  accessFlags := fl
  thisClass := this
  superClass := sup
  interfaces := ifs
  fields := fds
  methods := ms
  attributes := attrs
def plain (name : String) (sup : Option ClassId) : Class where
  name := name
  kind := .ordinary
  loader := none
  accessFlags := 33
  super := sup
  interfaces := #[]
  cf := none
  fields := #[]
  methods := #[]
  instanceTypes := #[]
  staticTypes := #[]
  resolved := #[]
  callSites := []
  init := .initialized
  statics := none
  mirror := none

def pool0 : Array CpInfo := pool [(5, u "<init>"), (0, u "()V"), (1, .class_ 10), (1, u "java/lang/Object")] 113

def k0c0 : Code := { maxStack := 0, maxLocals := 1, code := object_method_1_code, exceptionTable := #[], attributes := #[] }
def k0m0 : Method := { name := "<init>", desc := "()V", sig := { parameters := [], returnType := none }, accessFlags := 1, code := some k0c0 }
/-- java/lang/Object -/
def k0 : Class := { plain "java/lang/Object" none with
  accessFlags := 33
  interfaces := #[]
  cf := some (fileOf pool0 8 #[] #[{ accessFlags := 1, nameIndex := 5, descriptorIndex := 6, attributes := #[] }] 33 0 #[] #[])
  fields := #[]
  methods := #[k0m0]
  instanceTypes := #[]
  staticTypes := #[]
  resolved := Array.replicate 124 none
  statics := none }

def pool1 : Array CpInfo := pool [(2, .class_ 4), (0, .nameAndType 5 6), (0, u "java/lang/Object"), (0, u "<init>"), (0, u "()V"), (0, .class_ 8), (0, u "java/util/ArrayList"), (0, .methodref 7 3), (0, .class_ 11), (0, u "com/example/kereso/kereso/Search$Hit"), (0, .methodref 13 14), (0, .class_ 15), (0, .nameAndType 16 17), (0, u "java/lang/String"), (0, u "valueOf"), (0, u "(C)Ljava/lang/String;"), (0, .methodref 10 19), (0, .nameAndType 5 20), (0, u "(IDLjava/lang/String;Ljava/lang/String;)V"), (0, .interfaceMethodref 22 23), (0, .class_ 24), (0, .nameAndType 25 26), (0, u "java/util/List"), (0, u "add"), (0, u "(Ljava/lang/Object;)Z"), (0, .class_ 28), (0, u "com/example/kereso/kereso/Search$ResultPage"), (0, .methodref 27 30), (0, .nameAndType 5 31), (0, u "(ILjava/util/List;Z)V"), (0, .methodref 27 33), (0, .nameAndType 34 35), (0, u "hasPrevious"), (0, u "()Z"), (0, .methodref 27 37), (0, .nameAndType 38 39), (0, u "number"), (0, u "()I"), (0, .class_ 41), (0, u "com/example/kereso/kereso/ResultPageHasPreviousPinLaw"), (2, u "law"), (0, u "(II)Z")] 8

def k1m0 : Method := { name := "<init>", desc := "()V", sig := { parameters := [], returnType := none }, accessFlags := 1, code := none }
def k1c1 : Code := { maxStack := 8, maxLocals := 6, code := code, exceptionTable := #[], attributes := #[] }
def k1m1 : Method := { name := "law", desc := "(II)Z", sig := { parameters := [.int, .int], returnType := some .boolean }, accessFlags := 9, code := some k1c1 }
/-- com/example/kereso/kereso/ResultPageHasPreviousPinLaw -/
def k1 : Class := { plain "com/example/kereso/kereso/ResultPageHasPreviousPinLaw" (some 0) with
  accessFlags := 49
  interfaces := #[]
  cf := some (fileOf pool1 40 #[] #[{ accessFlags := 1, nameIndex := 5, descriptorIndex := 6, attributes := #[] }, { accessFlags := 9, nameIndex := 44, descriptorIndex := 45, attributes := #[] }] 49 2 #[] #[])
  fields := #[]
  methods := #[k1m0, k1m1]
  instanceTypes := #[]
  staticTypes := #[]
  resolved := Array.replicate 54 none
  statics := none }

def pool2 : Array CpInfo := pool [(8, .class_ 10), (1, u "java/lang/Iterable"), (24, .class_ 36), (0, u "java/lang/Object")] 25

/-- java/lang/Iterable -/
def k2 : Class := { plain "java/lang/Iterable" (some 0) with
  accessFlags := 1537
  interfaces := #[]
  cf := some (fileOf pool2 8 #[] #[] 1537 35 #[] #[])
  fields := #[]
  methods := #[]
  instanceTypes := #[]
  staticTypes := #[]
  resolved := Array.replicate 62 none
  statics := none }

def pool3 : Array CpInfo := pool [(10, .class_ 12), (1, u "java/util/Collection"), (47, .class_ 61), (0, u "java/lang/Object"), (0, .class_ 63), (0, u "java/lang/Iterable")] 51

/-- java/util/Collection -/
def k3 : Class := { plain "java/util/Collection" (some 0) with
  accessFlags := 1537
  interfaces := #[2]
  cf := some (fileOf pool3 10 #[] #[] 1537 60 #[62] #[])
  fields := #[]
  methods := #[]
  instanceTypes := #[]
  staticTypes := #[]
  resolved := Array.replicate 115 none
  statics := none }

def pool4 : Array CpInfo := pool [(1, .methodref 2 3), (0, .class_ 4), (0, .nameAndType 5 6), (0, u "java/lang/Object"), (0, u "<init>"), (0, u "()V"), (1, .class_ 10), (1, u "java/util/AbstractCollection"), (66, .class_ 78), (0, u "java/util/Collection")] 81

def k4c0 : Code := { maxStack := 1, maxLocals := 1, code := jdk_22_method_1_code, exceptionTable := #[], attributes := #[] }
def k4m0 : Method := { name := "<init>", desc := "()V", sig := { parameters := [], returnType := none }, accessFlags := 4, code := some k4c0 }
/-- java/util/AbstractCollection -/
def k4 : Class := { plain "java/util/AbstractCollection" (some 0) with
  accessFlags := 1057
  interfaces := #[3]
  cf := some (fileOf pool4 8 #[] #[{ accessFlags := 4, nameIndex := 5, descriptorIndex := 6, attributes := #[] }] 1057 2 #[77] #[])
  fields := #[]
  methods := #[k4m0]
  instanceTypes := #[]
  staticTypes := #[]
  resolved := Array.replicate 160 none
  statics := none }

def pool5 : Array CpInfo := pool [(8, .class_ 10), (1, u "java/util/SequencedCollection"), (15, .class_ 27), (0, u "java/lang/Object"), (0, .class_ 29), (0, u "java/util/Collection")] 27

/-- java/util/SequencedCollection -/
def k5 : Class := { plain "java/util/SequencedCollection" (some 0) with
  accessFlags := 1537
  interfaces := #[3]
  cf := some (fileOf pool5 8 #[] #[] 1537 26 #[28] #[])
  fields := #[]
  methods := #[]
  instanceTypes := #[]
  staticTypes := #[]
  resolved := Array.replicate 57 none
  statics := none }

def pool6 : Array CpInfo := pool [(8, .class_ 10), (1, u "java/util/List"), (49, u "add"), (3, u "(Ljava/lang/Object;)Z"), (38, .class_ 104), (0, u "java/lang/Object"), (15, .class_ 121), (0, u "java/util/SequencedCollection")] 129

def k6m0 : Method := { name := "add", desc := "(Ljava/lang/Object;)Z", sig := { parameters := [(.object "java/lang/Object")], returnType := some .boolean }, accessFlags := 1025, code := none }
/-- java/util/List -/
def k6 : Class := { plain "java/util/List" (some 0) with
  accessFlags := 1537
  interfaces := #[5]
  cf := some (fileOf pool6 8 #[] #[{ accessFlags := 1025, nameIndex := 60, descriptorIndex := 64, attributes := #[] }] 1537 103 #[120] #[])
  fields := #[]
  methods := #[k6m0]
  instanceTypes := #[]
  staticTypes := #[]
  resolved := Array.replicate 251 none
  statics := none }

def pool7 : Array CpInfo := pool [(1, .methodref 2 3), (0, .class_ 4), (0, .nameAndType 5 6), (0, u "java/util/AbstractCollection"), (0, u "<init>"), (0, u "()V"), (0, .fieldref 8 9), (0, .class_ 10), (0, .nameAndType 11 12), (0, u "java/util/AbstractList"), (0, u "modCount"), (0, u "I"), (64, .class_ 78), (0, u "java/util/AbstractList$Itr"), (3, .class_ 83), (0, u "java/util/AbstractList$ListItr"), (9, .class_ 94), (0, u "java/util/AbstractList$RandomAccessSubList"), (3, .class_ 99), (0, u "java/util/AbstractList$SubList"), (33, .class_ 134), (0, u "java/util/List"), (73, .class_ 209), (0, u "java/util/AbstractList$SubList$1"), (0, .class_ 211), (0, u "java/util/AbstractList$RandomAccessSpliterator")] 6

def k7c0 : Code := { maxStack := 2, maxLocals := 1, code := jdk_39_method_1_code, exceptionTable := #[], attributes := #[] }
def k7m0 : Method := { name := "<init>", desc := "()V", sig := { parameters := [], returnType := none }, accessFlags := 4, code := some k7c0 }
/-- java/util/AbstractList -/
def k7 : Class := { plain "java/util/AbstractList" (some 4) with
  accessFlags := 1057
  interfaces := #[6]
  cf := some (fileOf pool7 8 #[.nestMembers #[93, 98, 208, 210, 82, 77]] #[{ accessFlags := 4, nameIndex := 5, descriptorIndex := 6, attributes := #[] }] 1057 2 #[133] #[{ accessFlags := 132, nameIndex := 11, descriptorIndex := 12, attributes := #[] }])
  fields := #[{ name := "modCount", type := .int, accessFlags := 132, slot := 0, constantValue := 0 }]
  methods := #[k7m0]
  instanceTypes := #[.int]
  staticTypes := #[]
  resolved := Array.replicate 218 none
  statics := none }

def pool8 : Array CpInfo := pool [(1, .class_ 2), (0, u "java/util/RandomAccess"), (0, .class_ 4), (0, u "java/lang/Object")] 2

/-- java/util/RandomAccess -/
def k8 : Class := { plain "java/util/RandomAccess" (some 0) with
  accessFlags := 1537
  interfaces := #[]
  cf := some (fileOf pool8 1 #[] #[] 1537 3 #[] #[])
  fields := #[]
  methods := #[]
  instanceTypes := #[]
  staticTypes := #[]
  resolved := Array.replicate 7 none
  statics := none }

def pool9 : Array CpInfo := pool [(1, .class_ 2), (0, u "java/lang/Cloneable"), (0, .class_ 4), (0, u "java/lang/Object")] 2

/-- java/lang/Cloneable -/
def k9 : Class := { plain "java/lang/Cloneable" (some 0) with
  accessFlags := 1537
  interfaces := #[]
  cf := some (fileOf pool9 1 #[] #[] 1537 3 #[] #[])
  fields := #[]
  methods := #[]
  instanceTypes := #[]
  staticTypes := #[]
  resolved := Array.replicate 7 none
  statics := none }

def pool10 : Array CpInfo := pool [(1, .class_ 2), (0, u "java/io/Serializable"), (0, .class_ 4), (0, u "java/lang/Object")] 2

/-- java/io/Serializable -/
def k10 : Class := { plain "java/io/Serializable" (some 0) with
  accessFlags := 1537
  interfaces := #[]
  cf := some (fileOf pool10 1 #[] #[] 1537 3 #[] #[])
  fields := #[]
  methods := #[]
  instanceTypes := #[]
  staticTypes := #[]
  resolved := Array.replicate 7 none
  statics := none }

def pool11 : Array CpInfo := pool [(1, .methodref 2 3), (0, .class_ 4), (0, .nameAndType 5 6), (0, u "java/util/AbstractList"), (0, u "<init>"), (0, u "()V"), (0, .class_ 8), (0, u "java/lang/Object"), (0, .fieldref 10 11), (0, .class_ 12), (0, .nameAndType 13 14), (0, u "java/util/ArrayList"), (0, u "elementData"), (0, u "[Ljava/lang/Object;"), (2, u "EMPTY_ELEMENTDATA"), (21, .fieldref 10 40), (0, .nameAndType 41 14), (0, u "DEFAULTCAPACITY_EMPTY_ELEMENTDATA"), (5, u "()[Ljava/lang/Object;"), (0, .fieldref 10 49), (0, .nameAndType 50 51), (0, u "size"), (0, u "I"), (11, .fieldref 10 64), (0, .nameAndType 65 51), (0, u "modCount"), (3, .methodref 10 70), (0, .nameAndType 71 72), (0, u "grow"), (0, u "(I)[Ljava/lang/Object;"), (6, .methodref 80 81), (0, .class_ 82), (0, .nameAndType 83 84), (0, u "java/lang/Math"), (0, u "max"), (0, u "(II)I"), (11, u "(Ljava/lang/Object;)Z"), (32, .methodref 10 130), (0, .nameAndType 71 47), (0, .methodref 10 132), (0, .nameAndType 133 134), (0, u "add"), (0, u "(Ljava/lang/Object;[Ljava/lang/Object;I)V"), (13, .class_ 149), (0, u "java/util/List"), (112, .class_ 263), (0, u "java/util/ArrayList$ListItr"), (3, .class_ 268), (0, u "java/util/ArrayList$Itr"), (7, .class_ 277), (0, u "java/util/ArrayList$SubList"), (12, .class_ 291), (0, u "java/util/ArrayList$ArrayListSpliterator"), (37, .class_ 330), (0, u "java/util/RandomAccess"), (0, .class_ 332), (0, u "java/lang/Cloneable"), (0, .class_ 334), (0, u "java/io/Serializable"), (0, u "serialVersionUID"), (0, u "J"), (3, u "DEFAULT_CAPACITY"), (159, .class_ 501), (0, u "java/util/ArrayList$SubList$2"), (0, .class_ 503), (0, u "java/util/ArrayList$SubList$1")] 5

def k11c0 : Code := { maxStack := 2, maxLocals := 1, code := jdk_38_method_2_code, exceptionTable := #[], attributes := #[] }
def k11m0 : Method := { name := "<init>", desc := "()V", sig := { parameters := [], returnType := none }, accessFlags := 1, code := some k11c0 }
def k11c1 : Code := { maxStack := 4, maxLocals := 4, code := jdk_38_method_6_code, exceptionTable := #[], attributes := #[] }
def k11m1 : Method := { name := "grow", desc := "(I)[Ljava/lang/Object;", sig := { parameters := [.int], returnType := some (.array (.object "java/lang/Object")) }, accessFlags := 2, code := some k11c1 }
def k11c2 : Code := { maxStack := 3, maxLocals := 1, code := jdk_38_method_7_code, exceptionTable := #[], attributes := #[] }
def k11m2 : Method := { name := "grow", desc := "()[Ljava/lang/Object;", sig := { parameters := [], returnType := some (.array (.object "java/lang/Object")) }, accessFlags := 2, code := some k11c2 }
def k11c3 : Code := { maxStack := 3, maxLocals := 4, code := jdk_38_method_24_code, exceptionTable := #[], attributes := #[] }
def k11m3 : Method := { name := "add", desc := "(Ljava/lang/Object;[Ljava/lang/Object;I)V", sig := { parameters := [(.object "java/lang/Object"), (.array (.object "java/lang/Object")), .int], returnType := none }, accessFlags := 2, code := some k11c3 }
def k11c4 : Code := { maxStack := 4, maxLocals := 2, code := jdk_38_method_25_code, exceptionTable := #[], attributes := #[] }
def k11m4 : Method := { name := "add", desc := "(Ljava/lang/Object;)Z", sig := { parameters := [(.object "java/lang/Object")], returnType := some .boolean }, accessFlags := 1, code := some k11c4 }
/-- java/util/ArrayList -/
def k11 : Class := { plain "java/util/ArrayList" (some 7) with
  accessFlags := 33
  interfaces := #[6, 8, 9, 10]
  cf := some (fileOf pool11 10 #[.nestMembers #[290, 276, 500, 502, 262, 267]] #[{ accessFlags := 1, nameIndex := 5, descriptorIndex := 6, attributes := #[] }, { accessFlags := 2, nameIndex := 71, descriptorIndex := 72, attributes := #[] }, { accessFlags := 2, nameIndex := 71, descriptorIndex := 47, attributes := #[] }, { accessFlags := 2, nameIndex := 133, descriptorIndex := 134, attributes := #[] }, { accessFlags := 1, nameIndex := 133, descriptorIndex := 96, attributes := #[] }] 33 2 #[148, 329, 331, 333] #[{ accessFlags := 26, nameIndex := 335, descriptorIndex := 336, attributes := #[] }, { accessFlags := 26, nameIndex := 340, descriptorIndex := 51, attributes := #[] }, { accessFlags := 26, nameIndex := 17, descriptorIndex := 14, attributes := #[] }, { accessFlags := 26, nameIndex := 41, descriptorIndex := 14, attributes := #[] }, { accessFlags := 128, nameIndex := 13, descriptorIndex := 14, attributes := #[] }, { accessFlags := 2, nameIndex := 50, descriptorIndex := 51, attributes := #[] }])
  fields := #[{ name := "serialVersionUID", type := .long, accessFlags := 26, slot := 0, constantValue := 0 }, { name := "DEFAULT_CAPACITY", type := .int, accessFlags := 26, slot := 1, constantValue := 0 }, { name := "EMPTY_ELEMENTDATA", type := (.array (.object "java/lang/Object")), accessFlags := 26, slot := 2, constantValue := 0 }, { name := "DEFAULTCAPACITY_EMPTY_ELEMENTDATA", type := (.array (.object "java/lang/Object")), accessFlags := 26, slot := 3, constantValue := 0 }, { name := "elementData", type := (.array (.object "java/lang/Object")), accessFlags := 128, slot := 1, constantValue := 0 }, { name := "size", type := .int, accessFlags := 2, slot := 2, constantValue := 0 }]
  methods := #[k11m0, k11m1, k11m2, k11m3, k11m4]
  instanceTypes := #[.int, (.array (.object "java/lang/Object")), .int]
  staticTypes := #[.long, .int, (.array (.object "java/lang/Object")), (.array (.object "java/lang/Object"))]
  resolved := Array.replicate 509 none
  statics := some 0 }

def pool12 : Array CpInfo := pool [(1, .methodref 2 3), (0, .class_ 4), (0, .nameAndType 5 6), (0, u "java/lang/Object"), (0, u "<init>"), (0, u "()V"), (0, .class_ 8), (0, u "java/lang/Record")] 13

def k12c0 : Code := { maxStack := 1, maxLocals := 1, code := jdk_30_method_1_code, exceptionTable := #[], attributes := #[] }
def k12m0 : Method := { name := "<init>", desc := "()V", sig := { parameters := [], returnType := none }, accessFlags := 4, code := some k12c0 }
/-- java/lang/Record -/
def k12 : Class := { plain "java/lang/Record" (some 0) with
  accessFlags := 1057
  interfaces := #[]
  cf := some (fileOf pool12 7 #[] #[{ accessFlags := 4, nameIndex := 5, descriptorIndex := 6, attributes := #[] }] 1057 2 #[] #[])
  fields := #[]
  methods := #[k12m0]
  instanceTypes := #[]
  staticTypes := #[]
  resolved := Array.replicate 22 none
  statics := none }

def pool13 : Array CpInfo := pool [(1, .methodref 2 3), (0, .class_ 4), (0, .nameAndType 5 6), (0, u "java/lang/Record"), (0, u "<init>"), (0, u "()V"), (0, .fieldref 8 9), (0, .class_ 10), (0, .nameAndType 11 12), (0, u "com/example/kereso/kereso/Search$Hit"), (0, u "rank"), (0, u "I"), (0, .fieldref 8 14), (0, .nameAndType 15 16), (0, u "score"), (0, u "D"), (0, .fieldref 8 18), (0, .nameAndType 19 20), (0, u "url"), (0, u "Ljava/lang/String;"), (0, .fieldref 8 22), (0, .nameAndType 23 20), (0, u "title"), (12, u "(IDLjava/lang/String;Ljava/lang/String;)V"), (10, .class_ 48), (0, u "com/example/kereso/kereso/Search")] 22

def k13c0 : Code := { maxStack := 3, maxLocals := 6, code := prog_39_method_1_code, exceptionTable := #[], attributes := #[] }
def k13m0 : Method := { name := "<init>", desc := "(IDLjava/lang/String;Ljava/lang/String;)V", sig := { parameters := [.int, .double, (.object "java/lang/String"), (.object "java/lang/String")], returnType := none }, accessFlags := 0, code := some k13c0 }
/-- com/example/kereso/kereso/Search$Hit -/
def k13 : Class := { plain "com/example/kereso/kereso/Search$Hit" (some 12) with
  accessFlags := 48
  interfaces := #[]
  cf := some (fileOf pool13 8 #[.nestHost 47] #[{ accessFlags := 0, nameIndex := 5, descriptorIndex := 36, attributes := #[] }] 48 2 #[] #[{ accessFlags := 18, nameIndex := 11, descriptorIndex := 12, attributes := #[] }, { accessFlags := 18, nameIndex := 15, descriptorIndex := 16, attributes := #[] }, { accessFlags := 18, nameIndex := 19, descriptorIndex := 20, attributes := #[] }, { accessFlags := 18, nameIndex := 23, descriptorIndex := 20, attributes := #[] }])
  fields := #[{ name := "rank", type := .int, accessFlags := 18, slot := 0, constantValue := 0 }, { name := "score", type := .double, accessFlags := 18, slot := 1, constantValue := 0 }, { name := "url", type := (.object "java/lang/String"), accessFlags := 18, slot := 2, constantValue := 0 }, { name := "title", type := (.object "java/lang/String"), accessFlags := 18, slot := 3, constantValue := 0 }]
  methods := #[k13m0]
  instanceTypes := #[.int, .double, (.object "java/lang/String"), (.object "java/lang/String")]
  staticTypes := #[]
  resolved := Array.replicate 71 none
  statics := none }

def pool14 : Array CpInfo := pool [(1, .class_ 2), (0, u "java/lang/Comparable"), (0, .class_ 4), (0, u "java/lang/Object")] 7

/-- java/lang/Comparable -/
def k14 : Class := { plain "java/lang/Comparable" (some 0) with
  accessFlags := 1537
  interfaces := #[]
  cf := some (fileOf pool14 1 #[] #[] 1537 3 #[] #[])
  fields := #[]
  methods := #[]
  instanceTypes := #[]
  staticTypes := #[]
  resolved := Array.replicate 12 none
  statics := none }

def pool15 : Array CpInfo := pool [(2, .class_ 4), (1, u "java/lang/CharSequence"), (42, .class_ 48), (0, u "java/lang/CharSequence$1CodePointIterator"), (10, .class_ 60), (0, u "java/lang/CharSequence$1CharIterator"), (5, .class_ 67), (0, u "java/lang/Object")] 63

/-- java/lang/CharSequence -/
def k15 : Class := { plain "java/lang/CharSequence" (some 0) with
  accessFlags := 1537
  interfaces := #[]
  cf := some (fileOf pool15 2 #[.nestMembers #[47, 59]] #[] 1537 66 #[] #[])
  fields := #[]
  methods := #[]
  instanceTypes := #[]
  staticTypes := #[]
  resolved := Array.replicate 131 none
  statics := none }

def pool16 : Array CpInfo := pool [(1, .class_ 2), (0, u "java/lang/constant/Constable"), (0, .class_ 4), (0, u "java/lang/Object")] 6

/-- java/lang/constant/Constable -/
def k16 : Class := { plain "java/lang/constant/Constable" (some 0) with
  accessFlags := 1537
  interfaces := #[]
  cf := some (fileOf pool16 1 #[] #[] 1537 3 #[] #[])
  fields := #[]
  methods := #[]
  instanceTypes := #[]
  staticTypes := #[]
  resolved := Array.replicate 11 none
  statics := none }

def pool17 : Array CpInfo := pool [(1, .class_ 2), (0, u "java/lang/constant/ConstantDesc"), (0, .class_ 4), (0, u "java/lang/Object")] 32

/-- java/lang/constant/ConstantDesc -/
def k17 : Class := { plain "java/lang/constant/ConstantDesc" (some 0) with
  accessFlags := 1537
  interfaces := #[]
  cf := some (fileOf pool17 1 #[] #[] 1537 3 #[] #[])
  fields := #[]
  methods := #[]
  instanceTypes := #[]
  staticTypes := #[]
  resolved := Array.replicate 37 none
  statics := none }

def pool18 : Array CpInfo := pool [(1, .methodref 2 3), (0, .class_ 4), (0, .nameAndType 5 6), (0, u "java/lang/Object"), (0, u "<init>"), (0, u "()V"), (2, .fieldref 10 11), (0, .class_ 12), (0, .nameAndType 13 14), (0, u "java/lang/String"), (0, u "value"), (0, u "[B"), (0, .fieldref 10 16), (0, .nameAndType 17 18), (0, u "coder"), (0, u "B"), (2, u "hash"), (0, u "I"), (2, u "hashIsZero"), (0, u "Z"), (11, .fieldref 10 39), (0, .nameAndType 40 26), (0, u "COMPACT_STRINGS"), (12, u "toBytes"), (53, .class_ 109), (1, u "java/lang/StringLatin1"), (99, .methodref 10 210), (0, .nameAndType 5 211), (0, u "([BB)V"), (157, u "(C)Z"), (205, .class_ 576), (0, u "java/lang/CharSequence"), (22, u "CASE_INSENSITIVE_ORDER"), (0, u "Ljava/util/Comparator;"), (181, u "valueOf"), (0, u "(C)Ljava/lang/String;"), (231, .methodref 107 1016), (0, .nameAndType 1017 369), (0, u "canEncode"), (0, .methodref 107 1019), (0, .nameAndType 53 1020), (0, u "(C)[B"), (80, u "serialPersistentFields"), (0, u "[Ljava/io/ObjectStreamField;"), (0, .class_ 1104), (0, u "java/lang/String$CaseInsensitiveComparator"), (1, .class_ 1107), (0, u "java/io/Serializable"), (0, .class_ 1109), (0, u "java/lang/Comparable"), (0, .class_ 1111), (0, u "java/lang/constant/Constable"), (0, .class_ 1113), (0, u "java/lang/constant/ConstantDesc"), (2, u "serialVersionUID"), (0, u "J"), (3, u "REPL"), (0, u "C"), (2, u "LATIN1"), (1, u "UTF16")] 323

def k18m0 : Method := { name := "<init>", desc := "()V", sig := { parameters := [], returnType := none }, accessFlags := 1, code := none }
def k18c1 : Code := { maxStack := 4, maxLocals := 1, code := jdk_42_method_139_code, exceptionTable := #[], attributes := #[] }
def k18m1 : Method := { name := "valueOf", desc := "(C)Ljava/lang/String;", sig := { parameters := [.char], returnType := some (.object "java/lang/String") }, accessFlags := 9, code := some k18c1 }
def k18c2 : Code := { maxStack := 2, maxLocals := 3, code := jdk_42_method_151_code, exceptionTable := #[], attributes := #[] }
def k18m2 : Method := { name := "<init>", desc := "([BB)V", sig := { parameters := [(.array .byte), .byte], returnType := none }, accessFlags := 0, code := some k18c2 }
/-- java/lang/String -/
def k18 : Class := { plain "java/lang/String" (some 0) with
  accessFlags := 49
  interfaces := #[10, 14, 15, 16, 17]
  cf := some (fileOf pool18 10 #[.nestMembers #[1103]] #[{ accessFlags := 1, nameIndex := 5, descriptorIndex := 6, attributes := #[] }, { accessFlags := 9, nameIndex := 782, descriptorIndex := 783, attributes := #[] }, { accessFlags := 0, nameIndex := 5, descriptorIndex := 211, attributes := #[] }] 49 2 #[1106, 1108, 575, 1110, 1112] #[{ accessFlags := 18, nameIndex := 13, descriptorIndex := 14, attributes := #[] }, { accessFlags := 18, nameIndex := 17, descriptorIndex := 18, attributes := #[] }, { accessFlags := 2, nameIndex := 21, descriptorIndex := 22, attributes := #[] }, { accessFlags := 2, nameIndex := 25, descriptorIndex := 26, attributes := #[] }, { accessFlags := 26, nameIndex := 1116, descriptorIndex := 1117, attributes := #[] }, { accessFlags := 24, nameIndex := 40, descriptorIndex := 26, attributes := #[] }, { accessFlags := 26, nameIndex := 1101, descriptorIndex := 1102, attributes := #[] }, { accessFlags := 26, nameIndex := 1121, descriptorIndex := 1122, attributes := #[] }, { accessFlags := 25, nameIndex := 599, descriptorIndex := 600, attributes := #[] }, { accessFlags := 24, nameIndex := 1125, descriptorIndex := 18, attributes := #[] }, { accessFlags := 24, nameIndex := 1127, descriptorIndex := 18, attributes := #[] }])
  fields := #[{ name := "value", type := (.array .byte), accessFlags := 18, slot := 0, constantValue := 0 }, { name := "coder", type := .byte, accessFlags := 18, slot := 1, constantValue := 0 }, { name := "hash", type := .int, accessFlags := 2, slot := 2, constantValue := 0 }, { name := "hashIsZero", type := .boolean, accessFlags := 2, slot := 3, constantValue := 0 }, { name := "serialVersionUID", type := .long, accessFlags := 26, slot := 0, constantValue := 0 }, { name := "COMPACT_STRINGS", type := .boolean, accessFlags := 24, slot := 1, constantValue := 0 }, { name := "serialPersistentFields", type := (.array (.object "java/io/ObjectStreamField")), accessFlags := 26, slot := 2, constantValue := 0 }, { name := "REPL", type := .char, accessFlags := 26, slot := 3, constantValue := 0 }, { name := "CASE_INSENSITIVE_ORDER", type := (.object "java/util/Comparator"), accessFlags := 25, slot := 4, constantValue := 0 }, { name := "LATIN1", type := .byte, accessFlags := 24, slot := 5, constantValue := 0 }, { name := "UTF16", type := .byte, accessFlags := 24, slot := 6, constantValue := 0 }]
  methods := #[k18m0, k18m1, k18m2]
  instanceTypes := #[(.array .byte), .byte, .int, .boolean]
  staticTypes := #[.long, .boolean, (.array (.object "java/io/ObjectStreamField")), .char, (.object "java/util/Comparator"), .byte, .byte]
  resolved := Array.replicate 1451 none
  statics := some 1 }

def pool19 : Array CpInfo := pool [(4, .class_ 6), (1, u "java/lang/Object"), (0, u "<init>"), (0, u "()V"), (5, .class_ 16), (1, u "java/lang/StringLatin1"), (73, u "canEncode"), (14, u "(C)Z"), (15, u "$assertionsDisabled"), (0, u "Z"), (98, .class_ 223), (1, u "java/lang/StringLatin1$LinesSpliterator"), (156, u "toBytes"), (1, u "(C)[B"), (7, .class_ 391), (0, u "java/lang/StringLatin1$CharsSpliterator")] 3

def k19m0 : Method := { name := "<init>", desc := "()V", sig := { parameters := [], returnType := none }, accessFlags := 0, code := none }
def k19c1 : Code := { maxStack := 2, maxLocals := 1, code := jdk_43_method_3_code, exceptionTable := #[], attributes := #[] }
def k19m1 : Method := { name := "canEncode", desc := "(C)Z", sig := { parameters := [.char], returnType := some .boolean }, accessFlags := 9, code := some k19c1 }
def k19c2 : Code := { maxStack := 4, maxLocals := 1, code := jdk_43_method_46_code, exceptionTable := #[], attributes := #[] }
def k19m2 : Method := { name := "toBytes", desc := "(C)[B", sig := { parameters := [.char], returnType := some (.array .byte) }, accessFlags := 9, code := some k19c2 }
/-- java/lang/StringLatin1 -/
def k19 : Class := { plain "java/lang/StringLatin1" (some 0) with
  accessFlags := 48
  interfaces := #[]
  cf := some (fileOf pool19 14 #[.nestMembers #[390, 221]] #[{ accessFlags := 0, nameIndex := 7, descriptorIndex := 8, attributes := #[] }, { accessFlags := 9, nameIndex := 90, descriptorIndex := 105, attributes := #[] }, { accessFlags := 9, nameIndex := 380, descriptorIndex := 382, attributes := #[] }] 48 4 #[] #[{ accessFlags := 4120, nameIndex := 121, descriptorIndex := 122, attributes := #[] }])
  fields := #[{ name := "$assertionsDisabled", type := .boolean, accessFlags := 4120, slot := 0, constantValue := 0 }]
  methods := #[k19m0, k19m1, k19m2]
  instanceTypes := #[]
  staticTypes := #[.boolean]
  resolved := Array.replicate 395 none
  statics := none }

def pool20 : Array CpInfo := pool [(1, .class_ 2), (0, u "java/lang/Math"), (1, .class_ 6), (1, u "java/lang/Object"), (0, u "<init>"), (0, u "()V"), (89, .class_ 100), (1, u "java/lang/Math$RandomNumberGeneratorHolder"), (71, u "negativeZeroFloatBits"), (0, u "J"), (2, u "negativeZeroDoubleBits"), (21, u "max"), (46, u "$assertionsDisabled"), (0, u "Z"), (88, u "(II)I"), (2, u "twoToTheDoubleScaleDown"), (0, u "D"), (4, u "twoToTheDoubleScaleUp"), (9, u "E"), (3, u "PI"), (2, u "TAU"), (2, u "DEGREES_TO_RADIANS"), (0, u "RADIANS_TO_DEGREES")] 94

def k20m0 : Method := { name := "<init>", desc := "()V", sig := { parameters := [], returnType := none }, accessFlags := 2, code := none }
def k20c1 : Code := { maxStack := 2, maxLocals := 2, code := jdk_29_method_65_code, exceptionTable := #[], attributes := #[] }
def k20m1 : Method := { name := "max", desc := "(II)I", sig := { parameters := [.int, .int], returnType := some .int }, accessFlags := 9, code := some k20c1 }
/-- java/lang/Math -/
def k20 : Class := { plain "java/lang/Math" (some 0) with
  accessFlags := 49
  interfaces := #[]
  cf := some (fileOf pool20 1 #[.nestMembers #[98]] #[{ accessFlags := 2, nameIndex := 7, descriptorIndex := 8, attributes := #[] }, { accessFlags := 9, nameIndex := 198, descriptorIndex := 335, attributes := #[] }] 49 4 #[] #[{ accessFlags := 25, nameIndex := 354, descriptorIndex := 339, attributes := #[] }, { accessFlags := 25, nameIndex := 358, descriptorIndex := 339, attributes := #[] }, { accessFlags := 25, nameIndex := 361, descriptorIndex := 339, attributes := #[] }, { accessFlags := 26, nameIndex := 364, descriptorIndex := 339, attributes := #[] }, { accessFlags := 26, nameIndex := 365, descriptorIndex := 339, attributes := #[] }, { accessFlags := 26, nameIndex := 172, descriptorIndex := 173, attributes := #[] }, { accessFlags := 26, nameIndex := 176, descriptorIndex := 173, attributes := #[] }, { accessFlags := 8, nameIndex := 344, descriptorIndex := 339, attributes := #[] }, { accessFlags := 8, nameIndex := 338, descriptorIndex := 339, attributes := #[] }, { accessFlags := 4120, nameIndex := 245, descriptorIndex := 246, attributes := #[] }])
  fields := #[{ name := "E", type := .double, accessFlags := 25, slot := 0, constantValue := 0 }, { name := "PI", type := .double, accessFlags := 25, slot := 1, constantValue := 0 }, { name := "TAU", type := .double, accessFlags := 25, slot := 2, constantValue := 0 }, { name := "DEGREES_TO_RADIANS", type := .double, accessFlags := 26, slot := 3, constantValue := 0 }, { name := "RADIANS_TO_DEGREES", type := .double, accessFlags := 26, slot := 4, constantValue := 0 }, { name := "negativeZeroFloatBits", type := .long, accessFlags := 26, slot := 5, constantValue := 0 }, { name := "negativeZeroDoubleBits", type := .long, accessFlags := 26, slot := 6, constantValue := 0 }, { name := "twoToTheDoubleScaleUp", type := .double, accessFlags := 8, slot := 7, constantValue := 0 }, { name := "twoToTheDoubleScaleDown", type := .double, accessFlags := 8, slot := 8, constantValue := 0 }, { name := "$assertionsDisabled", type := .boolean, accessFlags := 4120, slot := 9, constantValue := 0 }]
  methods := #[k20m0, k20m1]
  instanceTypes := #[]
  staticTypes := #[.double, .double, .double, .double, .double, .long, .long, .double, .double, .boolean]
  resolved := Array.replicate 460 none
  statics := none }

def pool21 : Array CpInfo := pool [(1, .methodref 2 3), (0, .class_ 4), (0, .nameAndType 5 6), (0, u "java/lang/Record"), (0, u "<init>"), (0, u "()V"), (0, .fieldref 8 9), (0, .class_ 10), (0, .nameAndType 11 12), (0, u "com/example/kereso/kereso/Search$ResultPage"), (0, u "number"), (0, u "I"), (0, .fieldref 8 14), (0, .nameAndType 15 16), (0, u "hits"), (0, u "Ljava/util/List;"), (0, .fieldref 8 18), (0, .nameAndType 19 20), (0, u "hasNext"), (0, u "Z"), (14, u "(ILjava/util/List;Z)V"), (4, u "hasPrevious"), (0, u "()Z"), (2, u "()I"), (6, .class_ 52), (0, u "com/example/kereso/kereso/Search")] 24

def k21c0 : Code := { maxStack := 2, maxLocals := 4, code := prog_40_method_1_code, exceptionTable := #[], attributes := #[] }
def k21m0 : Method := { name := "<init>", desc := "(ILjava/util/List;Z)V", sig := { parameters := [.int, (.object "java/util/List"), .boolean], returnType := none }, accessFlags := 0, code := some k21c0 }
def k21c1 : Code := { maxStack := 2, maxLocals := 1, code := prog_40_method_2_code, exceptionTable := #[], attributes := #[] }
def k21m1 : Method := { name := "hasPrevious", desc := "()Z", sig := { parameters := [], returnType := some .boolean }, accessFlags := 0, code := some k21c1 }
def k21c2 : Code := { maxStack := 1, maxLocals := 1, code := prog_40_method_6_code, exceptionTable := #[], attributes := #[] }
def k21m2 : Method := { name := "number", desc := "()I", sig := { parameters := [], returnType := some .int }, accessFlags := 1, code := some k21c2 }
/-- com/example/kereso/kereso/Search$ResultPage -/
def k21 : Class := { plain "com/example/kereso/kereso/Search$ResultPage" (some 12) with
  accessFlags := 48
  interfaces := #[]
  cf := some (fileOf pool21 8 #[.nestHost 51] #[{ accessFlags := 0, nameIndex := 5, descriptorIndex := 35, attributes := #[] }, { accessFlags := 0, nameIndex := 40, descriptorIndex := 41, attributes := #[] }, { accessFlags := 1, nameIndex := 11, descriptorIndex := 44, attributes := #[] }] 48 2 #[] #[{ accessFlags := 18, nameIndex := 11, descriptorIndex := 12, attributes := #[] }, { accessFlags := 18, nameIndex := 15, descriptorIndex := 16, attributes := #[] }, { accessFlags := 18, nameIndex := 19, descriptorIndex := 20, attributes := #[] }])
  fields := #[{ name := "number", type := .int, accessFlags := 18, slot := 0, constantValue := 0 }, { name := "hits", type := (.object "java/util/List"), accessFlags := 18, slot := 1, constantValue := 0 }, { name := "hasNext", type := .boolean, accessFlags := 18, slot := 2, constantValue := 0 }]
  methods := #[k21m0, k21m1, k21m2]
  instanceTypes := #[.int, (.object "java/util/List"), .boolean]
  staticTypes := #[]
  resolved := Array.replicate 77 none
  statics := none }

def pool22 : Array CpInfo := pool [(2, .class_ 4), (1, u "java/lang/Object"), (0, u "<init>"), (0, u "()V"), (17, .class_ 26), (1, u "jdk/internal/util/Preconditions"), (28, .class_ 56), (0, u "jdk/internal/util/Preconditions$4"), (57, .class_ 115), (0, u "jdk/internal/util/Preconditions$1"), (7, u "SIOOBE_FORMATTER"), (0, u "Ljava/util/function/BiFunction;"), (0, .class_ 126), (0, u "jdk/internal/util/Preconditions$2"), (3, u "AIOOBE_FORMATTER"), (0, .class_ 132), (0, u "jdk/internal/util/Preconditions$3"), (3, u "IOOBE_FORMATTER")] 57

def k22m0 : Method := { name := "<init>", desc := "()V", sig := { parameters := [], returnType := none }, accessFlags := 1, code := none }
/-- jdk/internal/util/Preconditions -/
def k22 : Class := { plain "jdk/internal/util/Preconditions" (some 0) with
  accessFlags := 33
  interfaces := #[]
  cf := some (fileOf pool22 24 #[.nestMembers #[55, 131, 125, 114]] #[{ accessFlags := 1, nameIndex := 5, descriptorIndex := 6, attributes := #[] }] 33 2 #[] #[{ accessFlags := 25, nameIndex := 123, descriptorIndex := 124, attributes := #[] }, { accessFlags := 25, nameIndex := 130, descriptorIndex := 124, attributes := #[] }, { accessFlags := 25, nameIndex := 136, descriptorIndex := 124, attributes := #[] }])
  fields := #[{ name := "SIOOBE_FORMATTER", type := (.object "java/util/function/BiFunction"), accessFlags := 25, slot := 0, constantValue := 0 }, { name := "AIOOBE_FORMATTER", type := (.object "java/util/function/BiFunction"), accessFlags := 25, slot := 1, constantValue := 0 }, { name := "IOOBE_FORMATTER", type := (.object "java/util/function/BiFunction"), accessFlags := 25, slot := 2, constantValue := 0 }]
  methods := #[k22m0]
  instanceTypes := #[]
  staticTypes := #[(.object "java/util/function/BiFunction"), (.object "java/util/function/BiFunction"), (.object "java/util/function/BiFunction")]
  resolved := Array.replicate 194 none
  statics := some 2 }

def pool23 : Array CpInfo := pool [(9, u "<init>"), (6, .class_ 18), (1, u "java/lang/Object"), (0, u "()V"), (1, .class_ 23), (1, u "jdk/internal/util/ArraysSupport"), (0, u "LOG2_ARRAY_LONG_INDEX_SCALE"), (0, u "I"), (2, u "U"), (0, u "Ljdk/internal/misc/Unsafe;"), (8, u "BIG_ENDIAN"), (0, u "Z"), (8, u "LOG2_BYTE_BIT_SIZE"), (4, u "LOG2_ARRAY_INT_INDEX_SCALE"), (54, u "JLA"), (0, u "Ljdk/internal/access/JavaLangAccess;"), (11, u "LOG2_ARRAY_BOOLEAN_INDEX_SCALE"), (9, u "LOG2_ARRAY_BYTE_INDEX_SCALE"), (5, u "LOG2_ARRAY_CHAR_INDEX_SCALE"), (5, u "LOG2_ARRAY_SHORT_INDEX_SCALE"), (18, u "LOG2_ARRAY_FLOAT_INDEX_SCALE"), (24, u "LOG2_ARRAY_DOUBLE_INDEX_SCALE"), (89, u "T_BOOLEAN"), (2, u "T_CHAR"), (1, u "T_FLOAT"), (1, u "T_DOUBLE"), (1, u "T_BYTE"), (1, u "T_SHORT"), (1, u "T_INT"), (1, u "T_LONG"), (1, u "SOFT_MAX_ARRAY_LENGTH")] 83

def k23m0 : Method := { name := "<init>", desc := "()V", sig := { parameters := [], returnType := none }, accessFlags := 2, code := none }
/-- jdk/internal/util/ArraysSupport -/
def k23 : Class := { plain "jdk/internal/util/ArraysSupport" (some 0) with
  accessFlags := 33
  interfaces := #[]
  cf := some (fileOf pool23 21 #[] #[{ accessFlags := 2, nameIndex := 9, descriptorIndex := 19, attributes := #[] }] 33 16 #[] #[{ accessFlags := 24, nameIndex := 28, descriptorIndex := 29, attributes := #[] }, { accessFlags := 26, nameIndex := 38, descriptorIndex := 39, attributes := #[] }, { accessFlags := 25, nameIndex := 121, descriptorIndex := 25, attributes := #[] }, { accessFlags := 25, nameIndex := 131, descriptorIndex := 25, attributes := #[] }, { accessFlags := 25, nameIndex := 137, descriptorIndex := 25, attributes := #[] }, { accessFlags := 25, nameIndex := 143, descriptorIndex := 25, attributes := #[] }, { accessFlags := 25, nameIndex := 53, descriptorIndex := 25, attributes := #[] }, { accessFlags := 25, nameIndex := 24, descriptorIndex := 25, attributes := #[] }, { accessFlags := 25, nameIndex := 162, descriptorIndex := 25, attributes := #[] }, { accessFlags := 25, nameIndex := 187, descriptorIndex := 25, attributes := #[] }, { accessFlags := 26, nameIndex := 48, descriptorIndex := 25, attributes := #[] }, { accessFlags := 25, nameIndex := 277, descriptorIndex := 25, attributes := #[] }, { accessFlags := 25, nameIndex := 280, descriptorIndex := 25, attributes := #[] }, { accessFlags := 25, nameIndex := 282, descriptorIndex := 25, attributes := #[] }, { accessFlags := 25, nameIndex := 284, descriptorIndex := 25, attributes := #[] }, { accessFlags := 25, nameIndex := 286, descriptorIndex := 25, attributes := #[] }, { accessFlags := 25, nameIndex := 288, descriptorIndex := 25, attributes := #[] }, { accessFlags := 25, nameIndex := 290, descriptorIndex := 25, attributes := #[] }, { accessFlags := 25, nameIndex := 292, descriptorIndex := 25, attributes := #[] }, { accessFlags := 26, nameIndex := 108, descriptorIndex := 109, attributes := #[] }, { accessFlags := 25, nameIndex := 294, descriptorIndex := 25, attributes := #[] }])
  fields := #[{ name := "U", type := (.object "jdk/internal/misc/Unsafe"), accessFlags := 24, slot := 0, constantValue := 0 }, { name := "BIG_ENDIAN", type := .boolean, accessFlags := 26, slot := 1, constantValue := 0 }, { name := "LOG2_ARRAY_BOOLEAN_INDEX_SCALE", type := .int, accessFlags := 25, slot := 2, constantValue := 0 }, { name := "LOG2_ARRAY_BYTE_INDEX_SCALE", type := .int, accessFlags := 25, slot := 3, constantValue := 0 }, { name := "LOG2_ARRAY_CHAR_INDEX_SCALE", type := .int, accessFlags := 25, slot := 4, constantValue := 0 }, { name := "LOG2_ARRAY_SHORT_INDEX_SCALE", type := .int, accessFlags := 25, slot := 5, constantValue := 0 }, { name := "LOG2_ARRAY_INT_INDEX_SCALE", type := .int, accessFlags := 25, slot := 6, constantValue := 0 }, { name := "LOG2_ARRAY_LONG_INDEX_SCALE", type := .int, accessFlags := 25, slot := 7, constantValue := 0 }, { name := "LOG2_ARRAY_FLOAT_INDEX_SCALE", type := .int, accessFlags := 25, slot := 8, constantValue := 0 }, { name := "LOG2_ARRAY_DOUBLE_INDEX_SCALE", type := .int, accessFlags := 25, slot := 9, constantValue := 0 }, { name := "LOG2_BYTE_BIT_SIZE", type := .int, accessFlags := 26, slot := 10, constantValue := 0 }, { name := "T_BOOLEAN", type := .int, accessFlags := 25, slot := 11, constantValue := 0 }, { name := "T_CHAR", type := .int, accessFlags := 25, slot := 12, constantValue := 0 }, { name := "T_FLOAT", type := .int, accessFlags := 25, slot := 13, constantValue := 0 }, { name := "T_DOUBLE", type := .int, accessFlags := 25, slot := 14, constantValue := 0 }, { name := "T_BYTE", type := .int, accessFlags := 25, slot := 15, constantValue := 0 }, { name := "T_SHORT", type := .int, accessFlags := 25, slot := 16, constantValue := 0 }, { name := "T_INT", type := .int, accessFlags := 25, slot := 17, constantValue := 0 }, { name := "T_LONG", type := .int, accessFlags := 25, slot := 18, constantValue := 0 }, { name := "JLA", type := (.object "jdk/internal/access/JavaLangAccess"), accessFlags := 26, slot := 19, constantValue := 0 }, { name := "SOFT_MAX_ARRAY_LENGTH", type := .int, accessFlags := 25, slot := 20, constantValue := 0 }]
  methods := #[k23m0]
  instanceTypes := #[]
  staticTypes := #[(.object "jdk/internal/misc/Unsafe"), .boolean, .int, .int, .int, .int, .int, .int, .int, .int, .int, .int, .int, .int, .int, .int, .int, .int, .int, (.object "jdk/internal/access/JavaLangAccess"), .int]
  resolved := Array.replicate 378 none
  statics := none }

/-- the primitive byte -/
def k24 : Class := { plain "byte" none with kind := .primitive 'B', accessFlags := 0x411 }
/-- [B -/
def k25 : Class := { plain "[B" (some 0) with kind := .array 24 .byte, interfaces := #[9, 10], accessFlags := 1041 }

/-- [Ljava/lang/Object; -/
def k26 : Class := { plain "[Ljava/lang/Object;" (some 0) with kind := .array 0 (.object "java/lang/Object"), interfaces := #[9, 10], accessFlags := 1041 }

def heap : Heap := #[{ cls := 11, slots := #[.long 0, .int 0, .ref 3, .ref 4], vm := .statics 11 },
  { cls := 18, slots := #[.long 0, .int 1, .null, .int 0, .null, .int 0, .int 0], vm := .statics 18 },
  { cls := 22, slots := #[.null, .null, .null], vm := .statics 22 },
  { cls := 26, slots := #[], vm := .none },
  { cls := 26, slots := #[], vm := .none }]
def classes : Array Class := #[k0, k1, k2, k3, k4, k5, k6, k7, k8, k9, k10, k11, k12, k13, k14, k15, k16, k17, k18, k19, k20, k21, k22, k23, k24, k25, k26]
def interned : List (Array UInt16 × Addr) := []
def slotsUsed : Nat := 14
def theMethod : MethodId := ⟨1, 1⟩
def args0 : Array Value := #[.int 5, .int 7]
def aboutOver (below : List Frame) : State where
  vm := { classes := classes, interned := interned.toArray }
  heap := heap
  slotsUsed := slotsUsed
  threads := #[{ frames := .invoking theMethod args0 :: below }]
def below0 : List Frame := [.native { method := ⟨0, 0⟩, args := #[] }]
def about1 : State := aboutOver below0
def p0 : Program := .bare "" "" ""
def e0 : Env := launch0.env 0 0 0
theorem w_frames : about1.frames = Frame.invoking theMethod args0 :: below0 := rfl
set_option maxRecDepth 65536 in
theorem w_args : argsFit about1.vm theMethod args0 = true := by decide +kernel
set_option maxRecDepth 65536 in
theorem w_heap : heapFits about1 = true := by decide +kernel
set_option maxRecDepth 65536 in
theorem w_runnable : about1.curStatus? = some .runnable := by decide +kernel
set_option maxRecDepth 65536 in
theorem w_alone : about1.alone = true := by decide +kernel
set_option maxRecDepth 65536 in
theorem w_named : about1.methodNamed? x = some theMethod := by decide +kernel
set_option maxRecDepth 65536 in
theorem w_hears : about1.hears theMethod below0 = true := by decide +kernel
set_option maxRecDepth 65536 in
theorem w_ripe : about1.ripe theMethod args0 below0 = true := by decide +kernel
theorem w_running : about1.status = .running := rfl
set_option maxRecDepth 65536 in
theorem w_room : about1.hasRoom e0.platform room_1 = true :=
  launch0.hasRoom_least _ room_1 (by decide +kernel) (by decide +kernel) (by decide +kernel) (by decide +kernel) (by decide +kernel) (by decide +kernel)
theorem allAtoms_all (ts : List Jvm.Cond) (a : Array Jvm.Value) (st : Jvm.State) : (allAtoms ts).before a st = ts.all (fun c => c.before a st) := by
  induction ts with
  | nil => rfl
  | cons c t ih =>
    show (Jvm.Cond.and c (allAtoms t)).before a st = _
    rw [Jvm.Cond.before_and, ih, List.all_cons]
def words1 : List Jvm.Cond := Jvm.Cond.code x code maxLocals ret :: tables_1
/-- a 'code' word, met by the world's own term for the bytes: nothing is compared byte by byte -/
theorem code_word {y : MethodName} {bytes : ByteArray} {mx : Nat} {rt : Option FieldType} {a : Array Value} {s : State} {m : MethodId} {meth : Method} {c : Code} (h1 : s.methodNamed? y = some m) (h2 : s.vm.method? m = some meth) (h3 : meth.code = some c) (h4 : c.code = bytes)
    (h5 : (c.maxLocals == mx && c.exceptionTable.isEmpty && decide (c.maxStack ≤ mostOperands) && decide (meth.sig.returnType = rt) && !meth.locks && decide (parseMethodDescriptor y.desc = some meth.sig)) = true) : (Jvm.Cond.code y bytes mx rt).before a s = true := by
  simp only [Bool.and_eq_true, beq_iff_eq, Bool.not_eq_true', decide_eq_true_eq] at h5
  obtain ⟨⟨⟨⟨⟨g1, g2⟩, g3⟩, g4⟩, g5⟩, g6⟩ := h5
  simp [Cond.before, Cond.holds, Cond.value, h1, h2, h3, h4, g1, g2, g3, g4, g5, g6]
def isCode : Jvm.Cond → Bool
  | .code _ _ _ _ => true
  | _ => false
theorem all_split {L : List Jvm.Cond} {P : Jvm.Cond → Bool} (h1 : L.all (fun c => isCode c || P c) = true) (h2 : ∀ c ∈ L.filter isCode, P c = true) : L.all P = true := by
  refine List.all_eq_true.mpr fun c hc => ?_
  have h := List.all_eq_true.mp h1 c hc
  rcases Bool.eq_false_or_eq_true (isCode c) with hi | hi
  · exact h2 c (List.mem_filter.mpr ⟨hc, hi⟩)
  · simpa [hi] using h
set_option maxRecDepth 65536 in
theorem w_c0 : (Jvm.Cond.code x code maxLocals ret).before args0 about1 = true := code_word (m := ⟨1, 1⟩) (meth := k1m1) (c := k1c1) (by decide +kernel) rfl rfl rfl (by decide +kernel)
set_option maxRecDepth 65536 in
theorem w_c1 : (Jvm.Cond.code ({ cls := "java/util/ArrayList", name := "<init>", desc := "()V" } : Jvm.MethodName) jdk_38_method_2_code (1 : Nat) (Option.none : Option Jvm.ClassFile.FieldType)).before args0 about1 = true := code_word (m := ⟨11, 0⟩) (meth := k11m0) (c := k11c0) (by decide +kernel) rfl rfl rfl (by decide +kernel)
set_option maxRecDepth 65536 in
theorem w_c2 : (Jvm.Cond.code ({ cls := "java/util/AbstractList", name := "<init>", desc := "()V" } : Jvm.MethodName) jdk_39_method_1_code (1 : Nat) (Option.none : Option Jvm.ClassFile.FieldType)).before args0 about1 = true := code_word (m := ⟨7, 0⟩) (meth := k7m0) (c := k7c0) (by decide +kernel) rfl rfl rfl (by decide +kernel)
set_option maxRecDepth 65536 in
theorem w_c3 : (Jvm.Cond.code ({ cls := "java/util/AbstractCollection", name := "<init>", desc := "()V" } : Jvm.MethodName) jdk_22_method_1_code (1 : Nat) (Option.none : Option Jvm.ClassFile.FieldType)).before args0 about1 = true := code_word (m := ⟨4, 0⟩) (meth := k4m0) (c := k4c0) (by decide +kernel) rfl rfl rfl (by decide +kernel)
set_option maxRecDepth 65536 in
theorem w_c4 : (Jvm.Cond.code ({ cls := "java/lang/Object", name := "<init>", desc := "()V" } : Jvm.MethodName) object_method_1_code (1 : Nat) (Option.none : Option Jvm.ClassFile.FieldType)).before args0 about1 = true := code_word (m := ⟨0, 0⟩) (meth := k0m0) (c := k0c0) (by decide +kernel) rfl rfl rfl (by decide +kernel)
set_option maxRecDepth 65536 in
theorem w_c5 : (Jvm.Cond.code ({ cls := "java/lang/String", name := "valueOf", desc := "(C)Ljava/lang/String;" } : Jvm.MethodName) jdk_42_method_139_code (1 : Nat) (Option.some (Jvm.ClassFile.FieldType.object "java/lang/String"))).before args0 about1 = true := code_word (m := ⟨18, 1⟩) (meth := k18m1) (c := k18c1) (by decide +kernel) rfl rfl rfl (by decide +kernel)
set_option maxRecDepth 65536 in
theorem w_c6 : (Jvm.Cond.code ({ cls := "java/lang/StringLatin1", name := "canEncode", desc := "(C)Z" } : Jvm.MethodName) jdk_43_method_3_code (1 : Nat) (Option.some Jvm.ClassFile.FieldType.boolean)).before args0 about1 = true := code_word (m := ⟨19, 1⟩) (meth := k19m1) (c := k19c1) (by decide +kernel) rfl rfl rfl (by decide +kernel)
set_option maxRecDepth 65536 in
theorem w_c7 : (Jvm.Cond.code ({ cls := "java/lang/StringLatin1", name := "toBytes", desc := "(C)[B" } : Jvm.MethodName) jdk_43_method_46_code (1 : Nat) (Option.some (Jvm.ClassFile.FieldType.array Jvm.ClassFile.FieldType.byte))).before args0 about1 = true := code_word (m := ⟨19, 2⟩) (meth := k19m2) (c := k19c2) (by decide +kernel) rfl rfl rfl (by decide +kernel)
set_option maxRecDepth 65536 in
theorem w_c8 : (Jvm.Cond.code ({ cls := "java/lang/String", name := "<init>", desc := "([BB)V" } : Jvm.MethodName) jdk_42_method_151_code (3 : Nat) (Option.none : Option Jvm.ClassFile.FieldType)).before args0 about1 = true := code_word (m := ⟨18, 2⟩) (meth := k18m2) (c := k18c2) (by decide +kernel) rfl rfl rfl (by decide +kernel)
set_option maxRecDepth 65536 in
theorem w_c9 : (Jvm.Cond.code ({ cls := "com/example/kereso/kereso/Search$Hit", name := "<init>", desc := "(IDLjava/lang/String;Ljava/lang/String;)V" } : Jvm.MethodName) prog_39_method_1_code (6 : Nat) (Option.none : Option Jvm.ClassFile.FieldType)).before args0 about1 = true := code_word (m := ⟨13, 0⟩) (meth := k13m0) (c := k13c0) (by decide +kernel) rfl rfl rfl (by decide +kernel)
set_option maxRecDepth 65536 in
theorem w_c10 : (Jvm.Cond.code ({ cls := "java/lang/Record", name := "<init>", desc := "()V" } : Jvm.MethodName) jdk_30_method_1_code (1 : Nat) (Option.none : Option Jvm.ClassFile.FieldType)).before args0 about1 = true := code_word (m := ⟨12, 0⟩) (meth := k12m0) (c := k12c0) (by decide +kernel) rfl rfl rfl (by decide +kernel)
set_option maxRecDepth 65536 in
theorem w_c11 : (Jvm.Cond.code ({ cls := "java/util/ArrayList", name := "add", desc := "(Ljava/lang/Object;)Z" } : Jvm.MethodName) jdk_38_method_25_code (2 : Nat) (Option.some Jvm.ClassFile.FieldType.boolean)).before args0 about1 = true := code_word (m := ⟨11, 4⟩) (meth := k11m4) (c := k11c4) (by decide +kernel) rfl rfl rfl (by decide +kernel)
set_option maxRecDepth 65536 in
theorem w_c12 : (Jvm.Cond.code ({ cls := "java/util/ArrayList", name := "add", desc := "(Ljava/lang/Object;[Ljava/lang/Object;I)V" } : Jvm.MethodName) jdk_38_method_24_code (4 : Nat) (Option.none : Option Jvm.ClassFile.FieldType)).before args0 about1 = true := code_word (m := ⟨11, 3⟩) (meth := k11m3) (c := k11c3) (by decide +kernel) rfl rfl rfl (by decide +kernel)
set_option maxRecDepth 65536 in
theorem w_c13 : (Jvm.Cond.code ({ cls := "java/util/ArrayList", name := "grow", desc := "()[Ljava/lang/Object;" } : Jvm.MethodName) jdk_38_method_7_code (1 : Nat) (Option.some (Jvm.ClassFile.FieldType.array (Jvm.ClassFile.FieldType.object "java/lang/Object")))).before args0 about1 = true := code_word (m := ⟨11, 2⟩) (meth := k11m2) (c := k11c2) (by decide +kernel) rfl rfl rfl (by decide +kernel)
set_option maxRecDepth 65536 in
theorem w_c14 : (Jvm.Cond.code ({ cls := "java/util/ArrayList", name := "grow", desc := "(I)[Ljava/lang/Object;" } : Jvm.MethodName) jdk_38_method_6_code (4 : Nat) (Option.some (Jvm.ClassFile.FieldType.array (Jvm.ClassFile.FieldType.object "java/lang/Object")))).before args0 about1 = true := code_word (m := ⟨11, 1⟩) (meth := k11m1) (c := k11c1) (by decide +kernel) rfl rfl rfl (by decide +kernel)
set_option maxRecDepth 65536 in
theorem w_c15 : (Jvm.Cond.code ({ cls := "java/lang/Math", name := "max", desc := "(II)I" } : Jvm.MethodName) jdk_29_method_65_code (2 : Nat) (Option.some Jvm.ClassFile.FieldType.int)).before args0 about1 = true := code_word (m := ⟨20, 1⟩) (meth := k20m1) (c := k20c1) (by decide +kernel) rfl rfl rfl (by decide +kernel)
set_option maxRecDepth 65536 in
theorem w_c16 : (Jvm.Cond.code ({ cls := "com/example/kereso/kereso/Search$ResultPage", name := "<init>", desc := "(ILjava/util/List;Z)V" } : Jvm.MethodName) prog_40_method_1_code (4 : Nat) (Option.none : Option Jvm.ClassFile.FieldType)).before args0 about1 = true := code_word (m := ⟨21, 0⟩) (meth := k21m0) (c := k21c0) (by decide +kernel) rfl rfl rfl (by decide +kernel)
set_option maxRecDepth 65536 in
theorem w_c17 : (Jvm.Cond.code ({ cls := "com/example/kereso/kereso/Search$ResultPage", name := "hasPrevious", desc := "()Z" } : Jvm.MethodName) prog_40_method_2_code (1 : Nat) (Option.some Jvm.ClassFile.FieldType.boolean)).before args0 about1 = true := code_word (m := ⟨21, 1⟩) (meth := k21m1) (c := k21c1) (by decide +kernel) rfl rfl rfl (by decide +kernel)
set_option maxRecDepth 65536 in
theorem w_c18 : (Jvm.Cond.code ({ cls := "com/example/kereso/kereso/Search$ResultPage", name := "number", desc := "()I" } : Jvm.MethodName) prog_40_method_6_code (1 : Nat) (Option.some Jvm.ClassFile.FieldType.int)).before args0 about1 = true := code_word (m := ⟨21, 2⟩) (meth := k21m2) (c := k21c2) (by decide +kernel) rfl rfl rfl (by decide +kernel)
def codes1 : List Jvm.Cond := [Jvm.Cond.code x code maxLocals ret, Jvm.Cond.code ({ cls := "java/util/ArrayList", name := "<init>", desc := "()V" } : Jvm.MethodName) jdk_38_method_2_code (1 : Nat) (Option.none : Option Jvm.ClassFile.FieldType), Jvm.Cond.code ({ cls := "java/util/AbstractList", name := "<init>", desc := "()V" } : Jvm.MethodName) jdk_39_method_1_code (1 : Nat) (Option.none : Option Jvm.ClassFile.FieldType), Jvm.Cond.code ({ cls := "java/util/AbstractCollection", name := "<init>", desc := "()V" } : Jvm.MethodName) jdk_22_method_1_code (1 : Nat) (Option.none : Option Jvm.ClassFile.FieldType), Jvm.Cond.code ({ cls := "java/lang/Object", name := "<init>", desc := "()V" } : Jvm.MethodName) object_method_1_code (1 : Nat) (Option.none : Option Jvm.ClassFile.FieldType), Jvm.Cond.code ({ cls := "java/lang/String", name := "valueOf", desc := "(C)Ljava/lang/String;" } : Jvm.MethodName) jdk_42_method_139_code (1 : Nat) (Option.some (Jvm.ClassFile.FieldType.object "java/lang/String")), Jvm.Cond.code ({ cls := "java/lang/StringLatin1", name := "canEncode", desc := "(C)Z" } : Jvm.MethodName) jdk_43_method_3_code (1 : Nat) (Option.some Jvm.ClassFile.FieldType.boolean), Jvm.Cond.code ({ cls := "java/lang/StringLatin1", name := "toBytes", desc := "(C)[B" } : Jvm.MethodName) jdk_43_method_46_code (1 : Nat) (Option.some (Jvm.ClassFile.FieldType.array Jvm.ClassFile.FieldType.byte)), Jvm.Cond.code ({ cls := "java/lang/String", name := "<init>", desc := "([BB)V" } : Jvm.MethodName) jdk_42_method_151_code (3 : Nat) (Option.none : Option Jvm.ClassFile.FieldType), Jvm.Cond.code ({ cls := "com/example/kereso/kereso/Search$Hit", name := "<init>", desc := "(IDLjava/lang/String;Ljava/lang/String;)V" } : Jvm.MethodName) prog_39_method_1_code (6 : Nat) (Option.none : Option Jvm.ClassFile.FieldType), Jvm.Cond.code ({ cls := "java/lang/Record", name := "<init>", desc := "()V" } : Jvm.MethodName) jdk_30_method_1_code (1 : Nat) (Option.none : Option Jvm.ClassFile.FieldType), Jvm.Cond.code ({ cls := "java/util/ArrayList", name := "add", desc := "(Ljava/lang/Object;)Z" } : Jvm.MethodName) jdk_38_method_25_code (2 : Nat) (Option.some Jvm.ClassFile.FieldType.boolean), Jvm.Cond.code ({ cls := "java/util/ArrayList", name := "add", desc := "(Ljava/lang/Object;[Ljava/lang/Object;I)V" } : Jvm.MethodName) jdk_38_method_24_code (4 : Nat) (Option.none : Option Jvm.ClassFile.FieldType), Jvm.Cond.code ({ cls := "java/util/ArrayList", name := "grow", desc := "()[Ljava/lang/Object;" } : Jvm.MethodName) jdk_38_method_7_code (1 : Nat) (Option.some (Jvm.ClassFile.FieldType.array (Jvm.ClassFile.FieldType.object "java/lang/Object"))), Jvm.Cond.code ({ cls := "java/util/ArrayList", name := "grow", desc := "(I)[Ljava/lang/Object;" } : Jvm.MethodName) jdk_38_method_6_code (4 : Nat) (Option.some (Jvm.ClassFile.FieldType.array (Jvm.ClassFile.FieldType.object "java/lang/Object"))), Jvm.Cond.code ({ cls := "java/lang/Math", name := "max", desc := "(II)I" } : Jvm.MethodName) jdk_29_method_65_code (2 : Nat) (Option.some Jvm.ClassFile.FieldType.int), Jvm.Cond.code ({ cls := "com/example/kereso/kereso/Search$ResultPage", name := "<init>", desc := "(ILjava/util/List;Z)V" } : Jvm.MethodName) prog_40_method_1_code (4 : Nat) (Option.none : Option Jvm.ClassFile.FieldType), Jvm.Cond.code ({ cls := "com/example/kereso/kereso/Search$ResultPage", name := "hasPrevious", desc := "()Z" } : Jvm.MethodName) prog_40_method_2_code (1 : Nat) (Option.some Jvm.ClassFile.FieldType.boolean), Jvm.Cond.code ({ cls := "com/example/kereso/kereso/Search$ResultPage", name := "number", desc := "()I" } : Jvm.MethodName) prog_40_method_6_code (1 : Nat) (Option.some Jvm.ClassFile.FieldType.int)]
set_option maxRecDepth 65536 in
theorem codes_eq : words1.filter isCode = codes1 := rfl
theorem w_codes : ∀ c ∈ words1.filter isCode, c.before args0 about1 = true := by
  rw [codes_eq]
  intro c hc
  simp only [codes1, List.mem_cons, List.not_mem_nil, or_false] at hc
  rcases hc with rfl | rfl | rfl | rfl | rfl | rfl | rfl | rfl | rfl | rfl | rfl | rfl | rfl | rfl | rfl | rfl | rfl | rfl | rfl
  · exact w_c0
  · exact w_c1
  · exact w_c2
  · exact w_c3
  · exact w_c4
  · exact w_c5
  · exact w_c6
  · exact w_c7
  · exact w_c8
  · exact w_c9
  · exact w_c10
  · exact w_c11
  · exact w_c12
  · exact w_c13
  · exact w_c14
  · exact w_c15
  · exact w_c16
  · exact w_c17
  · exact w_c18
set_option maxRecDepth 65536 in
theorem w_t1 : (words1.take 24).all (fun c => isCode c || c.before args0 about1) = true := by decide +kernel
set_option maxRecDepth 65536 in
theorem w_t2 : ((words1.drop 24).take 24).all (fun c => isCode c || c.before args0 about1) = true := by decide +kernel
set_option maxRecDepth 65536 in
theorem w_t3 : (((words1.drop 24).drop 24).take 24).all (fun c => isCode c || c.before args0 about1) = true := by decide +kernel
set_option maxRecDepth 65536 in
theorem w_t4 : ((((words1.drop 24).drop 24).drop 24).take 24).all (fun c => isCode c || c.before args0 about1) = true := by decide +kernel
set_option maxRecDepth 65536 in
theorem w_t5 : (((((words1.drop 24).drop 24).drop 24).drop 24).take 24).all (fun c => isCode c || c.before args0 about1) = true := by decide +kernel
set_option maxRecDepth 65536 in
theorem w_t6 : (((((words1.drop 24).drop 24).drop 24).drop 24).drop 24).all (fun c => isCode c || c.before args0 about1) = true := by decide +kernel
theorem w_tables : (allAtoms (Jvm.Cond.code x code maxLocals ret :: tables_1)).before args0 about1 = true := by
  rw [allAtoms_all]
  show words1.all (fun c => c.before args0 about1) = true
  refine all_split ?_ w_codes
  rw [← List.take_append_drop 24 words1, List.all_append, w_t1, ← List.take_append_drop 24 (words1.drop 24), List.all_append, w_t2, ← List.take_append_drop 24 ((words1.drop 24).drop 24), List.all_append, w_t3, ← List.take_append_drop 24 (((words1.drop 24).drop 24).drop 24), List.all_append, w_t4, ← List.take_append_drop 24 ((((words1.drop 24).drop 24).drop 24).drop 24), List.all_append, w_t5, w_t6]
  rfl
set_option maxRecDepth 65536 in
theorem w_rest : rest_1_c.before args0 about1 = true := by decide +kernel
set_option maxRecDepth 65536 in
theorem w_case : (Jvm.Cond.and given_1 narrow_1).before args0 about1 = true := by decide +kernel
theorem w_applies : (headSpec (Jvm.Cond.code x code maxLocals ret :: tables_1) room_1).applies x e0.platform about1 = true :=
  (Spec.applies_iff w_frames).mpr ⟨w_running, w_runnable, w_alone, w_named, w_hears, w_ripe, w_room, w_tables⟩
theorem atStart : AtStart classFile x code maxLocals ret World_1 tables_1 room_1 Calls_1 rest_1 Pre_1 launch0 p0 e0 about1 theMethod args0 below0 :=
  ⟨lists_1, trivial, launch0.admits_env _ _ _, launch0.least_env, fairChoices_fair.cas, fairChoices_fair.clock, w_frames, w_args, w_heap, w_applies, trivial, w_rest, w_case⟩
end start1
theorem witness_1 : WitnessClaimed_1 := ⟨start1.p0, start1.e0, start1.about1, start1.theMethod, start1.args0, start1.below0, start1.atStart⟩
end Jvm.Pilot.@@N@@
