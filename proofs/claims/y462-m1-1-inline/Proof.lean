import JvmDerived
import JvmDerived.Pilot.@@N@@Statement
import JvmDerived.Pilot.@@N@@Code
set_option linter.unusedVariables false
set_option linter.unusedSimpArgs false
namespace Jvm.Pilot.@@N@@
open Jvm Jvm.ClassFile Sem Op Lib Jvm.Free Jvm.Stand Jvm.LawKit Jvm.RoadKit Jvm.Free.Fl Bundle Jvm.Pilot.@@N@@.Jvm.D
/-- from here the run comes to some end at which G holds -/
def Gl (tb : Tables) (e : Env) (below : List Frame) (T : State) (g : JFrame) (G : State → Prop) : Prop := ∃ s₂, Steps tb e below (T.setTop g) s₂ ∧ G s₂
theorem Gl.via {tb : Tables} {e : Env} {below : List Frame} {T T' : State} {g g' : JFrame} {G : State → Prop} (st : ∀ t, Steps tb e below (T'.setTop g') t → Steps tb e below (T.setTop g) t) (k : Gl tb e below T' g' G) : Gl tb e below T g G := by
  obtain ⟨s₂, h1, h2⟩ := k
  exact ⟨s₂, st _ h1, h2⟩
theorem own_catI (x : Int32) : (Value.int x).category = 1 := rfl
theorem own_catR (x : Addr) : (Value.ref x).category = 1 := rfl
theorem Gl.fin {tb : Tables} {e : Env} {below : List Frame} {T U : State} {g : JFrame} {G : State → Prop} (st : Steps tb e below (T.setTop g) U) (k : G U) : Gl tb e below T g G := ⟨U, st, k⟩
theorem own_nonface {Z : State} {a0 : Array Value} {C : String} {y : MethodName} (ws : (Jvm.Cond.selects C y y).before a0 Z = true) (wd : (Jvm.Cond.declares y).before a0 Z = true) : ∃ c k, Z.vm.findClass y.cls = some c ∧ Z.vm.classes[c]? = some k ∧ k.isInterface = false := by
  obtain ⟨m, meth, hn, -⟩ := Cond.declares_spec wd
  obtain ⟨k, hk, hni⟩ := notFace_of_selects ws m hn
  exact ⟨m.cls, k, findClass_of_methodNamed hn, hk, hni⟩
theorem own_selP {Z : State} {a0 : Array Value} {y : MethodName} (hf : ∃ c k, Z.vm.findClass y.cls = some c ∧ Z.vm.classes[c]? = some k ∧ k.isInterface = false) (wp : (Jvm.Cond.privateMethod y).before a0 Z = true) (wi : (Jvm.Cond.instanceMethod y).before a0 Z = true) (hy : y.cls ≠ "java/lang/invoke/MethodHandle" ∧ y.cls ≠ "java/lang/invoke/VarHandle") : (Jvm.Cond.selects y.cls y y).before a0 Z = true := by
  obtain ⟨c, k, hc, hk, hni⟩ := hf
  exact selects_self_of_private hc hk hni (Cond.privateMethod_at wp) wi hy
theorem own_sameM {Z : State} {a0 : Array Value} {y : MethodName} (hf : ∃ c k, Z.vm.findClass y.cls = some c ∧ Z.vm.classes[c]? = some k ∧ k.isInterface = false) (wd : (Jvm.Cond.declares y).before a0 Z = true) (hy : y.cls ≠ "java/lang/invoke/MethodHandle" ∧ y.cls ≠ "java/lang/invoke/VarHandle") : (Jvm.Cond.sameMethod y.cls y.cls y.name y.desc).before a0 Z = true := by
  obtain ⟨c, k, hc, hk, hni⟩ := hf
  obtain ⟨m, meth, hn, -⟩ := Cond.declares_spec wd
  have hfnd := State.methodFound?_of_named hn hy
  have hn' : Z.methodNamed? ⟨y.cls, y.name, y.desc⟩ = some m := hn
  simp [Cond.before, Cond.holds, Cond.value, hc, hfnd, hn', hk, hni]
theorem own_nfA {Z s : State} {y : MethodName} (hZ : Z.Warmed39 s.vm) (hf : ∃ c k, Z.vm.findClass y.cls = some c ∧ Z.vm.classes[c]? = some k ∧ k.isInterface = false) : NotFace s y := fun r0 h0 => by
  obtain ⟨c, k, hc, hk, hni⟩ := hf
  have e := findClass_of_methodNamed h0
  rw [hZ.alike.findClass] at e
  cases hc.symm.trans e
  obtain ⟨k', q1, q2⟩ := hZ.alike.2.2 _ _ hk
  exact ⟨k', q1, by rw [q2]; exact hni⟩
def own_ln (cs : List Int32) : Int32 := Int32.ofNat cs.length
theorem own_lnI {cs : List Int32} (h : cs.length ≤ 100) : (own_ln cs).toInt = cs.length := by
  unfold own_ln
  rw [Int32.toInt_ofNat_of_lt (by omega)]
theorem own_lnN {cs : List Int32} (h : cs.length ≤ 100) : (own_ln cs).toNatClampNeg = cs.length := by
  have e := own_lnI h
  show (own_ln cs).toInt.toNat = _
  omega
theorem own_ln0 {cs : List Int32} (h : cs.length ≤ 100) : ¬ (own_ln cs) < 0 := by
  have e := own_lnI h
  rw [Int32.lt_iff_toInt_lt]
  show ¬ (own_ln cs).toInt < 0
  omega
theorem own_shr0 (x : Int32) : x >>> ((0 : Int32) &&& 31) = x := by
  have e : (x >>> ((0 : Int32) &&& 31)).toInt = x.toInt / 1 := c_ishr x 0 0 (by decide)
  exact Int32.toInt_inj.mp (by rw [e]; omega)
theorem own_shl0 (x : Int32) : x <<< ((0 : Int32) &&& 31) = x := by
  have e : ((x <<< ((0 : Int32) &&& 31)).toInt - x.toInt * 1) % 4294967296 = 0 := c_ishl x 0 0 (by decide)
  have r := rng32 x
  have r2 := rng32 (x <<< ((0 : Int32) &&& 31))
  exact Int32.toInt_inj.mp (by omega)
theorem own_lnApp {a b : List Int32} (h : a.length + b.length ≤ 100) : own_ln a + own_ln b = own_ln (a ++ b) := by
  have ea := own_lnI (cs := a) (by omega)
  have eb := own_lnI (cs := b) (by omega)
  have ec := own_lnI (cs := a ++ b) (by rw [List.length_append]; exact h)
  have e := c_iadd (own_ln a) (own_ln b)
  have r := rng32 (own_ln a + own_ln b)
  rw [List.length_append] at ec
  exact Int32.toInt_inj.mp (by omega)
theorem own_cap {a : List Int32} (h : a.length ≤ 16) : ¬ ((0 : Int32) < own_ln a - (16 : Int32)) := by
  have ea := own_lnI (cs := a) (by omega)
  have e : ((own_ln a - (16 : Int32)).toInt - ((own_ln a).toInt - 16)) % 4294967296 = 0 := c_isub (own_ln a) 16
  have r := rng32 (own_ln a - (16 : Int32))
  rw [Int32.lt_iff_toInt_lt]
  show ¬ (0 : Int) < (own_ln a - (16 : Int32)).toInt
  omega
theorem own_cpy {Z : State} {h : Heap} {b : Addr} {k : ClassId} {z : Int32} {bcs scs : List Int32} {m : Nat} (hb : bcs.length ≤ 100) (hs : scs.length ≤ 100) (V : Arv Z h b k .byte z ((bcs.map Value.int ++ List.replicate m (Value.int (0 : Int32))).take (own_ln bcs).toNatClampNeg ++ scs.map Value.int ++ (bcs.map Value.int ++ List.replicate m (Value.int (0 : Int32))).drop ((own_ln bcs).toNatClampNeg + (own_ln scs).toNatClampNeg)) (Value.int (0 : Int32))) : Arv Z h b k .byte z ((bcs ++ scs).map Value.int) (Value.int (0 : Int32)) := by
  rw [own_lnN hb, own_lnN hs] at V
  have e1 : (bcs.map Value.int ++ List.replicate m (Value.int (0 : Int32))).take bcs.length = bcs.map Value.int := by
    rw [List.take_append_of_le_length (by simp), List.take_of_length_le (by simp)]
  have e2 : (bcs.map Value.int ++ List.replicate m (Value.int (0 : Int32))).drop (bcs.length + scs.length) = List.replicate (m - scs.length) (Value.int (0 : Int32)) := by
    rw [List.drop_append, List.drop_eq_nil_of_le (by simp)]
    simp
  rw [e1, e2, ← List.map_append] at V
  exact V.pad fun i => (pad_rep _ _ _ i).symm
theorem own_us {cs : List Int32} (h : cs.length ≤ 100) : cs.map Value.int = (List.range (own_ln cs).toNatClampNeg).map fun i => (cs.map Value.int).getD ((0 : Int32).toNatClampNeg + i) (Value.int (0 : Int32)) := by
  rw [own_lnN h]
  refine List.ext_getElem (by simp) fun i h1 h2 => ?_
  simp at h1
  simp [h1]
theorem own_bb (x : Int32) : nar .byte x.toInt8.toInt32 = x.toInt8.toInt32 := by
  show x.toInt8.toInt32.toInt8.toInt32 = _
  rw [Int8.toInt8_toInt32]
theorem own_sub0 (x : Int32) : x - (0 : Int32) = x := by
  have e : ((x - (0 : Int32)).toInt - (x.toInt - 0)) % 4294967296 = 0 := c_isub x 0
  have r := rng32 x
  have r2 := rng32 (x - (0 : Int32))
  exact Int32.toInt_inj.mp (by omega)
theorem own_lt16 {cs : List Int32} (h : cs.length ≤ 15) : own_ln cs < (16 : Int32) := by
  have e := own_lnI (cs := cs) (by omega)
  rw [Int32.lt_iff_toInt_lt]
  show (own_ln cs).toInt < 16
  omega
theorem own_n16 {cs : List Int32} (h : cs.length ≤ 15) : ¬ (own_ln cs = (16 : Int32)) := fun q => by
  have e := own_lt16 h
  rw [q] at e
  exact absurd e (by decide)
theorem own_cat {v : Value} (h : v.isRef = true) : v.category = 1 := by
  rcases ref_cases h with rfl | ⟨a, rfl⟩ <;> rfl
theorem pn_0 : plainName "java/lang/String" = true := by first | (simp [plainName, overriddenIn]; done) | decide +kernel
theorem d21_0 : decode jdk_42_method_152_code 0 = .ok (.getstatic 38, 3) := by decide +kernel
theorem d21_3 : decode jdk_42_method_152_code 3 = .ok (.ifCond .eq 10, 3) := by decide +kernel
theorem d21_6 : decode jdk_42_method_152_code 6 = .ok (.aload_n 0, 1) := by decide +kernel
theorem d21_7 : decode jdk_42_method_152_code 7 = .ok (.getfield 15, 3) := by decide +kernel
theorem d21_10 : decode jdk_42_method_152_code 10 = .ok (.goto 4, 3) := by decide +kernel
theorem d21_14 : decode jdk_42_method_152_code 14 = .ok (.ireturn, 1) := by decide +kernel
theorem ef_st_coder (m : MethodId) (x0 : Addr) : entryFrame m #[(.ref x0)] 1 = mkF m 0 #[.val (.ref x0)] [] := by first | (simp [entryFrame, mkF, argsToLocals, Value.category]; done) | rfl | (simp [entryFrame, mkF, argsToLocals, own_catI, own_catR, *]; done)
def Q_st_coder (Z : State) (sa : Addr) (cps : Int32) (h0 : Heap) (n0 : Nat) (v : Option Value) (h : Heap) (L : List Loc) : Prop := v = some (.int (0 : Int32)) ∧ Fr n0 L ∧ h = h0
set_option maxRecDepth 65536 in
set_option maxHeartbeats 40000000 in
theorem st_coder (l : Launch) (Z : State) (a0 : Array Value) (hw : ∀ d ∈ tables_1, d.before a0 Z = true) (ws : List Jvm.Cond) (sa : Addr) (cps : Int32) (h0 : Heap) (n0 : Nat) (Z0 : n0 ≤ h0.size) (F0_sa_coder : Fld Z h0 sa "java/lang/String" "coder" "B" (.int (0 : Int32))) (F1_java_lang_String : Sta Z Z.heap "java/lang/String" "COMPACT_STRINGS" "Z" (.int cps)) (F2_ : Old Z n0 h0) (hcps : ¬ (cps = (0 : Int32))) :
    MetFree l (⟨"java/lang/String", "coder", "()B"⟩ : MethodName) (head1 (Jvm.Cond.code (⟨"java/lang/String", "coder", "()B"⟩ : MethodName) jdk_42_method_152_code 1 (some .byte) :: ws) ({ frames := 0, cells := 0, slots := 0, locals := 0 } : Room)) (fun a U => a = #[(.ref sa)] ∧ Z.Warmed39 U.vm ∧ U.heap = h0) (fun _ _ _ _ _ => True) (fun _ U o U' => ∃ v L, o = .returned v ∧ Q_st_coder Z sa cps h0 n0 v U'.heap L ∧ FrameEnd U o U' L ({ frames := 0, cells := 0, slots := 0, locals := 0 } : Room).cells ({ frames := 0, cells := 0, slots := 0, locals := 0 } : Room).slots) := by
  refine MetFree.of_bodySF (plainFor_of_name pn_0) hisR ?_
  intro p e s m args below meth c s₁ Bd hml0 hP hK
  obtain ⟨rfl, hZ, hh⟩ := hP
  have hx := Bd.exec
  have hby := Bd.bytes
  have hml : c.maxLocals = 1 := hml0
  have hown : s.vm.findClass "java/lang/String" = some m.cls := findClass_of_methodNamed Bd.named
  have hnm := (name_of_methodNamed Bd.named Bd.method).1
  have X0 : Stand p l e ({ frames := 0, cells := 0, slots := 0, locals := 0 } : Room) s m #[(.ref sa)] below meth c s₁ [] 0 0 := Stand.of_body Bd
  have e0 : s₁.heap = h0 := by rw [← hh, Bd.state]; rfl
  have N0 := Fr.nil n0
  obtain ⟨G, hG⟩ : ∃ G : State → Prop, G = (fun U' => ∃ o, U'.status = .running ∧ Ended U' below o ∧ ∃ v L, o = .returned v ∧ Q_st_coder Z sa cps h0 n0 v U'.heap L ∧ FrameEnd s o U' L ({ frames := 0, cells := 0, slots := 0, locals := 0 } : Room).cells ({ frames := 0, cells := 0, slots := 0, locals := 0 } : Room).slots) := ⟨_, rfl⟩
  suffices key : Gl p.tables e below s₁ (mkF m 0 #[.val (.ref sa)] []) G by
    obtain ⟨s₂, k1, k2⟩ := key
    rw [hG] at k2
    obtain ⟨o, k3, k4, k5⟩ := k2
    exact ⟨s₂, o, castTop (ef_st_coder m sa) k1, k3, k4, k5⟩
  show Gl p.tables e below s₁ (mkF m 0 #[.val (.ref sa)] []) G
  have G1 : Sta Z h0 "java/lang/String" "COMPACT_STRINGS" "Z" (.int cps) := F1_java_lang_String.ext F2_.2
  obtain ⟨T2, X2, e2, st2⟩ := getS2 X0 hx hZ hown (host := "") (Or.inl (hw _ (List.mem_of_getElem? (i := 18) rfl))) Via.refl e0 G1 (g := (mkF m 0 #[.val (.ref sa)] [])) rfl (hb hby d21_0)
  refine Gl.via st2 ?_
  show Gl p.tables e below T2 (mkF m 3 #[.val (.ref sa)] [(.int cps)]) G
  refine Gl.via (fun _ k => XS.ifNo X2.here hx rfl (hb hby d21_3) rfl ((if0 _ _).trans (feq hcps).1) k) ?_
  show Gl p.tables e below T2 (mkF m 6 #[.val (.ref sa)] []) G
  refine Gl.via (fun _ k => XS.aloadN X2.here hx rfl (hb hby d21_6) rfl rfl k) ?_
  show Gl p.tables e below T2 (mkF m 7 #[.val (.ref sa)] [(.ref sa)]) G
  obtain ⟨T3, X3, e3, st3⟩ := getF X2 hx hZ hown (host := "") (Or.inl (hw _ (List.mem_of_getElem? (i := 30) rfl))) Via.refl e2 F0_sa_coder (g := (mkF m 7 #[.val (.ref sa)] [(.ref sa)])) rfl rfl (hb hby d21_7)
  refine Gl.via st3 ?_
  show Gl p.tables e below T3 (mkF m 10 #[.val (.ref sa)] [(.int (0 : Int32))]) G
  refine Gl.via (fun _ k => XS.goto X3.here hx rfl (pc0 := 10) (pc' := 14) rfl (hb hby d21_10) (by decide) (by decide) k) ?_
  show Gl p.tables e below T3 (mkF m 14 #[.val (.ref sa)] [(.int (0 : Int32))]) G
  obtain ⟨fs, hr, hrun, hended, hW, hsame⟩ := X3.leave (v := some (.int (0 : Int32))) (fun h => by rw [Bd.returns] at h; cases h)
  have hq : ∀ L, Fr n0 L → Q_st_coder Z sa cps h0 n0 (some (.int (0 : Int32))) T3.heap L := by
    intro L hN
    rw [e3]
    exact ⟨rfl, hN, rfl⟩
  rw [hG]
  exact Gl.fin (retN X3 hx (t := .byte) Bd.returns (by simp) (hb hby d21_14) hr) ⟨_, hrun, hended, _, _, rfl, hq _ N0, ⟨_, rfl⟩, hW, hsame.mono (by decide) (by decide)⟩
theorem d20_0 : decode jdk_42_method_54_code 0 = .ok (.aload_n 0, 1) := by decide +kernel
theorem d20_1 : decode jdk_42_method_54_code 1 = .ok (.getfield 9, 3) := by decide +kernel
theorem d20_4 : decode jdk_42_method_54_code 4 = .ok (.arraylength, 1) := by decide +kernel
theorem d20_5 : decode jdk_42_method_54_code 5 = .ok (.aload_n 0, 1) := by decide +kernel
theorem d20_6 : decode jdk_42_method_54_code 6 = .ok (.invokevirtual 335, 3) := by decide +kernel
theorem pd_0 : parseMethodDescriptor "()B" = some ⟨[], some .byte⟩ := by decide +kernel
theorem d20_9 : decode jdk_42_method_54_code 9 = .ok (.ishr, 1) := by decide +kernel
theorem d20_10 : decode jdk_42_method_54_code 10 = .ok (.ireturn, 1) := by decide +kernel
theorem ef_st_len (m : MethodId) (x0 : Addr) : entryFrame m #[(.ref x0)] 1 = mkF m 0 #[.val (.ref x0)] [] := by first | (simp [entryFrame, mkF, argsToLocals, Value.category]; done) | rfl | (simp [entryFrame, mkF, argsToLocals, own_catI, own_catR, *]; done)
def Q_st_len (Z : State) (sa : Addr) (sb : Addr) (sk : ClassId) (scs : List Int32) (cps : Int32) (h0 : Heap) (n0 : Nat) (v : Option Value) (h : Heap) (L : List Loc) : Prop := v = some (.int (own_ln scs)) ∧ Fr n0 L ∧ h = h0
set_option maxRecDepth 65536 in
set_option maxHeartbeats 40000000 in
theorem st_len (l : Launch) (Z : State) (a0 : Array Value) (hw : ∀ d ∈ tables_1, d.before a0 Z = true) (ws : List Jvm.Cond) (sa : Addr) (sb : Addr) (sk : ClassId) (scs : List Int32) (cps : Int32) (h0 : Heap) (n0 : Nat) (Z0 : n0 ≤ h0.size) (F0_sa : Exa Z h0 sa "java/lang/String") (F1_sa_coder : Fld Z h0 sa "java/lang/String" "coder" "B" (.int (0 : Int32))) (F2_sa_value : Fld Z h0 sa "java/lang/String" "value" "[B" (.ref sb)) (F3_sb : Arv Z h0 sb sk .byte (own_ln scs) (scs.map Value.int) (.int (0 : Int32))) (F4_java_lang_String : Sta Z Z.heap "java/lang/String" "COMPACT_STRINGS" "Z" (.int cps)) (F5_ : Old Z n0 h0) (hcps : ¬ (cps = (0 : Int32))) :
    MetFree l (⟨"java/lang/String", "length", "()I"⟩ : MethodName) (head1 (Jvm.Cond.code (⟨"java/lang/String", "length", "()I"⟩ : MethodName) jdk_42_method_54_code 1 (some .int) :: ws) ({ frames := 1, cells := 0, slots := 0, locals := 13 } : Room)) (fun a U => a = #[(.ref sa)] ∧ Z.Warmed39 U.vm ∧ U.heap = h0) (fun _ _ _ _ _ => True) (fun _ U o U' => ∃ v L, o = .returned v ∧ Q_st_len Z sa sb sk scs cps h0 n0 v U'.heap L ∧ FrameEnd U o U' L ({ frames := 1, cells := 0, slots := 0, locals := 13 } : Room).cells ({ frames := 1, cells := 0, slots := 0, locals := 13 } : Room).slots) := by
  refine MetFree.of_bodySF (plainFor_of_name pn_0) hisR ?_
  intro p e s m args below meth c s₁ Bd hml0 hP hK
  obtain ⟨rfl, hZ, hh⟩ := hP
  have hx := Bd.exec
  have hby := Bd.bytes
  have hml : c.maxLocals = 1 := hml0
  have hown : s.vm.findClass "java/lang/String" = some m.cls := findClass_of_methodNamed Bd.named
  have hnm := (name_of_methodNamed Bd.named Bd.method).1
  have X0 : Stand p l e ({ frames := 1, cells := 0, slots := 0, locals := 13 } : Room) s m #[(.ref sa)] below meth c s₁ [] 0 0 := Stand.of_body Bd
  have e0 : s₁.heap = h0 := by rw [← hh, Bd.state]; rfl
  have N0 := Fr.nil n0
  obtain ⟨G, hG⟩ : ∃ G : State → Prop, G = (fun U' => ∃ o, U'.status = .running ∧ Ended U' below o ∧ ∃ v L, o = .returned v ∧ Q_st_len Z sa sb sk scs cps h0 n0 v U'.heap L ∧ FrameEnd s o U' L ({ frames := 1, cells := 0, slots := 0, locals := 13 } : Room).cells ({ frames := 1, cells := 0, slots := 0, locals := 13 } : Room).slots) := ⟨_, rfl⟩
  suffices key : Gl p.tables e below s₁ (mkF m 0 #[.val (.ref sa)] []) G by
    obtain ⟨s₂, k1, k2⟩ := key
    rw [hG] at k2
    obtain ⟨o, k3, k4, k5⟩ := k2
    exact ⟨s₂, o, castTop (ef_st_len m sa) k1, k3, k4, k5⟩
  show Gl p.tables e below s₁ (mkF m 0 #[.val (.ref sa)] []) G
  refine Gl.via (fun _ k => XS.aloadN X0.here hx rfl (hb hby d20_0) rfl rfl k) ?_
  show Gl p.tables e below s₁ (mkF m 1 #[.val (.ref sa)] [(.ref sa)]) G
  obtain ⟨T1, X1, e1, st1⟩ := getF X0 hx hZ hown (host := "") (Or.inl (hw _ (List.mem_of_getElem? (i := 32) rfl))) Via.refl e0 F2_sa_value (g := (mkF m 1 #[.val (.ref sa)] [(.ref sa)])) rfl rfl (hb hby d20_1)
  refine Gl.via st1 ?_
  show Gl p.tables e below T1 (mkF m 4 #[.val (.ref sa)] [(.ref sb)]) G
  obtain ⟨cl2, Ar2, -, S2, N2, -, -⟩ := id F3_sb
  refine Gl.via (fun _ k => X1.arraylength hx (by rw [e1]; exact Ar2.1) (State.isArrayOf_alike hZ.alike Ar2.2.1) (g := (mkF m 4 #[.val (.ref sa)] [(.ref sb)])) rfl rfl (hb hby d20_4) _ k) ?_
  rw [len_of S2 N2]
  show Gl p.tables e below T1 (mkF m 5 #[.val (.ref sa)] [(.int (own_ln scs))]) G
  refine Gl.via (fun _ k => XS.aloadN X1.here hx rfl (hb hby d20_5) rfl rfl k) ?_
  show Gl p.tables e below T1 (mkF m 6 #[.val (.ref sa)] [(.ref sa), (.int (own_ln scs))]) G
  obtain ⟨cq3, kq3, q3a, q3b, q3c⟩ := isOf hZ e1 F0_sa
  obtain ⟨_, _, ⟨T3, L3, k3, n3⟩, -, X3, ⟨Lc3, hQ3, l3, y3, z3⟩, st3⟩ := X1.virtualBack hx (y := (⟨"java/lang/String", "coder", "()B"⟩ : MethodName)) (z := (⟨"java/lang/String", "coder", "()B"⟩ : MethodName)) hown (mvT hZ (hw _ (List.mem_of_getElem? (i := 110) rfl))) (mvT hZ (hw _ (List.mem_of_getElem? (i := 111) rfl))) (notFace_of_selects (args := #[]) (mvT hZ (hw _ (List.mem_of_getElem? (i := 113) rfl)))) (mvT hZ (hw _ (List.mem_of_getElem? (i := 113) rfl))) (mvT hZ (hw _ (List.mem_of_getElem? (i := 112) rfl))) (by decide) (backOf (W := 1) (st_coder l Z a0 hw [] sa cps h0 n0 Z0 F1_sa_coder F4_java_lang_String F5_ hcps) hZ (hw _ (List.mem_of_getElem? (i := 114) rfl)) (hw _ (List.mem_of_getElem? (i := 6) rfl)) (by decide) (by decide)) q3a q3c (g := (mkF m 6 #[.val (.ref sa)] [(.ref sa), (.int (own_ln scs))])) rfl (by rw [hml]; rfl) (Steps.refl _) (argsL := []) (rest := [(.int (own_ln scs))]) (lenOf pd_0 rfl) rfl (by show 2 * 0 + _ ≤ _; exact Nat.le_of_eq rfl) (hb hby d20_6) (fun _ _ => ⟨rfl, e1, (by decide : 0 + 0 ≤ _), (by decide : 0 + 0 ≤ _)⟩)
  dsimp only [Pt.U, Pt.locs, Pt.cells, Pt.slots] at X3 l3 y3 z3 st3 hQ3
  subst l3 y3 z3
  obtain ⟨rfl, N3q, eh3⟩ := hQ3
  have N3_ := Fr.app N0 N3q
  refine Gl.via (fun _ k => st3.trans k) ?_
  show Gl p.tables e below T3 (mkF m 9 #[.val (.ref sa)] [(.int (0 : Int32)), (.int (own_ln scs))]) G
  refine Gl.via (fun _ k => XS.ishr X3.here hx rfl (hb hby d20_9) rfl k) ?_
  show Gl p.tables e below T3 (mkF m 10 #[.val (.ref sa)] [(.int ((own_ln scs) >>> ((0 : Int32) &&& 31)))]) G
  rw [show ((own_ln scs) >>> ((0 : Int32) &&& 31)) = (own_ln scs) from (own_shr0 _)]
  show Gl p.tables e below T3 (mkF m 10 #[.val (.ref sa)] [(.int (own_ln scs))]) G
  obtain ⟨fs, hr, hrun, hended, hW, hsame⟩ := X3.leave (v := some (.int (own_ln scs))) (fun h => by rw [Bd.returns] at h; cases h)
  have hq : ∀ L, Fr n0 L → Q_st_len Z sa sb sk scs cps h0 n0 (some (.int (own_ln scs))) T3.heap L := by
    intro L hN
    rw [eh3]
    exact ⟨rfl, hN, rfl⟩
  rw [hG]
  exact Gl.fin (retOut X3 hx Bd.returns rfl (Or.inl ⟨rfl, Or.inl rfl, _, rfl⟩) (hb hby d20_10) hr) ⟨_, hrun, hended, _, _, rfl, hq _ N3_, ⟨_, rfl⟩, hW, hsame.mono (by decide) (by decide)⟩
theorem d39_0 : decode jdk_42_method_154_code 0 = .ok (.getstatic 38, 3) := by decide +kernel
theorem d39_3 : decode jdk_42_method_154_code 3 = .ok (.ifCond .eq 14, 3) := by decide +kernel
theorem d39_6 : decode jdk_42_method_154_code 6 = .ok (.aload_n 0, 1) := by decide +kernel
theorem d39_7 : decode jdk_42_method_154_code 7 = .ok (.getfield 15, 3) := by decide +kernel
theorem d39_10 : decode jdk_42_method_154_code 10 = .ok (.ifCond .ne 7, 3) := by decide +kernel
theorem d39_13 : decode jdk_42_method_154_code 13 = .ok (.iconst 1, 1) := by decide +kernel
theorem d39_14 : decode jdk_42_method_154_code 14 = .ok (.goto 4, 3) := by decide +kernel
theorem d39_18 : decode jdk_42_method_154_code 18 = .ok (.ireturn, 1) := by decide +kernel
theorem ef_st_lat (m : MethodId) (x0 : Addr) : entryFrame m #[(.ref x0)] 1 = mkF m 0 #[.val (.ref x0)] [] := by first | (simp [entryFrame, mkF, argsToLocals, Value.category]; done) | rfl | (simp [entryFrame, mkF, argsToLocals, own_catI, own_catR, *]; done)
def Q_st_lat (Z : State) (sa : Addr) (cps : Int32) (h0 : Heap) (n0 : Nat) (v : Option Value) (h : Heap) (L : List Loc) : Prop := v = some (.int (1 : Int32)) ∧ Fr n0 L ∧ h = h0
set_option maxRecDepth 65536 in
set_option maxHeartbeats 40000000 in
theorem st_lat (l : Launch) (Z : State) (a0 : Array Value) (hw : ∀ d ∈ tables_1, d.before a0 Z = true) (ws : List Jvm.Cond) (sa : Addr) (cps : Int32) (h0 : Heap) (n0 : Nat) (Z0 : n0 ≤ h0.size) (F0_sa_coder : Fld Z h0 sa "java/lang/String" "coder" "B" (.int (0 : Int32))) (F1_java_lang_String : Sta Z Z.heap "java/lang/String" "COMPACT_STRINGS" "Z" (.int cps)) (F2_ : Old Z n0 h0) (hcps : ¬ (cps = (0 : Int32))) :
    MetFree l (⟨"java/lang/String", "isLatin1", "()Z"⟩ : MethodName) (head1 (Jvm.Cond.code (⟨"java/lang/String", "isLatin1", "()Z"⟩ : MethodName) jdk_42_method_154_code 1 (some .boolean) :: ws) ({ frames := 0, cells := 0, slots := 0, locals := 0 } : Room)) (fun a U => a = #[(.ref sa)] ∧ Z.Warmed39 U.vm ∧ U.heap = h0) (fun _ _ _ _ _ => True) (fun _ U o U' => ∃ v L, o = .returned v ∧ Q_st_lat Z sa cps h0 n0 v U'.heap L ∧ FrameEnd U o U' L ({ frames := 0, cells := 0, slots := 0, locals := 0 } : Room).cells ({ frames := 0, cells := 0, slots := 0, locals := 0 } : Room).slots) := by
  refine MetFree.of_bodySF (plainFor_of_name pn_0) hisR ?_
  intro p e s m args below meth c s₁ Bd hml0 hP hK
  obtain ⟨rfl, hZ, hh⟩ := hP
  have hx := Bd.exec
  have hby := Bd.bytes
  have hml : c.maxLocals = 1 := hml0
  have hown : s.vm.findClass "java/lang/String" = some m.cls := findClass_of_methodNamed Bd.named
  have hnm := (name_of_methodNamed Bd.named Bd.method).1
  have X0 : Stand p l e ({ frames := 0, cells := 0, slots := 0, locals := 0 } : Room) s m #[(.ref sa)] below meth c s₁ [] 0 0 := Stand.of_body Bd
  have e0 : s₁.heap = h0 := by rw [← hh, Bd.state]; rfl
  have N0 := Fr.nil n0
  obtain ⟨G, hG⟩ : ∃ G : State → Prop, G = (fun U' => ∃ o, U'.status = .running ∧ Ended U' below o ∧ ∃ v L, o = .returned v ∧ Q_st_lat Z sa cps h0 n0 v U'.heap L ∧ FrameEnd s o U' L ({ frames := 0, cells := 0, slots := 0, locals := 0 } : Room).cells ({ frames := 0, cells := 0, slots := 0, locals := 0 } : Room).slots) := ⟨_, rfl⟩
  suffices key : Gl p.tables e below s₁ (mkF m 0 #[.val (.ref sa)] []) G by
    obtain ⟨s₂, k1, k2⟩ := key
    rw [hG] at k2
    obtain ⟨o, k3, k4, k5⟩ := k2
    exact ⟨s₂, o, castTop (ef_st_lat m sa) k1, k3, k4, k5⟩
  show Gl p.tables e below s₁ (mkF m 0 #[.val (.ref sa)] []) G
  have G1 : Sta Z h0 "java/lang/String" "COMPACT_STRINGS" "Z" (.int cps) := F1_java_lang_String.ext F2_.2
  obtain ⟨T2, X2, e2, st2⟩ := getS2 X0 hx hZ hown (host := "") (Or.inl (hw _ (List.mem_of_getElem? (i := 18) rfl))) Via.refl e0 G1 (g := (mkF m 0 #[.val (.ref sa)] [])) rfl (hb hby d39_0)
  refine Gl.via st2 ?_
  show Gl p.tables e below T2 (mkF m 3 #[.val (.ref sa)] [(.int cps)]) G
  refine Gl.via (fun _ k => XS.ifNo X2.here hx rfl (hb hby d39_3) rfl ((if0 _ _).trans (feq hcps).1) k) ?_
  show Gl p.tables e below T2 (mkF m 6 #[.val (.ref sa)] []) G
  refine Gl.via (fun _ k => XS.aloadN X2.here hx rfl (hb hby d39_6) rfl rfl k) ?_
  show Gl p.tables e below T2 (mkF m 7 #[.val (.ref sa)] [(.ref sa)]) G
  obtain ⟨T3, X3, e3, st3⟩ := getF X2 hx hZ hown (host := "") (Or.inl (hw _ (List.mem_of_getElem? (i := 30) rfl))) Via.refl e2 F0_sa_coder (g := (mkF m 7 #[.val (.ref sa)] [(.ref sa)])) rfl rfl (hb hby d39_7)
  refine Gl.via st3 ?_
  show Gl p.tables e below T3 (mkF m 10 #[.val (.ref sa)] [(.int (0 : Int32))]) G
  refine Gl.via (fun _ k => XS.ifNo X3.here hx rfl (hb hby d39_10) rfl ((if0 _ _).trans (teq (by decide)).2) k) ?_
  show Gl p.tables e below T3 (mkF m 13 #[.val (.ref sa)] []) G
  refine Gl.via (fun _ k => XS.iconst X3.here hx rfl (hb hby d39_13) k) ?_
  show Gl p.tables e below T3 (mkF m 14 #[.val (.ref sa)] [(.int (1 : Int32))]) G
  refine Gl.via (fun _ k => XS.goto X3.here hx rfl (pc0 := 14) (pc' := 18) rfl (hb hby d39_14) (by decide) (by decide) k) ?_
  show Gl p.tables e below T3 (mkF m 18 #[.val (.ref sa)] [(.int (1 : Int32))]) G
  obtain ⟨fs, hr, hrun, hended, hW, hsame⟩ := X3.leave (v := some (.int (1 : Int32))) (fun h => by rw [Bd.returns] at h; cases h)
  have hq : ∀ L, Fr n0 L → Q_st_lat Z sa cps h0 n0 (some (.int (1 : Int32))) T3.heap L := by
    intro L hN
    rw [e3]
    exact ⟨rfl, hN, rfl⟩
  rw [hG]
  exact Gl.fin (retN X3 hx (t := .boolean) Bd.returns (by simp) (hb hby d39_18) hr) ⟨_, hrun, hended, _, _, rfl, hq _ N0, ⟨_, rfl⟩, hW, hsame.mono (by decide) (by decide)⟩
theorem pn_1 : plainName "jdk/internal/util/Preconditions" = true := by first | (simp [plainName, overriddenIn]; done) | decide +kernel
theorem d42_0 : decode jdk_41_method_11_code 0 = .ok (.iload_n 0, 1) := by decide +kernel
theorem d42_1 : decode jdk_41_method_11_code 1 = .ok (.ifCond .lt 8, 3) := by decide +kernel
theorem d42_4 : decode jdk_41_method_11_code 4 = .ok (.iload_n 0, 1) := by decide +kernel
theorem d42_5 : decode jdk_41_method_11_code 5 = .ok (.iload_n 1, 1) := by decide +kernel
theorem d42_6 : decode jdk_41_method_11_code 6 = .ok (.if_icmp .lt 10, 3) := by decide +kernel
theorem d42_16 : decode jdk_41_method_11_code 16 = .ok (.iload_n 0, 1) := by decide +kernel
theorem d42_17 : decode jdk_41_method_11_code 17 = .ok (.ireturn, 1) := by decide +kernel
theorem ef_pre_chk (m : MethodId) (x0 : Int32) (x1 : Int32) (x2 : Value) (hx2 : x2.category = 1) : entryFrame m #[(.int x0), (.int x1), x2] 3 = mkF m 0 #[.val (.int x0), .val (.int x1), .val x2] [] := by first | (simp [entryFrame, mkF, argsToLocals, Value.category]; done) | rfl | (simp [entryFrame, mkF, argsToLocals, own_catI, own_catR, *]; done)
def Q_pre_chk (Z : State) (ix : Int32) (iz : Int32) (fm : Value) (h0 : Heap) (n0 : Nat) (v : Option Value) (h : Heap) (L : List Loc) : Prop := v = some (.int ix) ∧ Fr n0 L ∧ h = h0
set_option maxRecDepth 65536 in
set_option maxHeartbeats 40000000 in
theorem pre_chk (l : Launch) (Z : State) (a0 : Array Value) (hw : ∀ d ∈ tables_1, d.before a0 Z = true) (ws : List Jvm.Cond) (ix : Int32) (iz : Int32) (fm : Value) (h0 : Heap) (n0 : Nat) (Z0 : n0 ≤ h0.size) (hfm : fm.category = 1) (hi0 : ¬ (ix < (0 : Int32))) (hi1 : ix < iz) :
    MetFree l (⟨"jdk/internal/util/Preconditions", "checkIndex", "(IILjava/util/function/BiFunction;)I"⟩ : MethodName) (head1 (Jvm.Cond.code (⟨"jdk/internal/util/Preconditions", "checkIndex", "(IILjava/util/function/BiFunction;)I"⟩ : MethodName) jdk_41_method_11_code 3 (some .int) :: ws) ({ frames := 0, cells := 0, slots := 0, locals := 0 } : Room)) (fun a U => a = #[(.int ix), (.int iz), fm] ∧ Z.Warmed39 U.vm ∧ U.heap = h0) (fun _ _ _ _ _ => True) (fun _ U o U' => ∃ v L, o = .returned v ∧ Q_pre_chk Z ix iz fm h0 n0 v U'.heap L ∧ FrameEnd U o U' L ({ frames := 0, cells := 0, slots := 0, locals := 0 } : Room).cells ({ frames := 0, cells := 0, slots := 0, locals := 0 } : Room).slots) := by
  refine MetFree.of_bodySF (plainFor_of_name pn_1) hisR ?_
  intro p e s m args below meth c s₁ Bd hml0 hP hK
  obtain ⟨rfl, hZ, hh⟩ := hP
  have hx := Bd.exec
  have hby := Bd.bytes
  have hml : c.maxLocals = 3 := hml0
  have hown : s.vm.findClass "jdk/internal/util/Preconditions" = some m.cls := findClass_of_methodNamed Bd.named
  have hnm := (name_of_methodNamed Bd.named Bd.method).1
  have X0 : Stand p l e ({ frames := 0, cells := 0, slots := 0, locals := 0 } : Room) s m #[(.int ix), (.int iz), fm] below meth c s₁ [] 0 0 := Stand.of_body Bd
  have e0 : s₁.heap = h0 := by rw [← hh, Bd.state]; rfl
  have N0 := Fr.nil n0
  obtain ⟨G, hG⟩ : ∃ G : State → Prop, G = (fun U' => ∃ o, U'.status = .running ∧ Ended U' below o ∧ ∃ v L, o = .returned v ∧ Q_pre_chk Z ix iz fm h0 n0 v U'.heap L ∧ FrameEnd s o U' L ({ frames := 0, cells := 0, slots := 0, locals := 0 } : Room).cells ({ frames := 0, cells := 0, slots := 0, locals := 0 } : Room).slots) := ⟨_, rfl⟩
  suffices key : Gl p.tables e below s₁ (mkF m 0 #[.val (.int ix), .val (.int iz), .val fm] []) G by
    obtain ⟨s₂, k1, k2⟩ := key
    rw [hG] at k2
    obtain ⟨o, k3, k4, k5⟩ := k2
    exact ⟨s₂, o, castTop (ef_pre_chk m ix iz fm (by assumption)) k1, k3, k4, k5⟩
  show Gl p.tables e below s₁ (mkF m 0 #[.val (.int ix), .val (.int iz), .val fm] []) G
  refine Gl.via (fun _ k => XS.iloadN X0.here hx rfl (hb hby d42_0) rfl k) ?_
  show Gl p.tables e below s₁ (mkF m 1 #[.val (.int ix), .val (.int iz), .val fm] [(.int ix)]) G
  refine Gl.via (fun _ k => XS.ifNo X0.here hx rfl (hb hby d42_1) rfl ((if0 _ _).trans (flt hi0).1) k) ?_
  show Gl p.tables e below s₁ (mkF m 4 #[.val (.int ix), .val (.int iz), .val fm] []) G
  refine Gl.via (fun _ k => XS.iloadN X0.here hx rfl (hb hby d42_4) rfl k) ?_
  show Gl p.tables e below s₁ (mkF m 5 #[.val (.int ix), .val (.int iz), .val fm] [(.int ix)]) G
  refine Gl.via (fun _ k => XS.iloadN X0.here hx rfl (hb hby d42_5) rfl k) ?_
  show Gl p.tables e below s₁ (mkF m 6 #[.val (.int ix), .val (.int iz), .val fm] [(.int iz), (.int ix)]) G
  refine Gl.via (fun _ k => XS.icmpYes X0.here hx rfl (pc0 := 6) (pc' := 16) rfl (hb hby d42_6) rfl (tlt hi1).1 (by decide) (by decide) k) ?_
  show Gl p.tables e below s₁ (mkF m 16 #[.val (.int ix), .val (.int iz), .val fm] []) G
  refine Gl.via (fun _ k => XS.iloadN X0.here hx rfl (hb hby d42_16) rfl k) ?_
  show Gl p.tables e below s₁ (mkF m 17 #[.val (.int ix), .val (.int iz), .val fm] [(.int ix)]) G
  obtain ⟨fs, hr, hrun, hended, hW, hsame⟩ := X0.leave (v := some (.int ix)) (fun h => by rw [Bd.returns] at h; cases h)
  have hq : ∀ L, Fr n0 L → Q_pre_chk Z ix iz fm h0 n0 (some (.int ix)) s₁.heap L := by
    intro L hN
    rw [e0]
    exact ⟨rfl, hN, rfl⟩
  rw [hG]
  exact Gl.fin (retOut X0 hx Bd.returns rfl (Or.inl ⟨rfl, Or.inl rfl, _, rfl⟩) (hb hby d42_17) hr) ⟨_, hrun, hended, _, _, rfl, hq _ N0, ⟨_, rfl⟩, hW, hsame.mono (by decide) (by decide)⟩
theorem d41_0 : decode jdk_42_method_155_code 0 = .ok (.iload_n 0, 1) := by decide +kernel
theorem d41_1 : decode jdk_42_method_155_code 1 = .ok (.iload_n 1, 1) := by decide +kernel
theorem d41_2 : decode jdk_42_method_155_code 2 = .ok (.getstatic 1053, 3) := by decide +kernel
theorem d41_5 : decode jdk_42_method_155_code 5 = .ok (.invokestatic 1059, 3) := by decide +kernel
theorem pd_1 : parseMethodDescriptor "(IILjava/util/function/BiFunction;)I" = some ⟨[.int, .int, (.object "java/util/function/BiFunction")], some .int⟩ := by decide +kernel
theorem d41_8 : decode jdk_42_method_155_code 8 = .ok (.pop, 1) := by decide +kernel
theorem d41_9 : decode jdk_42_method_155_code 9 = .ok (.return_, 1) := by decide +kernel
theorem ef_st_chk (m : MethodId) (x0 : Int32) (x1 : Int32) : entryFrame m #[(.int x0), (.int x1)] 2 = mkF m 0 #[.val (.int x0), .val (.int x1)] [] := by first | (simp [entryFrame, mkF, argsToLocals, Value.category]; done) | rfl | (simp [entryFrame, mkF, argsToLocals, own_catI, own_catR, *]; done)
def Q_st_chk (Z : State) (ix : Int32) (iz : Int32) (fm : Value) (h0 : Heap) (n0 : Nat) (v : Option Value) (h : Heap) (L : List Loc) : Prop := v = none ∧ Fr n0 L ∧ h = h0
set_option maxRecDepth 65536 in
set_option maxHeartbeats 40000000 in
theorem st_chk (l : Launch) (Z : State) (a0 : Array Value) (hw : ∀ d ∈ tables_1, d.before a0 Z = true) (ws : List Jvm.Cond) (ix : Int32) (iz : Int32) (fm : Value) (h0 : Heap) (n0 : Nat) (Z0 : n0 ≤ h0.size) (F0_jdk_internal_util_Preconditions : Sta Z Z.heap "jdk/internal/util/Preconditions" "SIOOBE_FORMATTER" "Ljava/util/function/BiFunction;" fm) (F1_ : Old Z n0 h0) (hfm : fm.category = 1) (hi0 : ¬ (ix < (0 : Int32))) (hi1 : ix < iz) :
    MetFree l (⟨"java/lang/String", "checkIndex", "(II)V"⟩ : MethodName) (head1 (Jvm.Cond.code (⟨"java/lang/String", "checkIndex", "(II)V"⟩ : MethodName) jdk_42_method_155_code 2 none :: ws) ({ frames := 1, cells := 0, slots := 0, locals := 14 } : Room)) (fun a U => a = #[(.int ix), (.int iz)] ∧ Z.Warmed39 U.vm ∧ U.heap = h0) (fun _ _ _ _ _ => True) (fun _ U o U' => ∃ v L, o = .returned v ∧ Q_st_chk Z ix iz fm h0 n0 v U'.heap L ∧ FrameEnd U o U' L ({ frames := 1, cells := 0, slots := 0, locals := 14 } : Room).cells ({ frames := 1, cells := 0, slots := 0, locals := 14 } : Room).slots) := by
  refine MetFree.of_bodySF (plainFor_of_name pn_0) hisR ?_
  intro p e s m args below meth c s₁ Bd hml0 hP hK
  obtain ⟨rfl, hZ, hh⟩ := hP
  have hx := Bd.exec
  have hby := Bd.bytes
  have hml : c.maxLocals = 2 := hml0
  have hown : s.vm.findClass "java/lang/String" = some m.cls := findClass_of_methodNamed Bd.named
  have hnm := (name_of_methodNamed Bd.named Bd.method).1
  have X0 : Stand p l e ({ frames := 1, cells := 0, slots := 0, locals := 14 } : Room) s m #[(.int ix), (.int iz)] below meth c s₁ [] 0 0 := Stand.of_body Bd
  have e0 : s₁.heap = h0 := by rw [← hh, Bd.state]; rfl
  have N0 := Fr.nil n0
  obtain ⟨G, hG⟩ : ∃ G : State → Prop, G = (fun U' => ∃ o, U'.status = .running ∧ Ended U' below o ∧ ∃ v L, o = .returned v ∧ Q_st_chk Z ix iz fm h0 n0 v U'.heap L ∧ FrameEnd s o U' L ({ frames := 1, cells := 0, slots := 0, locals := 14 } : Room).cells ({ frames := 1, cells := 0, slots := 0, locals := 14 } : Room).slots) := ⟨_, rfl⟩
  suffices key : Gl p.tables e below s₁ (mkF m 0 #[.val (.int ix), .val (.int iz)] []) G by
    obtain ⟨s₂, k1, k2⟩ := key
    rw [hG] at k2
    obtain ⟨o, k3, k4, k5⟩ := k2
    exact ⟨s₂, o, castTop (ef_st_chk m ix iz) k1, k3, k4, k5⟩
  show Gl p.tables e below s₁ (mkF m 0 #[.val (.int ix), .val (.int iz)] []) G
  refine Gl.via (fun _ k => XS.iloadN X0.here hx rfl (hb hby d41_0) rfl k) ?_
  show Gl p.tables e below s₁ (mkF m 1 #[.val (.int ix), .val (.int iz)] [(.int ix)]) G
  refine Gl.via (fun _ k => XS.iloadN X0.here hx rfl (hb hby d41_1) rfl k) ?_
  show Gl p.tables e below s₁ (mkF m 2 #[.val (.int ix), .val (.int iz)] [(.int iz), (.int ix)]) G
  have G1 : Sta Z h0 "jdk/internal/util/Preconditions" "SIOOBE_FORMATTER" "Ljava/util/function/BiFunction;" fm := F0_jdk_internal_util_Preconditions.ext F1_.2
  obtain ⟨T2, X2, e2, st2⟩ := getS2 X0 hx hZ hown (host := "") (Or.inl (hw _ (List.mem_of_getElem? (i := 208) rfl))) Via.refl e0 G1 (g := (mkF m 2 #[.val (.int ix), .val (.int iz)] [(.int iz), (.int ix)])) rfl (hb hby d41_2)
  refine Gl.via st2 ?_
  show Gl p.tables e below T2 (mkF m 5 #[.val (.int ix), .val (.int iz)] [fm, (.int iz), (.int ix)]) G
  obtain ⟨_, _, ⟨T3, L3, k3, n3⟩, -, X3, ⟨Lc3, hQ3, l3, y3, z3⟩, st3⟩ := Jvm.LawKit.callS X2 hx (y := (⟨"jdk/internal/util/Preconditions", "checkIndex", "(IILjava/util/function/BiFunction;)I"⟩ : MethodName)) hown (mvT hZ (hw _ (List.mem_of_getElem? (i := 210) rfl))) (mvT hZ (hw _ (List.mem_of_getElem? (i := 211) rfl))) (mvT hZ (hw _ (List.mem_of_getElem? (i := 209) rfl))) (mvT hZ (hw _ (List.mem_of_getElem? (i := 212) rfl))) (by decide) (backOf (W := 0) (pre_chk l Z a0 hw [] ix iz fm h0 n0 Z0 hfm hi0 hi1) hZ (hw _ (List.mem_of_getElem? (i := 212) rfl)) (hw _ (List.mem_of_getElem? (i := 209) rfl)) (by decide) (by decide)) (g := (mkF m 5 #[.val (.int ix), .val (.int iz)] [fm, (.int iz), (.int ix)])) rfl (by rw [hml]; rfl) (argsL := [(.int ix), (.int iz), fm]) (rest := []) (lenOf pd_1 rfl) rfl (by show 2 * 0 + _ ≤ _; exact Nat.le_of_eq rfl) (hb hby d41_5) (fun _ _ => ⟨rfl, e2, (by decide : 0 + 0 ≤ _), (by decide : 0 + 0 ≤ _)⟩)
  dsimp only [Pt.U, Pt.locs, Pt.cells, Pt.slots] at X3 l3 y3 z3 st3 hQ3
  subst l3 y3 z3
  obtain ⟨rfl, N3q, eh3⟩ := hQ3
  have N3_ := Fr.app N0 N3q
  refine Gl.via (fun _ k => st3 _ k) ?_
  show Gl p.tables e below T3 (mkF m 8 #[.val (.int ix), .val (.int iz)] [(.int ix)]) G
  refine Gl.via (fun _ k => XS.pop X3.here hx rfl (hb hby d41_8) rfl rfl k) ?_
  show Gl p.tables e below T3 (mkF m 9 #[.val (.int ix), .val (.int iz)] []) G
  obtain ⟨fs, hr, hrun, hended, hW, hsame⟩ := X3.leave (v := none) (fun _ => rfl)
  have hq : ∀ L, Fr n0 L → Q_st_chk Z ix iz fm h0 n0 (none) T3.heap L := by
    intro L hN
    rw [eh3]
    exact ⟨rfl, hN, rfl⟩
  rw [hG]
  exact Gl.fin (X3.returnOut hx Bd.returns (hb hby d41_9) hr) ⟨_, hrun, hended, _, _, rfl, hq _ N3_, ⟨_, rfl⟩, hW, hsame.mono (by decide) (by decide)⟩
theorem pn_2 : plainName "java/lang/StringLatin1" = true := by first | (simp [plainName, overriddenIn]; done) | decide +kernel
theorem d40_0 : decode jdk_43_method_2_code 0 = .ok (.iload_n 1, 1) := by decide +kernel
theorem d40_1 : decode jdk_43_method_2_code 1 = .ok (.aload_n 0, 1) := by decide +kernel
theorem d40_2 : decode jdk_43_method_2_code 2 = .ok (.arraylength, 1) := by decide +kernel
theorem d40_3 : decode jdk_43_method_2_code 3 = .ok (.invokestatic 9, 3) := by decide +kernel
theorem pd_2 : parseMethodDescriptor "(II)V" = some ⟨[.int, .int], none⟩ := by decide +kernel
theorem d40_6 : decode jdk_43_method_2_code 6 = .ok (.aload_n 0, 1) := by decide +kernel
theorem d40_7 : decode jdk_43_method_2_code 7 = .ok (.iload_n 1, 1) := by decide +kernel
theorem d40_8 : decode jdk_43_method_2_code 8 = .ok (.baload, 1) := by decide +kernel
theorem d40_9 : decode jdk_43_method_2_code 9 = .ok (.sipush 255, 3) := by decide +kernel
theorem d40_12 : decode jdk_43_method_2_code 12 = .ok (.iand, 1) := by decide +kernel
theorem d40_13 : decode jdk_43_method_2_code 13 = .ok (.i2c, 1) := by decide +kernel
theorem d40_14 : decode jdk_43_method_2_code 14 = .ok (.ireturn, 1) := by decide +kernel
theorem ef_l1_at (m : MethodId) (x0 : Addr) (x1 : Int32) : entryFrame m #[(.ref x0), (.int x1)] 2 = mkF m 0 #[.val (.ref x0), .val (.int x1)] [] := by first | (simp [entryFrame, mkF, argsToLocals, Value.category]; done) | rfl | (simp [entryFrame, mkF, argsToLocals, own_catI, own_catR, *]; done)
def Q_l1_at (Z : State) (sb : Addr) (sk : ClassId) (scs : List Int32) (ix : Int32) (iv : Int32) (fm : Value) (h0 : Heap) (n0 : Nat) (v : Option Value) (h : Heap) (L : List Loc) : Prop := v = some (.int (iv &&& (255 : Int32))) ∧ Fr n0 L ∧ h = h0
set_option maxRecDepth 65536 in
set_option maxHeartbeats 40000000 in
theorem l1_at (l : Launch) (Z : State) (a0 : Array Value) (hw : ∀ d ∈ tables_1, d.before a0 Z = true) (ws : List Jvm.Cond) (sb : Addr) (sk : ClassId) (scs : List Int32) (ix : Int32) (iv : Int32) (fm : Value) (h0 : Heap) (n0 : Nat) (Z0 : n0 ≤ h0.size) (F0_sb : Arv Z h0 sb sk .byte (own_ln scs) (scs.map Value.int) (.int (0 : Int32))) (F1_jdk_internal_util_Preconditions : Sta Z Z.heap "jdk/internal/util/Preconditions" "SIOOBE_FORMATTER" "Ljava/util/function/BiFunction;" fm) (F2_ : Old Z n0 h0) (hfm : fm.category = 1) (hi0 : ¬ (ix < (0 : Int32))) (hi1 : ix < own_ln scs) (hat : (scs.map Value.int).getD ix.toNatClampNeg (.int (0 : Int32)) = .int iv) :
    MetFree l (⟨"java/lang/StringLatin1", "charAt", "([BI)C"⟩ : MethodName) (head1 (Jvm.Cond.code (⟨"java/lang/StringLatin1", "charAt", "([BI)C"⟩ : MethodName) jdk_43_method_2_code 2 (some .char) :: ws) ({ frames := 2, cells := 0, slots := 0, locals := 27 } : Room)) (fun a U => a = #[(.ref sb), (.int ix)] ∧ Z.Warmed39 U.vm ∧ U.heap = h0) (fun _ _ _ _ _ => True) (fun _ U o U' => ∃ v L, o = .returned v ∧ Q_l1_at Z sb sk scs ix iv fm h0 n0 v U'.heap L ∧ FrameEnd U o U' L ({ frames := 2, cells := 0, slots := 0, locals := 27 } : Room).cells ({ frames := 2, cells := 0, slots := 0, locals := 27 } : Room).slots) := by
  refine MetFree.of_bodySF (plainFor_of_name pn_2) hisR ?_
  intro p e s m args below meth c s₁ Bd hml0 hP hK
  obtain ⟨rfl, hZ, hh⟩ := hP
  have hx := Bd.exec
  have hby := Bd.bytes
  have hml : c.maxLocals = 2 := hml0
  have hown : s.vm.findClass "java/lang/StringLatin1" = some m.cls := findClass_of_methodNamed Bd.named
  have hnm := (name_of_methodNamed Bd.named Bd.method).1
  have X0 : Stand p l e ({ frames := 2, cells := 0, slots := 0, locals := 27 } : Room) s m #[(.ref sb), (.int ix)] below meth c s₁ [] 0 0 := Stand.of_body Bd
  have e0 : s₁.heap = h0 := by rw [← hh, Bd.state]; rfl
  have N0 := Fr.nil n0
  obtain ⟨G, hG⟩ : ∃ G : State → Prop, G = (fun U' => ∃ o, U'.status = .running ∧ Ended U' below o ∧ ∃ v L, o = .returned v ∧ Q_l1_at Z sb sk scs ix iv fm h0 n0 v U'.heap L ∧ FrameEnd s o U' L ({ frames := 2, cells := 0, slots := 0, locals := 27 } : Room).cells ({ frames := 2, cells := 0, slots := 0, locals := 27 } : Room).slots) := ⟨_, rfl⟩
  suffices key : Gl p.tables e below s₁ (mkF m 0 #[.val (.ref sb), .val (.int ix)] []) G by
    obtain ⟨s₂, k1, k2⟩ := key
    rw [hG] at k2
    obtain ⟨o, k3, k4, k5⟩ := k2
    exact ⟨s₂, o, castTop (ef_l1_at m sb ix) k1, k3, k4, k5⟩
  show Gl p.tables e below s₁ (mkF m 0 #[.val (.ref sb), .val (.int ix)] []) G
  refine Gl.via (fun _ k => XS.iloadN X0.here hx rfl (hb hby d40_0) rfl k) ?_
  show Gl p.tables e below s₁ (mkF m 1 #[.val (.ref sb), .val (.int ix)] [(.int ix)]) G
  refine Gl.via (fun _ k => XS.aloadN X0.here hx rfl (hb hby d40_1) rfl rfl k) ?_
  show Gl p.tables e below s₁ (mkF m 2 #[.val (.ref sb), .val (.int ix)] [(.ref sb), (.int ix)]) G
  obtain ⟨cl1, Ar1, -, S1, N1, -, -⟩ := id F0_sb
  refine Gl.via (fun _ k => X0.arraylength hx (by rw [e0]; exact Ar1.1) (State.isArrayOf_alike hZ.alike Ar1.2.1) (g := (mkF m 2 #[.val (.ref sb), .val (.int ix)] [(.ref sb), (.int ix)])) rfl rfl (hb hby d40_2) _ k) ?_
  rw [len_of S1 N1]
  show Gl p.tables e below s₁ (mkF m 3 #[.val (.ref sb), .val (.int ix)] [(.int (own_ln scs)), (.int ix)]) G
  obtain ⟨_, _, ⟨T2, L2, k2, n2⟩, -, X2, ⟨Lc2, hQ2, l2, y2, z2⟩, st2⟩ := Jvm.LawKit.callS X0 hx (y := (⟨"java/lang/String", "checkIndex", "(II)V"⟩ : MethodName)) hown (mvT hZ (hw _ (List.mem_of_getElem? (i := 205) rfl))) (mvT hZ (hw _ (List.mem_of_getElem? (i := 206) rfl))) (mvT hZ (hw _ (List.mem_of_getElem? (i := 6) rfl))) (mvT hZ (hw _ (List.mem_of_getElem? (i := 207) rfl))) (by decide) (backOf (W := 0) (st_chk l Z a0 hw [] ix (own_ln scs) fm h0 n0 Z0 F1_jdk_internal_util_Preconditions F2_ hfm hi0 (by first | assumption | rfl | decide | omega)) hZ (hw _ (List.mem_of_getElem? (i := 207) rfl)) (hw _ (List.mem_of_getElem? (i := 6) rfl)) (by decide) (by decide)) (g := (mkF m 3 #[.val (.ref sb), .val (.int ix)] [(.int (own_ln scs)), (.int ix)])) rfl (by rw [hml]; rfl) (argsL := [(.int ix), (.int (own_ln scs))]) (rest := []) (lenOf pd_2 rfl) rfl (by show 2 * 0 + _ ≤ _; exact Nat.le_of_eq rfl) (hb hby d40_3) (fun _ _ => ⟨rfl, e0, (by decide : 0 + 0 ≤ _), (by decide : 0 + 0 ≤ _)⟩)
  dsimp only [Pt.U, Pt.locs, Pt.cells, Pt.slots] at X2 l2 y2 z2 st2 hQ2
  subst l2 y2 z2
  obtain ⟨rfl, N2q, eh2⟩ := hQ2
  have N2_ := Fr.app N0 N2q
  refine Gl.via (fun _ k => st2 _ k) ?_
  show Gl p.tables e below T2 (mkF m 6 #[.val (.ref sb), .val (.int ix)] []) G
  refine Gl.via (fun _ k => XS.aloadN X2.here hx rfl (hb hby d40_6) rfl rfl k) ?_
  show Gl p.tables e below T2 (mkF m 7 #[.val (.ref sb), .val (.int ix)] [(.ref sb)]) G
  refine Gl.via (fun _ k => XS.iloadN X2.here hx rfl (hb hby d40_7) rfl k) ?_
  show Gl p.tables e below T2 (mkF m 8 #[.val (.ref sb), .val (.int ix)] [(.int ix), (.ref sb)]) G
  obtain ⟨cl3, Ar3, q3, S3, N3, H3, G3⟩ := id F0_sb
  have hin3 : ¬ (ix < 0 ∨ cl3.slots.size ≤ (ix).toNatClampNeg) := inb_of S3 ⟨hi0, hi1⟩
  refine Gl.via (fun _ k => X2.baloadBytes hx (j := ix) (v := (.int iv)) (by rw [eh2]; exact Ar3.1) (State.isArrayOf_alike hZ.alike Ar3.2.1) Ar3.2.2 hin3 (Has.at H3 hin3 hat) (g := (mkF m 8 #[.val (.ref sb), .val (.int ix)] [(.int ix), (.ref sb)])) rfl rfl (hb hby d40_8) _ k) ?_
  show Gl p.tables e below T2 (mkF m 9 #[.val (.ref sb), .val (.int ix)] [(.int iv)]) G
  refine Gl.via (fun _ k => XS.sipush X2.here hx rfl (hb hby d40_9) k) ?_
  show Gl p.tables e below T2 (mkF m 12 #[.val (.ref sb), .val (.int ix)] [(.int (255 : Int32)), (.int iv)]) G
  refine Gl.via (fun _ k => XS.iand X2.here hx rfl (hb hby d40_12) rfl k) ?_
  show Gl p.tables e below T2 (mkF m 13 #[.val (.ref sb), .val (.int ix)] [(.int (iv &&& (255 : Int32)))]) G
  refine Gl.via (fun _ k => XS.i2c X2.here hx rfl (hb hby d40_13) rfl k) ?_
  show Gl p.tables e below T2 (mkF m 14 #[.val (.ref sb), .val (.int ix)] [(.int ((iv &&& (255 : Int32)).toUInt32.toUInt16.toUInt32.toInt32))]) G
  rw [show ((iv &&& (255 : Int32)).toUInt32.toUInt16.toUInt32.toInt32) = (iv &&& (255 : Int32)) from (i2c_mask _)]
  show Gl p.tables e below T2 (mkF m 14 #[.val (.ref sb), .val (.int ix)] [(.int (iv &&& (255 : Int32)))]) G
  obtain ⟨fs, hr, hrun, hended, hW, hsame⟩ := X2.leave (v := some (.int (iv &&& (255 : Int32)))) (fun h => by rw [Bd.returns] at h; cases h)
  have hnr : nar .char (iv &&& (255 : Int32)) = (iv &&& (255 : Int32)) := (i2c_mask _)
  rw [← hnr] at hr
  have hq : ∀ L, Fr n0 L → Q_l1_at Z sb sk scs ix iv fm h0 n0 (some (.int (iv &&& (255 : Int32)))) T2.heap L := by
    intro L hN
    rw [eh2]
    exact ⟨rfl, hN, rfl⟩
  rw [hG]
  exact Gl.fin (retN X2 hx (t := .char) Bd.returns (by simp) (hb hby d40_14) hr) ⟨_, hrun, hended, _, _, rfl, hq _ N2_, ⟨_, rfl⟩, hW, hsame.mono (by decide) (by decide)⟩
theorem d38_0 : decode jdk_42_method_56_code 0 = .ok (.aload_n 0, 1) := by decide +kernel
theorem d38_1 : decode jdk_42_method_56_code 1 = .ok (.invokevirtual 492, 3) := by decide +kernel
theorem pd_3 : parseMethodDescriptor "()Z" = some ⟨[], some .boolean⟩ := by decide +kernel
theorem d38_4 : decode jdk_42_method_56_code 4 = .ok (.ifCond .eq 12, 3) := by decide +kernel
theorem d38_7 : decode jdk_42_method_56_code 7 = .ok (.aload_n 0, 1) := by decide +kernel
theorem d38_8 : decode jdk_42_method_56_code 8 = .ok (.getfield 9, 3) := by decide +kernel
theorem d38_11 : decode jdk_42_method_56_code 11 = .ok (.iload_n 1, 1) := by decide +kernel
theorem d38_12 : decode jdk_42_method_56_code 12 = .ok (.invokestatic 495, 3) := by decide +kernel
theorem pd_4 : parseMethodDescriptor "([BI)C" = some ⟨[(.array .byte), .int], some .char⟩ := by decide +kernel
theorem d38_15 : decode jdk_42_method_56_code 15 = .ok (.ireturn, 1) := by decide +kernel
theorem ef_st_at (m : MethodId) (x0 : Addr) (x1 : Int32) : entryFrame m #[(.ref x0), (.int x1)] 2 = mkF m 0 #[.val (.ref x0), .val (.int x1)] [] := by first | (simp [entryFrame, mkF, argsToLocals, Value.category]; done) | rfl | (simp [entryFrame, mkF, argsToLocals, own_catI, own_catR, *]; done)
def Q_st_at (Z : State) (sa : Addr) (sb : Addr) (sk : ClassId) (scs : List Int32) (ix : Int32) (iv : Int32) (fm : Value) (cps : Int32) (h0 : Heap) (n0 : Nat) (v : Option Value) (h : Heap) (L : List Loc) : Prop := v = some (.int (iv &&& (255 : Int32))) ∧ Fr n0 L ∧ h = h0
set_option maxRecDepth 65536 in
set_option maxHeartbeats 40000000 in
theorem st_at (l : Launch) (Z : State) (a0 : Array Value) (hw : ∀ d ∈ tables_1, d.before a0 Z = true) (ws : List Jvm.Cond) (sa : Addr) (sb : Addr) (sk : ClassId) (scs : List Int32) (ix : Int32) (iv : Int32) (fm : Value) (cps : Int32) (h0 : Heap) (n0 : Nat) (Z0 : n0 ≤ h0.size) (F0_sa : Exa Z h0 sa "java/lang/String") (F1_sa_coder : Fld Z h0 sa "java/lang/String" "coder" "B" (.int (0 : Int32))) (F2_sa_value : Fld Z h0 sa "java/lang/String" "value" "[B" (.ref sb)) (F3_sb : Arv Z h0 sb sk .byte (own_ln scs) (scs.map Value.int) (.int (0 : Int32))) (F4_java_lang_String : Sta Z Z.heap "java/lang/String" "COMPACT_STRINGS" "Z" (.int cps)) (F5_jdk_internal_util_Preconditions : Sta Z Z.heap "jdk/internal/util/Preconditions" "SIOOBE_FORMATTER" "Ljava/util/function/BiFunction;" fm) (F6_ : Old Z n0 h0) (hcps : ¬ (cps = (0 : Int32))) (hfm : fm.category = 1) (hi0 : ¬ (ix < (0 : Int32))) (hi1 : ix < own_ln scs) (hat : (scs.map Value.int).getD ix.toNatClampNeg (.int (0 : Int32)) = .int iv) :
    MetFree l (⟨"java/lang/String", "charAt", "(I)C"⟩ : MethodName) (head1 (Jvm.Cond.code (⟨"java/lang/String", "charAt", "(I)C"⟩ : MethodName) jdk_42_method_56_code 2 (some .char) :: ws) ({ frames := 3, cells := 0, slots := 0, locals := 40 } : Room)) (fun a U => a = #[(.ref sa), (.int ix)] ∧ Z.Warmed39 U.vm ∧ U.heap = h0) (fun _ _ _ _ _ => True) (fun _ U o U' => ∃ v L, o = .returned v ∧ Q_st_at Z sa sb sk scs ix iv fm cps h0 n0 v U'.heap L ∧ FrameEnd U o U' L ({ frames := 3, cells := 0, slots := 0, locals := 40 } : Room).cells ({ frames := 3, cells := 0, slots := 0, locals := 40 } : Room).slots) := by
  refine MetFree.of_bodySF (plainFor_of_name pn_0) hisR ?_
  intro p e s m args below meth c s₁ Bd hml0 hP hK
  obtain ⟨rfl, hZ, hh⟩ := hP
  have hx := Bd.exec
  have hby := Bd.bytes
  have hml : c.maxLocals = 2 := hml0
  have hown : s.vm.findClass "java/lang/String" = some m.cls := findClass_of_methodNamed Bd.named
  have hnm := (name_of_methodNamed Bd.named Bd.method).1
  have X0 : Stand p l e ({ frames := 3, cells := 0, slots := 0, locals := 40 } : Room) s m #[(.ref sa), (.int ix)] below meth c s₁ [] 0 0 := Stand.of_body Bd
  have e0 : s₁.heap = h0 := by rw [← hh, Bd.state]; rfl
  have N0 := Fr.nil n0
  obtain ⟨G, hG⟩ : ∃ G : State → Prop, G = (fun U' => ∃ o, U'.status = .running ∧ Ended U' below o ∧ ∃ v L, o = .returned v ∧ Q_st_at Z sa sb sk scs ix iv fm cps h0 n0 v U'.heap L ∧ FrameEnd s o U' L ({ frames := 3, cells := 0, slots := 0, locals := 40 } : Room).cells ({ frames := 3, cells := 0, slots := 0, locals := 40 } : Room).slots) := ⟨_, rfl⟩
  suffices key : Gl p.tables e below s₁ (mkF m 0 #[.val (.ref sa), .val (.int ix)] []) G by
    obtain ⟨s₂, k1, k2⟩ := key
    rw [hG] at k2
    obtain ⟨o, k3, k4, k5⟩ := k2
    exact ⟨s₂, o, castTop (ef_st_at m sa ix) k1, k3, k4, k5⟩
  show Gl p.tables e below s₁ (mkF m 0 #[.val (.ref sa), .val (.int ix)] []) G
  refine Gl.via (fun _ k => XS.aloadN X0.here hx rfl (hb hby d38_0) rfl rfl k) ?_
  show Gl p.tables e below s₁ (mkF m 1 #[.val (.ref sa), .val (.int ix)] [(.ref sa)]) G
  obtain ⟨cq1, kq1, q1a, q1b, q1c⟩ := isOf hZ e0 F0_sa
  obtain ⟨_, _, ⟨T1, L1, k1, n1⟩, -, X1, ⟨Lc1, hQ1, l1, y1, z1⟩, st1⟩ := X0.virtualBack hx (y := (⟨"java/lang/String", "isLatin1", "()Z"⟩ : MethodName)) (z := (⟨"java/lang/String", "isLatin1", "()Z"⟩ : MethodName)) hown (mvT hZ (hw _ (List.mem_of_getElem? (i := 197) rfl))) (mvT hZ (hw _ (List.mem_of_getElem? (i := 198) rfl))) (notFace_of_selects (args := #[]) (mvT hZ (hw _ (List.mem_of_getElem? (i := 200) rfl)))) (mvT hZ (hw _ (List.mem_of_getElem? (i := 200) rfl))) (mvT hZ (hw _ (List.mem_of_getElem? (i := 199) rfl))) (by decide) (backOf (W := 0) (st_lat l Z a0 hw [] sa cps h0 n0 Z0 F1_sa_coder F4_java_lang_String F6_ hcps) hZ (hw _ (List.mem_of_getElem? (i := 201) rfl)) (hw _ (List.mem_of_getElem? (i := 6) rfl)) (by decide) (by decide)) q1a q1c (g := (mkF m 1 #[.val (.ref sa), .val (.int ix)] [(.ref sa)])) rfl (by rw [hml]; rfl) (Steps.refl _) (argsL := []) (rest := []) (lenOf pd_3 rfl) rfl (by show 2 * 0 + _ ≤ _; exact Nat.le_of_eq rfl) (hb hby d38_1) (fun _ _ => ⟨rfl, e0, (by decide : 0 + 0 ≤ _), (by decide : 0 + 0 ≤ _)⟩)
  dsimp only [Pt.U, Pt.locs, Pt.cells, Pt.slots] at X1 l1 y1 z1 st1 hQ1
  subst l1 y1 z1
  obtain ⟨rfl, N1q, eh1⟩ := hQ1
  have N1_ := Fr.app N0 N1q
  refine Gl.via (fun _ k => st1.trans k) ?_
  show Gl p.tables e below T1 (mkF m 4 #[.val (.ref sa), .val (.int ix)] [(.int (1 : Int32))]) G
  refine Gl.via (fun _ k => XS.ifNo X1.here hx rfl (hb hby d38_4) rfl ((if0 _ _).trans (feq (by decide)).1) k) ?_
  show Gl p.tables e below T1 (mkF m 7 #[.val (.ref sa), .val (.int ix)] []) G
  refine Gl.via (fun _ k => XS.aloadN X1.here hx rfl (hb hby d38_7) rfl rfl k) ?_
  show Gl p.tables e below T1 (mkF m 8 #[.val (.ref sa), .val (.int ix)] [(.ref sa)]) G
  obtain ⟨T2, X2, e2, st2⟩ := getF X1 hx hZ hown (host := "") (Or.inl (hw _ (List.mem_of_getElem? (i := 32) rfl))) Via.refl eh1 F2_sa_value (g := (mkF m 8 #[.val (.ref sa), .val (.int ix)] [(.ref sa)])) rfl rfl (hb hby d38_8)
  refine Gl.via st2 ?_
  show Gl p.tables e below T2 (mkF m 11 #[.val (.ref sa), .val (.int ix)] [(.ref sb)]) G
  refine Gl.via (fun _ k => XS.iloadN X2.here hx rfl (hb hby d38_11) rfl k) ?_
  show Gl p.tables e below T2 (mkF m 12 #[.val (.ref sa), .val (.int ix)] [(.int ix), (.ref sb)]) G
  obtain ⟨_, _, ⟨T3, L3, k3, n3⟩, -, X3, ⟨Lc3, hQ3, l3, y3, z3⟩, st3⟩ := Jvm.LawKit.callS X2 hx (y := (⟨"java/lang/StringLatin1", "charAt", "([BI)C"⟩ : MethodName)) hown (mvT hZ (hw _ (List.mem_of_getElem? (i := 202) rfl))) (mvT hZ (hw _ (List.mem_of_getElem? (i := 203) rfl))) (mvT hZ (hw _ (List.mem_of_getElem? (i := 68) rfl))) (mvT hZ (hw _ (List.mem_of_getElem? (i := 204) rfl))) (by decide) (backOf (W := 0) (l1_at l Z a0 hw [] sb sk scs ix iv fm h0 n0 Z0 F3_sb F5_jdk_internal_util_Preconditions F6_ hfm hi0 hi1 hat) hZ (hw _ (List.mem_of_getElem? (i := 204) rfl)) (hw _ (List.mem_of_getElem? (i := 68) rfl)) (by decide) (by decide)) (g := (mkF m 12 #[.val (.ref sa), .val (.int ix)] [(.int ix), (.ref sb)])) rfl (by rw [hml]; rfl) (argsL := [(.ref sb), (.int ix)]) (rest := []) (lenOf pd_4 rfl) rfl (by show 2 * 0 + _ ≤ _; exact Nat.le_of_eq rfl) (hb hby d38_12) (fun _ _ => ⟨rfl, e2, (by decide : 0 + 0 ≤ _), (by decide : 0 + 0 ≤ _)⟩)
  dsimp only [Pt.U, Pt.locs, Pt.cells, Pt.slots] at X3 l3 y3 z3 st3 hQ3
  subst l3 y3 z3
  obtain ⟨rfl, N3q, eh3⟩ := hQ3
  have N3_ := Fr.app N1_ N3q
  refine Gl.via (fun _ k => st3 _ k) ?_
  show Gl p.tables e below T3 (mkF m 15 #[.val (.ref sa), .val (.int ix)] [(.int (iv &&& (255 : Int32)))]) G
  obtain ⟨fs, hr, hrun, hended, hW, hsame⟩ := X3.leave (v := some (.int (iv &&& (255 : Int32)))) (fun h => by rw [Bd.returns] at h; cases h)
  have hnr : nar .char (iv &&& (255 : Int32)) = (iv &&& (255 : Int32)) := (i2c_mask _)
  rw [← hnr] at hr
  have hq : ∀ L, Fr n0 L → Q_st_at Z sa sb sk scs ix iv fm cps h0 n0 (some (.int (iv &&& (255 : Int32)))) T3.heap L := by
    intro L hN
    rw [eh3]
    exact ⟨rfl, hN, rfl⟩
  rw [hG]
  exact Gl.fin (retN X3 hx (t := .char) Bd.returns (by simp) (hb hby d38_15) hr) ⟨_, hrun, hended, _, _, rfl, hq _ N3_, ⟨_, rfl⟩, hW, hsame.mono (by decide) (by decide)⟩
theorem pn_3 : plainName "java/lang/AbstractStringBuilder" = true := by first | (simp [plainName, overriddenIn]; done) | decide +kernel
theorem d17_0 : decode jdk_68_method_2_code 0 = .ok (.aload_n 0, 1) := by decide +kernel
theorem d17_1 : decode jdk_68_method_2_code 1 = .ok (.invokespecial 3, 3) := by decide +kernel
theorem d17_4 : decode jdk_68_method_2_code 4 = .ok (.getstatic 18, 3) := by decide +kernel
theorem d17_7 : decode jdk_68_method_2_code 7 = .ok (.ifCond .eq 18, 3) := by decide +kernel
theorem d17_10 : decode jdk_68_method_2_code 10 = .ok (.aload_n 0, 1) := by decide +kernel
theorem d17_11 : decode jdk_68_method_2_code 11 = .ok (.iload_n 1, 1) := by decide +kernel
theorem d17_12 : decode jdk_68_method_2_code 12 = .ok (.newarray .byte, 2) := by decide +kernel
theorem d17_14 : decode jdk_68_method_2_code 14 = .ok (.putfield 15, 3) := by decide +kernel
theorem d17_17 : decode jdk_68_method_2_code 17 = .ok (.aload_n 0, 1) := by decide +kernel
theorem d17_18 : decode jdk_68_method_2_code 18 = .ok (.iconst 0, 1) := by decide +kernel
theorem d17_19 : decode jdk_68_method_2_code 19 = .ok (.putfield 22, 3) := by decide +kernel
theorem d17_22 : decode jdk_68_method_2_code 22 = .ok (.goto 16, 3) := by decide +kernel
theorem d17_38 : decode jdk_68_method_2_code 38 = .ok (.return_, 1) := by decide +kernel
theorem ef_asb_init (m : MethodId) (x0 : Addr) (x1 : Int32) : entryFrame m #[(.ref x0), (.int x1)] 2 = mkF m 0 #[.val (.ref x0), .val (.int x1)] [] := by first | (simp [entryFrame, mkF, argsToLocals, Value.category]; done) | rfl | (simp [entryFrame, mkF, argsToLocals, own_catI, own_catR, *]; done)
def Q_asb_init (Z : State) (ba : Addr) (u1 : Value) (u2 : Value) (cps : Int32) (h0 : Heap) (n0 : Nat) (v : Option Value) (h : Heap) (L : List Loc) : Prop := ∃ (bv : Addr), ∃ (bk : ClassId), v = none ∧ Fr n0 L ∧ Keep h0 h [ba] ∧ Exa Z h ba "java/lang/StringBuilder" ∧ Fld Z h ba "java/lang/AbstractStringBuilder" "value" "[B" (.ref bv) ∧ Fld Z h ba "java/lang/AbstractStringBuilder" "coder" "B" (.int (0 : Int32)) ∧ Fld Z h ba "java/lang/AbstractStringBuilder" "count" "I" (.int (own_ln ([] : List Int32))) ∧ Arv Z h bv bk .byte (16 : Int32) (([] : List Int32).map Value.int) (.int (0 : Int32)) ∧ (h0.size ≤ bv)
set_option maxRecDepth 65536 in
set_option maxHeartbeats 40000000 in
theorem asb_init (l : Launch) (Z : State) (a0 : Array Value) (hw : ∀ d ∈ tables_1, d.before a0 Z = true) (ws : List Jvm.Cond) (ba : Addr) (u1 : Value) (u2 : Value) (cps : Int32) (h0 : Heap) (n0 : Nat) (Z0 : n0 ≤ h0.size) (F0_ba : Exa Z h0 ba "java/lang/StringBuilder") (F1_ba_value : Fld Z h0 ba "java/lang/AbstractStringBuilder" "value" "[B" u1) (F2_ba_coder : Fld Z h0 ba "java/lang/AbstractStringBuilder" "coder" "B" u2) (F3_ba_count : Fld Z h0 ba "java/lang/AbstractStringBuilder" "count" "I" (.int (0 : Int32))) (F4_java_lang_String : Sta Z Z.heap "java/lang/String" "COMPACT_STRINGS" "Z" (.int cps)) (F5_ : Old Z n0 h0) (hp0 : n0 ≤ ba) (hcps : ¬ (cps = (0 : Int32))) :
    MetFree l (⟨"java/lang/AbstractStringBuilder", "<init>", "(I)V"⟩ : MethodName) (head1 (Jvm.Cond.code (⟨"java/lang/AbstractStringBuilder", "<init>", "(I)V"⟩ : MethodName) jdk_68_method_2_code 2 none :: ws) ({ frames := 1, cells := 1, slots := 16, locals := 12 } : Room)) (fun a U => a = #[(.ref ba), (.int (16 : Int32))] ∧ Z.Warmed39 U.vm ∧ U.heap = h0) (fun _ _ _ _ _ => True) (fun _ U o U' => ∃ v L, o = .returned v ∧ Q_asb_init Z ba u1 u2 cps h0 n0 v U'.heap L ∧ FrameEnd U o U' L ({ frames := 1, cells := 1, slots := 16, locals := 12 } : Room).cells ({ frames := 1, cells := 1, slots := 16, locals := 12 } : Room).slots) := by
  refine MetFree.of_bodySF (plainFor_of_name pn_3) hisR ?_
  intro p e s m args below meth c s₁ Bd hml0 hP hK
  obtain ⟨rfl, hZ, hh⟩ := hP
  have hx := Bd.exec
  have hby := Bd.bytes
  have hml : c.maxLocals = 2 := hml0
  have hown : s.vm.findClass "java/lang/AbstractStringBuilder" = some m.cls := findClass_of_methodNamed Bd.named
  have hnm := (name_of_methodNamed Bd.named Bd.method).1
  have X0 : Stand p l e ({ frames := 1, cells := 1, slots := 16, locals := 12 } : Room) s m #[(.ref ba), (.int (16 : Int32))] below meth c s₁ [] 0 0 := Stand.of_body Bd
  have e0 : s₁.heap = h0 := by rw [← hh, Bd.state]; rfl
  have N0 := Fr.nil n0
  obtain ⟨G, hG⟩ : ∃ G : State → Prop, G = (fun U' => ∃ o, U'.status = .running ∧ Ended U' below o ∧ ∃ v L, o = .returned v ∧ Q_asb_init Z ba u1 u2 cps h0 n0 v U'.heap L ∧ FrameEnd s o U' L ({ frames := 1, cells := 1, slots := 16, locals := 12 } : Room).cells ({ frames := 1, cells := 1, slots := 16, locals := 12 } : Room).slots) := ⟨_, rfl⟩
  suffices key : Gl p.tables e below s₁ (mkF m 0 #[.val (.ref ba), .val (.int (16 : Int32))] []) G by
    obtain ⟨s₂, k1, k2⟩ := key
    rw [hG] at k2
    obtain ⟨o, k3, k4, k5⟩ := k2
    exact ⟨s₂, o, castTop (ef_asb_init m ba (16 : Int32)) k1, k3, k4, k5⟩
  show Gl p.tables e below s₁ (mkF m 0 #[.val (.ref ba), .val (.int (16 : Int32))] []) G
  refine Gl.via (fun _ k => XS.aloadN X0.here hx rfl (hb hby d17_0) rfl rfl k) ?_
  show Gl p.tables e below s₁ (mkF m 1 #[.val (.ref ba), .val (.int (16 : Int32))] [(.ref ba)]) G
  obtain ⟨T1, X1, e1, st1⟩ := initO X0 hx hZ hown (hw _ (List.mem_of_getElem? (i := 89) rfl)) (hw _ (List.mem_of_getElem? (i := 16) rfl)) (hw _ (List.mem_of_getElem? (i := 17) rfl)) e0 (g := (mkF m 1 #[.val (.ref ba), .val (.int (16 : Int32))] [(.ref ba)])) rfl (by rw [hml]; rfl) rfl (hb hby d17_1) (by decide) (W := 0) (by show 2 * 0 + _ ≤ _; exact Nat.le_of_eq rfl) (by decide)
  refine Gl.via st1 ?_
  show Gl p.tables e below T1 (mkF m 4 #[.val (.ref ba), .val (.int (16 : Int32))] []) G
  have G2 : Sta Z h0 "java/lang/String" "COMPACT_STRINGS" "Z" (.int cps) := F4_java_lang_String.ext F5_.2
  obtain ⟨T3, X3, e3, st3⟩ := getS2 X1 hx hZ hown (host := "") (Or.inl (hw _ (List.mem_of_getElem? (i := 90) rfl))) Via.refl e1 G2 (g := (mkF m 4 #[.val (.ref ba), .val (.int (16 : Int32))] [])) rfl (hb hby d17_4)
  refine Gl.via st3 ?_
  show Gl p.tables e below T3 (mkF m 7 #[.val (.ref ba), .val (.int (16 : Int32))] [(.int cps)]) G
  refine Gl.via (fun _ k => XS.ifNo X3.here hx rfl (hb hby d17_7) rfl ((if0 _ _).trans (feq hcps).1) k) ?_
  show Gl p.tables e below T3 (mkF m 10 #[.val (.ref ba), .val (.int (16 : Int32))] []) G
  refine Gl.via (fun _ k => XS.aloadN X3.here hx rfl (hb hby d17_10) rfl rfl k) ?_
  show Gl p.tables e below T3 (mkF m 11 #[.val (.ref ba), .val (.int (16 : Int32))] [(.ref ba)]) G
  refine Gl.via (fun _ k => XS.iloadN X3.here hx rfl (hb hby d17_11) rfl k) ?_
  show Gl p.tables e below T3 (mkF m 12 #[.val (.ref ba), .val (.int (16 : Int32))] [(.int (16 : Int32)), (.ref ba)]) G
  obtain ⟨T4, h4, k4, X4, e4, E4, A4, st4⟩ := newP X3 hx hZ (hw _ (List.mem_of_getElem? (i := 23) rfl)) e3 (g := (mkF m 12 #[.val (.ref ba), .val (.int (16 : Int32))] [(.int (16 : Int32)), (.ref ba)])) rfl (hb hby d17_12) rfl (by decide) (cap := 16) (by decide) (by decide) (by decide) (by decide)
  obtain ⟨b4, g4⟩ : ∃ z, z = h0.size := ⟨_, rfl⟩
  rw [← g4] at A4 st4
  have ne5 : ba ≠ b4 := Nat.ne_of_lt (Nat.lt_of_lt_of_le F0_ba.lt (Nat.le_of_eq g4.symm))
  have ge6 : n0 ≤ b4 := Nat.le_trans Z0 (Nat.le_of_eq g4.symm)
  have gz7 : h0.size ≤ b4 := Nat.le_trans (Nat.le_refl h0.size) (Nat.le_of_eq g4.symm)
  refine Gl.via st4 ?_
  have Z8 : n0 ≤ h4.size := Nat.le_trans Z0 E4.1
  have Y9 : h0.size ≤ h4.size := Nat.le_trans (Nat.le_refl h0.size) E4.1
  have V10 : Arv Z h4 b4 k4 .byte (16 : Int32) [] (.int (0 : Int32)) := Arv.new A4 (by decide)
  show Gl p.tables e below T4 (mkF m 14 #[.val (.ref ba), .val (.int (16 : Int32))] [(.ref b4), (.ref ba)]) G
  have G11 : Fld Z h4 ba "java/lang/AbstractStringBuilder" "value" "[B" u1 := (F1_ba_value.ext E4)
  have G12 : Exa Z h4 ba "java/lang/StringBuilder" := (F0_ba.ext E4)
  obtain ⟨T13, h13, X13, e13, W13, st13⟩ := putF X4 hx hZ hown (host := "") (Or.inl (hw _ (List.mem_of_getElem? (i := 91) rfl))) Via.refl e4 G11 G12 (Or.inl (hw _ (List.mem_of_getElem? (i := 92) rfl))) (hw _ (List.mem_of_getElem? (i := 78) rfl)) (ty := (.array .byte)) (by decide) rfl rfl (g := (mkF m 14 #[.val (.ref ba), .val (.int (16 : Int32))] [(.ref b4), (.ref ba)])) rfl rfl (hb hby d17_14)
  refine Gl.via st13 ?_
  have N13_ := Fr.snoc X13 N0 hp0
  have Z14 : n0 ≤ h13.size := Nat.le_trans Z8 (Keep.of_wr W13).1
  have Y15 : h0.size ≤ h13.size := Nat.le_trans Y9 (Keep.of_wr W13).1
  show Gl p.tables e below T13 (mkF m 17 #[.val (.ref ba), .val (.int (16 : Int32))] []) G
  refine Gl.via (fun _ k => XS.aloadN X13.here hx rfl (hb hby d17_17) rfl rfl k) ?_
  show Gl p.tables e below T13 (mkF m 18 #[.val (.ref ba), .val (.int (16 : Int32))] [(.ref ba)]) G
  refine Gl.via (fun _ k => XS.iconst X13.here hx rfl (hb hby d17_18) k) ?_
  show Gl p.tables e below T13 (mkF m 19 #[.val (.ref ba), .val (.int (16 : Int32))] [(.int (0 : Int32)), (.ref ba)]) G
  have G16 : Fld Z h13 ba "java/lang/AbstractStringBuilder" "coder" "B" u2 := ((F2_ba_coder.ext E4).other W13 (Or.inr (slot_ne (Or.inl (hw _ (List.mem_of_getElem? (i := 94) rfl))) (Or.inl (hw _ (List.mem_of_getElem? (i := 92) rfl))) (by decide) (t := .byte) (t' := (.array .byte)) (by decide) (by decide))))
  have G17 : Exa Z h13 ba "java/lang/StringBuilder" := (G12.wr W13)
  obtain ⟨T18, h18, X18, e18, W18, st18⟩ := putFN X13 hx hZ hown (hw _ (List.mem_of_getElem? (i := 93) rfl)) Via.refl e13 G16 G17 (Or.inl (hw _ (List.mem_of_getElem? (i := 94) rfl))) (hw _ (List.mem_of_getElem? (i := 78) rfl)) (ty := .byte) (v' := (.int (0 : Int32))) (by decide) rfl (by decide) (g := (mkF m 19 #[.val (.ref ba), .val (.int (16 : Int32))] [(.int (0 : Int32)), (.ref ba)])) rfl rfl (hb hby d17_19)
  refine Gl.via st18 ?_
  have N18_ := Fr.snoc X18 N13_ hp0
  have Z19 : n0 ≤ h18.size := Nat.le_trans Z14 (Keep.of_wr W18).1
  have Y20 : h0.size ≤ h18.size := Nat.le_trans Y15 (Keep.of_wr W18).1
  show Gl p.tables e below T18 (mkF m 22 #[.val (.ref ba), .val (.int (16 : Int32))] []) G
  refine Gl.via (fun _ k => XS.goto X18.here hx rfl (pc0 := 22) (pc' := 38) rfl (hb hby d17_22) (by decide) (by decide) k) ?_
  show Gl p.tables e below T18 (mkF m 38 #[.val (.ref ba), .val (.int (16 : Int32))] []) G
  obtain ⟨fs, hr, hrun, hended, hW, hsame⟩ := X18.leave (v := none) (fun _ => rfl)
  have G21 : Exa Z h18 ba "java/lang/StringBuilder" := (G17.wr W18)
  have G22 : Fld Z h18 ba "java/lang/AbstractStringBuilder" "value" "[B" (.ref b4) := ((Fld.same W13 G11).other W18 (Or.inr (slot_ne (Or.inl (hw _ (List.mem_of_getElem? (i := 92) rfl))) (Or.inl (hw _ (List.mem_of_getElem? (i := 94) rfl))) (by decide) (t := (.array .byte)) (t' := .byte) (by decide) (by decide))))
  have G23 : Fld Z h18 ba "java/lang/AbstractStringBuilder" "count" "I" (.int (0 : Int32)) := (((F3_ba_count.ext E4).other W13 (Or.inr (slot_ne (Or.inl (hw _ (List.mem_of_getElem? (i := 116) rfl))) (Or.inl (hw _ (List.mem_of_getElem? (i := 92) rfl))) (by decide) (t := .int) (t' := (.array .byte)) (by decide) (by decide)))).other W18 (Or.inr (slot_ne (Or.inl (hw _ (List.mem_of_getElem? (i := 116) rfl))) (Or.inl (hw _ (List.mem_of_getElem? (i := 94) rfl))) (by decide) (t := .int) (t' := .byte) (by decide) (by decide))))
  have G24 : Arv Z h18 b4 k4 .byte (16 : Int32) [] (.int (0 : Int32)) := ((V10.other W13 (Ne.symm ne5)).other W18 (Ne.symm ne5))
  have hq : ∀ L, Fr n0 L → Q_asb_init Z ba u1 u2 cps h0 n0 (none) T18.heap L := by
    intro L hN
    rw [e18]
    exact ⟨b4, k4, rfl, hN, ((((Keep.refl h0 [ba]).ext E4).wr W13 (Or.inl (List.mem_of_getElem? (i := 0) rfl))).wr W18 (Or.inl (List.mem_of_getElem? (i := 0) rfl))), G21, G22, (Fld.same W18 G16), G23, G24, gz7⟩
  rw [hG]
  exact Gl.fin (X18.returnOut hx Bd.returns (hb hby d17_38) hr) ⟨_, hrun, hended, _, _, rfl, hq _ N18_, ⟨_, rfl⟩, hW, hsame.mono (by decide) (by decide)⟩
theorem pn_4 : plainName "java/lang/StringBuilder" = true := by first | (simp [plainName, overriddenIn]; done) | decide +kernel
theorem d16_0 : decode jdk_67_method_1_code 0 = .ok (.aload_n 0, 1) := by decide +kernel
theorem d16_1 : decode jdk_67_method_1_code 1 = .ok (.bipush 16, 2) := by decide +kernel
theorem d16_3 : decode jdk_67_method_1_code 3 = .ok (.invokespecial 1, 3) := by decide +kernel
theorem pd_5 : parseMethodDescriptor "(I)V" = some ⟨[.int], none⟩ := by decide +kernel
theorem d16_6 : decode jdk_67_method_1_code 6 = .ok (.return_, 1) := by decide +kernel
theorem ef_sb_init (m : MethodId) (x0 : Addr) : entryFrame m #[(.ref x0)] 1 = mkF m 0 #[.val (.ref x0)] [] := by first | (simp [entryFrame, mkF, argsToLocals, Value.category]; done) | rfl | (simp [entryFrame, mkF, argsToLocals, own_catI, own_catR, *]; done)
def Q_sb_init (Z : State) (ba : Addr) (u1 : Value) (u2 : Value) (cps : Int32) (h0 : Heap) (n0 : Nat) (v : Option Value) (h : Heap) (L : List Loc) : Prop := ∃ (bv : Addr), ∃ (bk : ClassId), v = none ∧ Fr n0 L ∧ Keep h0 h [ba] ∧ Exa Z h ba "java/lang/StringBuilder" ∧ Fld Z h ba "java/lang/AbstractStringBuilder" "value" "[B" (.ref bv) ∧ Fld Z h ba "java/lang/AbstractStringBuilder" "coder" "B" (.int (0 : Int32)) ∧ Fld Z h ba "java/lang/AbstractStringBuilder" "count" "I" (.int (own_ln ([] : List Int32))) ∧ Arv Z h bv bk .byte (16 : Int32) (([] : List Int32).map Value.int) (.int (0 : Int32)) ∧ (h0.size ≤ bv)
set_option maxRecDepth 65536 in
set_option maxHeartbeats 40000000 in
theorem sb_init (l : Launch) (Z : State) (a0 : Array Value) (hw : ∀ d ∈ tables_1, d.before a0 Z = true) (ws : List Jvm.Cond) (ba : Addr) (u1 : Value) (u2 : Value) (cps : Int32) (h0 : Heap) (n0 : Nat) (Z0 : n0 ≤ h0.size) (F0_ba : Exa Z h0 ba "java/lang/StringBuilder") (F1_ba_value : Fld Z h0 ba "java/lang/AbstractStringBuilder" "value" "[B" u1) (F2_ba_coder : Fld Z h0 ba "java/lang/AbstractStringBuilder" "coder" "B" u2) (F3_ba_count : Fld Z h0 ba "java/lang/AbstractStringBuilder" "count" "I" (.int (0 : Int32))) (F4_java_lang_String : Sta Z Z.heap "java/lang/String" "COMPACT_STRINGS" "Z" (.int cps)) (F5_ : Old Z n0 h0) (hp0 : n0 ≤ ba) (hcps : ¬ (cps = (0 : Int32))) :
    MetFree l (⟨"java/lang/StringBuilder", "<init>", "()V"⟩ : MethodName) (head1 (Jvm.Cond.code (⟨"java/lang/StringBuilder", "<init>", "()V"⟩ : MethodName) jdk_67_method_1_code 1 none :: ws) ({ frames := 2, cells := 1, slots := 16, locals := 25 } : Room)) (fun a U => a = #[(.ref ba)] ∧ Z.Warmed39 U.vm ∧ U.heap = h0) (fun _ _ _ _ _ => True) (fun _ U o U' => ∃ v L, o = .returned v ∧ Q_sb_init Z ba u1 u2 cps h0 n0 v U'.heap L ∧ FrameEnd U o U' L ({ frames := 2, cells := 1, slots := 16, locals := 25 } : Room).cells ({ frames := 2, cells := 1, slots := 16, locals := 25 } : Room).slots) := by
  refine MetFree.of_bodySF (plainFor_of_name pn_4) hisR ?_
  intro p e s m args below meth c s₁ Bd hml0 hP hK
  obtain ⟨rfl, hZ, hh⟩ := hP
  have hx := Bd.exec
  have hby := Bd.bytes
  have hml : c.maxLocals = 1 := hml0
  have hown : s.vm.findClass "java/lang/StringBuilder" = some m.cls := findClass_of_methodNamed Bd.named
  have hnm := (name_of_methodNamed Bd.named Bd.method).1
  have X0 : Stand p l e ({ frames := 2, cells := 1, slots := 16, locals := 25 } : Room) s m #[(.ref ba)] below meth c s₁ [] 0 0 := Stand.of_body Bd
  have e0 : s₁.heap = h0 := by rw [← hh, Bd.state]; rfl
  have N0 := Fr.nil n0
  obtain ⟨G, hG⟩ : ∃ G : State → Prop, G = (fun U' => ∃ o, U'.status = .running ∧ Ended U' below o ∧ ∃ v L, o = .returned v ∧ Q_sb_init Z ba u1 u2 cps h0 n0 v U'.heap L ∧ FrameEnd s o U' L ({ frames := 2, cells := 1, slots := 16, locals := 25 } : Room).cells ({ frames := 2, cells := 1, slots := 16, locals := 25 } : Room).slots) := ⟨_, rfl⟩
  suffices key : Gl p.tables e below s₁ (mkF m 0 #[.val (.ref ba)] []) G by
    obtain ⟨s₂, k1, k2⟩ := key
    rw [hG] at k2
    obtain ⟨o, k3, k4, k5⟩ := k2
    exact ⟨s₂, o, castTop (ef_sb_init m ba) k1, k3, k4, k5⟩
  show Gl p.tables e below s₁ (mkF m 0 #[.val (.ref ba)] []) G
  refine Gl.via (fun _ k => XS.aloadN X0.here hx rfl (hb hby d16_0) rfl rfl k) ?_
  show Gl p.tables e below s₁ (mkF m 1 #[.val (.ref ba)] [(.ref ba)]) G
  refine Gl.via (fun _ k => XS.bipush X0.here hx rfl (hb hby d16_1) k) ?_
  show Gl p.tables e below s₁ (mkF m 3 #[.val (.ref ba)] [(.int (16 : Int32)), (.ref ba)]) G
  obtain ⟨_, _, ⟨T1, L1, k1, n1⟩, -, X1, ⟨Lc1, hQ1, l1, y1, z1⟩, st1⟩ := X0.specialBack hx (y := (⟨"java/lang/AbstractStringBuilder", "<init>", "(I)V"⟩ : MethodName)) rfl hown (mvT hZ (hw _ (List.mem_of_getElem? (i := 83) rfl))) (mvT hZ (hw _ (List.mem_of_getElem? (i := 84) rfl))) (mvT hZ (hw _ (List.mem_of_getElem? (i := 88) rfl))) (by decide) (backOf (W := 0) (asb_init l Z a0 hw [] ba u1 u2 cps h0 n0 Z0 F0_ba F1_ba_value F2_ba_coder F3_ba_count F4_java_lang_String F5_ hp0 hcps) hZ (hw _ (List.mem_of_getElem? (i := 88) rfl)) (hw _ (List.mem_of_getElem? (i := 87) rfl)) (by decide) (by decide)) (g := (mkF m 3 #[.val (.ref ba)] [(.int (16 : Int32)), (.ref ba)])) rfl (by rw [hml]; rfl) (Steps.refl _) (a := ba) (argsL := [(.int (16 : Int32))]) (rest := []) (lenOf pd_5 rfl) rfl (by show 2 * 0 + _ ≤ _; exact Nat.le_of_eq rfl) (hb hby d16_3) (fun _ _ => ⟨rfl, e0, (by decide : 0 + 1 ≤ _), (by decide : 0 + 16 ≤ _)⟩)
  dsimp only [Pt.U, Pt.locs, Pt.cells, Pt.slots] at X1 l1 y1 z1 st1 hQ1
  subst l1 y1 z1
  obtain ⟨bv_1, bk_1, rfl, N1q, K1, P2, P3, P4, P5, P6, R7⟩ := hQ1
  have N1_ := Fr.app N0 N1q
  refine Gl.via (fun _ k => st1.trans k) ?_
  have ne8 : ba ≠ bv_1 := Nat.ne_of_lt (Nat.lt_of_lt_of_le F0_ba.lt R7)
  have ge9 : n0 ≤ bv_1 := Nat.le_trans Z0 R7
  have gz10 : h0.size ≤ bv_1 := Nat.le_trans (Nat.le_refl h0.size) R7
  have Z11 : n0 ≤ T1.heap.size := Nat.le_trans Z0 K1.1
  have Y12 : h0.size ≤ T1.heap.size := Nat.le_trans (Nat.le_refl h0.size) K1.1
  show Gl p.tables e below T1 (mkF m 6 #[.val (.ref ba)] []) G
  obtain ⟨fs, hr, hrun, hended, hW, hsame⟩ := X1.leave (v := none) (fun _ => rfl)
  have hq : ∀ L, Fr n0 L → Q_sb_init Z ba u1 u2 cps h0 n0 (none) T1.heap L := by
    intro L hN
    exact ⟨bv_1, bk_1, rfl, hN, ((Keep.refl h0 [ba]).trans K1 (allS (Or.inl (List.mem_of_getElem? (i := 0) rfl)) all0)), P2, P3, P4, P5, P6, R7⟩
  rw [hG]
  exact Gl.fin (X1.returnOut hx Bd.returns (hb hby d16_6) hr) ⟨_, hrun, hended, _, _, rfl, hq _ N1_, ⟨_, rfl⟩, hW, hsame.mono (by decide) (by decide)⟩
theorem d22_0 : decode jdk_68_method_9_code 0 = .ok (.aload_n 0, 1) := by decide +kernel
theorem d22_1 : decode jdk_68_method_9_code 1 = .ok (.getfield 15, 3) := by decide +kernel
theorem d22_4 : decode jdk_68_method_9_code 4 = .ok (.arraylength, 1) := by decide +kernel
theorem d22_5 : decode jdk_68_method_9_code 5 = .ok (.aload_n 0, 1) := by decide +kernel
theorem d22_6 : decode jdk_68_method_9_code 6 = .ok (.getfield 22, 3) := by decide +kernel
theorem d22_9 : decode jdk_68_method_9_code 9 = .ok (.ishr, 1) := by decide +kernel
theorem d22_10 : decode jdk_68_method_9_code 10 = .ok (.istore_n 2, 1) := by decide +kernel
theorem d22_11 : decode jdk_68_method_9_code 11 = .ok (.iload_n 1, 1) := by decide +kernel
theorem d22_12 : decode jdk_68_method_9_code 12 = .ok (.iload_n 2, 1) := by decide +kernel
theorem d22_13 : decode jdk_68_method_9_code 13 = .ok (.isub, 1) := by decide +kernel
theorem d22_14 : decode jdk_68_method_9_code 14 = .ok (.ifCond .le 24, 3) := by decide +kernel
theorem d22_38 : decode jdk_68_method_9_code 38 = .ok (.return_, 1) := by decide +kernel
theorem ef_asb_ens (m : MethodId) (x0 : Addr) (x1 : Int32) : entryFrame m #[(.ref x0), (.int x1)] 3 = mkF m 0 #[.val (.ref x0), .val (.int x1), .unset] [] := by first | (simp [entryFrame, mkF, argsToLocals, Value.category]; done) | rfl | (simp [entryFrame, mkF, argsToLocals, own_catI, own_catR, *]; done)
def Q_asb_ens (Z : State) (ba : Addr) (bv : Addr) (bk : ClassId) (bcs : List Int32) (mc : Int32) (h0 : Heap) (n0 : Nat) (v : Option Value) (h : Heap) (L : List Loc) : Prop := v = none ∧ Fr n0 L ∧ h = h0
set_option maxRecDepth 65536 in
set_option maxHeartbeats 40000000 in
theorem asb_ens (l : Launch) (Z : State) (a0 : Array Value) (hw : ∀ d ∈ tables_1, d.before a0 Z = true) (ws : List Jvm.Cond) (ba : Addr) (bv : Addr) (bk : ClassId) (bcs : List Int32) (mc : Int32) (h0 : Heap) (n0 : Nat) (Z0 : n0 ≤ h0.size) (F0_ba_value : Fld Z h0 ba "java/lang/AbstractStringBuilder" "value" "[B" (.ref bv)) (F1_ba_coder : Fld Z h0 ba "java/lang/AbstractStringBuilder" "coder" "B" (.int (0 : Int32))) (F2_bv : Arv Z h0 bv bk .byte (16 : Int32) (bcs.map Value.int) (.int (0 : Int32))) (hmc : ¬ ((0 : Int32) < mc - (16 : Int32))) :
    MetFree l (⟨"java/lang/AbstractStringBuilder", "ensureCapacityInternal", "(I)V"⟩ : MethodName) (head1 (Jvm.Cond.code (⟨"java/lang/AbstractStringBuilder", "ensureCapacityInternal", "(I)V"⟩ : MethodName) jdk_68_method_9_code 3 none :: ws) ({ frames := 0, cells := 0, slots := 0, locals := 0 } : Room)) (fun a U => a = #[(.ref ba), (.int mc)] ∧ Z.Warmed39 U.vm ∧ U.heap = h0) (fun _ _ _ _ _ => True) (fun _ U o U' => ∃ v L, o = .returned v ∧ Q_asb_ens Z ba bv bk bcs mc h0 n0 v U'.heap L ∧ FrameEnd U o U' L ({ frames := 0, cells := 0, slots := 0, locals := 0 } : Room).cells ({ frames := 0, cells := 0, slots := 0, locals := 0 } : Room).slots) := by
  refine MetFree.of_bodySF (plainFor_of_name pn_3) hisR ?_
  intro p e s m args below meth c s₁ Bd hml0 hP hK
  obtain ⟨rfl, hZ, hh⟩ := hP
  have hx := Bd.exec
  have hby := Bd.bytes
  have hml : c.maxLocals = 3 := hml0
  have hown : s.vm.findClass "java/lang/AbstractStringBuilder" = some m.cls := findClass_of_methodNamed Bd.named
  have hnm := (name_of_methodNamed Bd.named Bd.method).1
  have X0 : Stand p l e ({ frames := 0, cells := 0, slots := 0, locals := 0 } : Room) s m #[(.ref ba), (.int mc)] below meth c s₁ [] 0 0 := Stand.of_body Bd
  have e0 : s₁.heap = h0 := by rw [← hh, Bd.state]; rfl
  have N0 := Fr.nil n0
  obtain ⟨G, hG⟩ : ∃ G : State → Prop, G = (fun U' => ∃ o, U'.status = .running ∧ Ended U' below o ∧ ∃ v L, o = .returned v ∧ Q_asb_ens Z ba bv bk bcs mc h0 n0 v U'.heap L ∧ FrameEnd s o U' L ({ frames := 0, cells := 0, slots := 0, locals := 0 } : Room).cells ({ frames := 0, cells := 0, slots := 0, locals := 0 } : Room).slots) := ⟨_, rfl⟩
  suffices key : Gl p.tables e below s₁ (mkF m 0 #[.val (.ref ba), .val (.int mc), .unset] []) G by
    obtain ⟨s₂, k1, k2⟩ := key
    rw [hG] at k2
    obtain ⟨o, k3, k4, k5⟩ := k2
    exact ⟨s₂, o, castTop (ef_asb_ens m ba mc) k1, k3, k4, k5⟩
  show Gl p.tables e below s₁ (mkF m 0 #[.val (.ref ba), .val (.int mc), .unset] []) G
  refine Gl.via (fun _ k => XS.aloadN X0.here hx rfl (hb hby d22_0) rfl rfl k) ?_
  show Gl p.tables e below s₁ (mkF m 1 #[.val (.ref ba), .val (.int mc), .unset] [(.ref ba)]) G
  obtain ⟨T1, X1, e1, st1⟩ := getF X0 hx hZ hown (host := "") (Or.inl (hw _ (List.mem_of_getElem? (i := 91) rfl))) Via.refl e0 F0_ba_value (g := (mkF m 1 #[.val (.ref ba), .val (.int mc), .unset] [(.ref ba)])) rfl rfl (hb hby d22_1)
  refine Gl.via st1 ?_
  show Gl p.tables e below T1 (mkF m 4 #[.val (.ref ba), .val (.int mc), .unset] [(.ref bv)]) G
  obtain ⟨cl2, Ar2, -, S2, N2, -, -⟩ := id F2_bv
  refine Gl.via (fun _ k => X1.arraylength hx (by rw [e1]; exact Ar2.1) (State.isArrayOf_alike hZ.alike Ar2.2.1) (g := (mkF m 4 #[.val (.ref ba), .val (.int mc), .unset] [(.ref bv)])) rfl rfl (hb hby d22_4) _ k) ?_
  rw [len_of S2 N2]
  show Gl p.tables e below T1 (mkF m 5 #[.val (.ref ba), .val (.int mc), .unset] [(.int (16 : Int32))]) G
  refine Gl.via (fun _ k => XS.aloadN X1.here hx rfl (hb hby d22_5) rfl rfl k) ?_
  show Gl p.tables e below T1 (mkF m 6 #[.val (.ref ba), .val (.int mc), .unset] [(.ref ba), (.int (16 : Int32))]) G
  obtain ⟨T3, X3, e3, st3⟩ := getF X1 hx hZ hown (host := "") (Or.inl (hw _ (List.mem_of_getElem? (i := 93) rfl))) Via.refl e1 F1_ba_coder (g := (mkF m 6 #[.val (.ref ba), .val (.int mc), .unset] [(.ref ba), (.int (16 : Int32))])) rfl rfl (hb hby d22_6)
  refine Gl.via st3 ?_
  show Gl p.tables e below T3 (mkF m 9 #[.val (.ref ba), .val (.int mc), .unset] [(.int (0 : Int32)), (.int (16 : Int32))]) G
  refine Gl.via (fun _ k => XS.ishr X3.here hx rfl (hb hby d22_9) rfl k) ?_
  show Gl p.tables e below T3 (mkF m 10 #[.val (.ref ba), .val (.int mc), .unset] [(.int (16 : Int32))]) G
  refine Gl.via (fun _ k => XS.istoreN X3.here hx rfl (hb hby d22_10) rfl (l' := #[.val (.ref ba), .val (.int mc), .val (.int (16 : Int32))]) rfl k) ?_
  show Gl p.tables e below T3 (mkF m 11 #[.val (.ref ba), .val (.int mc), .val (.int (16 : Int32))] []) G
  refine Gl.via (fun _ k => XS.iloadN X3.here hx rfl (hb hby d22_11) rfl k) ?_
  show Gl p.tables e below T3 (mkF m 12 #[.val (.ref ba), .val (.int mc), .val (.int (16 : Int32))] [(.int mc)]) G
  refine Gl.via (fun _ k => XS.iloadN X3.here hx rfl (hb hby d22_12) rfl k) ?_
  show Gl p.tables e below T3 (mkF m 13 #[.val (.ref ba), .val (.int mc), .val (.int (16 : Int32))] [(.int (16 : Int32)), (.int mc)]) G
  refine Gl.via (fun _ k => XS.isub X3.here hx rfl (hb hby d22_13) rfl k) ?_
  show Gl p.tables e below T3 (mkF m 14 #[.val (.ref ba), .val (.int mc), .val (.int (16 : Int32))] [(.int (mc - (16 : Int32)))]) G
  refine Gl.via (fun _ k => XS.ifYes X3.here hx rfl (pc0 := 14) (pc' := 38) rfl (hb hby d22_14) rfl ((if0 _ _).trans (flt hmc).2.2.2) (by decide) (by decide) k) ?_
  show Gl p.tables e below T3 (mkF m 38 #[.val (.ref ba), .val (.int mc), .val (.int (16 : Int32))] []) G
  obtain ⟨fs, hr, hrun, hended, hW, hsame⟩ := X3.leave (v := none) (fun _ => rfl)
  have hq : ∀ L, Fr n0 L → Q_asb_ens Z ba bv bk bcs mc h0 n0 (none) T3.heap L := by
    intro L hN
    rw [e3]
    exact ⟨rfl, hN, rfl⟩
  rw [hG]
  exact Gl.fin (X3.returnOut hx Bd.returns (hb hby d22_38) hr) ⟨_, hrun, hended, _, _, rfl, hq _ N0, ⟨_, rfl⟩, hW, hsame.mono (by decide) (by decide)⟩
theorem d24_0 : decode jdk_68_method_71_code 0 = .ok (.getstatic 18, 3) := by decide +kernel
theorem d24_3 : decode jdk_68_method_71_code 3 = .ok (.ifCond .eq 18, 3) := by decide +kernel
theorem d24_6 : decode jdk_68_method_71_code 6 = .ok (.aload_n 0, 1) := by decide +kernel
theorem d24_7 : decode jdk_68_method_71_code 7 = .ok (.getfield 22, 3) := by decide +kernel
theorem d24_10 : decode jdk_68_method_71_code 10 = .ok (.aload_n 1, 1) := by decide +kernel
theorem d24_11 : decode jdk_68_method_71_code 11 = .ok (.invokevirtual 40, 3) := by decide +kernel
theorem d24_14 : decode jdk_68_method_71_code 14 = .ok (.if_icmp .eq 7, 3) := by decide +kernel
theorem d24_21 : decode jdk_68_method_71_code 21 = .ok (.return_, 1) := by decide +kernel
theorem ef_asb_inf (m : MethodId) (x0 : Addr) (x1 : Addr) : entryFrame m #[(.ref x0), (.ref x1)] 2 = mkF m 0 #[.val (.ref x0), .val (.ref x1)] [] := by first | (simp [entryFrame, mkF, argsToLocals, Value.category]; done) | rfl | (simp [entryFrame, mkF, argsToLocals, own_catI, own_catR, *]; done)
def Q_asb_inf (Z : State) (ba : Addr) (sa : Addr) (cps : Int32) (h0 : Heap) (n0 : Nat) (v : Option Value) (h : Heap) (L : List Loc) : Prop := v = none ∧ Fr n0 L ∧ h = h0
set_option maxRecDepth 65536 in
set_option maxHeartbeats 40000000 in
theorem asb_inf (l : Launch) (Z : State) (a0 : Array Value) (hw : ∀ d ∈ tables_1, d.before a0 Z = true) (ws : List Jvm.Cond) (ba : Addr) (sa : Addr) (cps : Int32) (h0 : Heap) (n0 : Nat) (Z0 : n0 ≤ h0.size) (F0_ba_coder : Fld Z h0 ba "java/lang/AbstractStringBuilder" "coder" "B" (.int (0 : Int32))) (F1_sa : Exa Z h0 sa "java/lang/String") (F2_sa_coder : Fld Z h0 sa "java/lang/String" "coder" "B" (.int (0 : Int32))) (F3_java_lang_String : Sta Z Z.heap "java/lang/String" "COMPACT_STRINGS" "Z" (.int cps)) (F4_ : Old Z n0 h0) (hcps : ¬ (cps = (0 : Int32))) :
    MetFree l (⟨"java/lang/AbstractStringBuilder", "inflateIfNeededFor", "(Ljava/lang/String;)V"⟩ : MethodName) (head1 (Jvm.Cond.code (⟨"java/lang/AbstractStringBuilder", "inflateIfNeededFor", "(Ljava/lang/String;)V"⟩ : MethodName) jdk_68_method_71_code 2 none :: ws) ({ frames := 1, cells := 0, slots := 0, locals := 13 } : Room)) (fun a U => a = #[(.ref ba), (.ref sa)] ∧ Z.Warmed39 U.vm ∧ U.heap = h0) (fun _ _ _ _ _ => True) (fun _ U o U' => ∃ v L, o = .returned v ∧ Q_asb_inf Z ba sa cps h0 n0 v U'.heap L ∧ FrameEnd U o U' L ({ frames := 1, cells := 0, slots := 0, locals := 13 } : Room).cells ({ frames := 1, cells := 0, slots := 0, locals := 13 } : Room).slots) := by
  refine MetFree.of_bodySF (plainFor_of_name pn_3) hisR ?_
  intro p e s m args below meth c s₁ Bd hml0 hP hK
  obtain ⟨rfl, hZ, hh⟩ := hP
  have hx := Bd.exec
  have hby := Bd.bytes
  have hml : c.maxLocals = 2 := hml0
  have hown : s.vm.findClass "java/lang/AbstractStringBuilder" = some m.cls := findClass_of_methodNamed Bd.named
  have hnm := (name_of_methodNamed Bd.named Bd.method).1
  have X0 : Stand p l e ({ frames := 1, cells := 0, slots := 0, locals := 13 } : Room) s m #[(.ref ba), (.ref sa)] below meth c s₁ [] 0 0 := Stand.of_body Bd
  have e0 : s₁.heap = h0 := by rw [← hh, Bd.state]; rfl
  have N0 := Fr.nil n0
  obtain ⟨G, hG⟩ : ∃ G : State → Prop, G = (fun U' => ∃ o, U'.status = .running ∧ Ended U' below o ∧ ∃ v L, o = .returned v ∧ Q_asb_inf Z ba sa cps h0 n0 v U'.heap L ∧ FrameEnd s o U' L ({ frames := 1, cells := 0, slots := 0, locals := 13 } : Room).cells ({ frames := 1, cells := 0, slots := 0, locals := 13 } : Room).slots) := ⟨_, rfl⟩
  suffices key : Gl p.tables e below s₁ (mkF m 0 #[.val (.ref ba), .val (.ref sa)] []) G by
    obtain ⟨s₂, k1, k2⟩ := key
    rw [hG] at k2
    obtain ⟨o, k3, k4, k5⟩ := k2
    exact ⟨s₂, o, castTop (ef_asb_inf m ba sa) k1, k3, k4, k5⟩
  show Gl p.tables e below s₁ (mkF m 0 #[.val (.ref ba), .val (.ref sa)] []) G
  have G1 : Sta Z h0 "java/lang/String" "COMPACT_STRINGS" "Z" (.int cps) := F3_java_lang_String.ext F4_.2
  obtain ⟨T2, X2, e2, st2⟩ := getS2 X0 hx hZ hown (host := "") (Or.inl (hw _ (List.mem_of_getElem? (i := 90) rfl))) Via.refl e0 G1 (g := (mkF m 0 #[.val (.ref ba), .val (.ref sa)] [])) rfl (hb hby d24_0)
  refine Gl.via st2 ?_
  show Gl p.tables e below T2 (mkF m 3 #[.val (.ref ba), .val (.ref sa)] [(.int cps)]) G
  refine Gl.via (fun _ k => XS.ifNo X2.here hx rfl (hb hby d24_3) rfl ((if0 _ _).trans (feq hcps).1) k) ?_
  show Gl p.tables e below T2 (mkF m 6 #[.val (.ref ba), .val (.ref sa)] []) G
  refine Gl.via (fun _ k => XS.aloadN X2.here hx rfl (hb hby d24_6) rfl rfl k) ?_
  show Gl p.tables e below T2 (mkF m 7 #[.val (.ref ba), .val (.ref sa)] [(.ref ba)]) G
  obtain ⟨T3, X3, e3, st3⟩ := getF X2 hx hZ hown (host := "") (Or.inl (hw _ (List.mem_of_getElem? (i := 93) rfl))) Via.refl e2 F0_ba_coder (g := (mkF m 7 #[.val (.ref ba), .val (.ref sa)] [(.ref ba)])) rfl rfl (hb hby d24_7)
  refine Gl.via st3 ?_
  show Gl p.tables e below T3 (mkF m 10 #[.val (.ref ba), .val (.ref sa)] [(.int (0 : Int32))]) G
  refine Gl.via (fun _ k => XS.aloadN X3.here hx rfl (hb hby d24_10) rfl rfl k) ?_
  show Gl p.tables e below T3 (mkF m 11 #[.val (.ref ba), .val (.ref sa)] [(.ref sa), (.int (0 : Int32))]) G
  obtain ⟨cq4, kq4, q4a, q4b, q4c⟩ := isOf hZ e3 F1_sa
  obtain ⟨_, _, ⟨T4, L4, k4, n4⟩, -, X4, ⟨Lc4, hQ4, l4, y4, z4⟩, st4⟩ := X3.virtualBack hx (y := (⟨"java/lang/String", "coder", "()B"⟩ : MethodName)) (z := (⟨"java/lang/String", "coder", "()B"⟩ : MethodName)) hown (mvT hZ (hw _ (List.mem_of_getElem? (i := 132) rfl))) (mvT hZ (hw _ (List.mem_of_getElem? (i := 111) rfl))) (notFace_of_selects (args := #[]) (mvT hZ (hw _ (List.mem_of_getElem? (i := 113) rfl)))) (mvT hZ (hw _ (List.mem_of_getElem? (i := 113) rfl))) (mvT hZ (hw _ (List.mem_of_getElem? (i := 112) rfl))) (by decide) (backOf (W := 1) (st_coder l Z a0 hw [] sa cps h0 n0 Z0 F2_sa_coder F3_java_lang_String F4_ hcps) hZ (hw _ (List.mem_of_getElem? (i := 114) rfl)) (hw _ (List.mem_of_getElem? (i := 6) rfl)) (by decide) (by decide)) q4a q4c (g := (mkF m 11 #[.val (.ref ba), .val (.ref sa)] [(.ref sa), (.int (0 : Int32))])) rfl (by rw [hml]; rfl) (Steps.refl _) (argsL := []) (rest := [(.int (0 : Int32))]) (lenOf pd_0 rfl) rfl (by show 2 * 0 + _ ≤ _; exact Nat.le_of_eq rfl) (hb hby d24_11) (fun _ _ => ⟨rfl, e3, (by decide : 0 + 0 ≤ _), (by decide : 0 + 0 ≤ _)⟩)
  dsimp only [Pt.U, Pt.locs, Pt.cells, Pt.slots] at X4 l4 y4 z4 st4 hQ4
  subst l4 y4 z4
  obtain ⟨rfl, N4q, eh4⟩ := hQ4
  have N4_ := Fr.app N0 N4q
  refine Gl.via (fun _ k => st4.trans k) ?_
  show Gl p.tables e below T4 (mkF m 14 #[.val (.ref ba), .val (.ref sa)] [(.int (0 : Int32)), (.int (0 : Int32))]) G
  refine Gl.via (fun _ k => XS.icmpYes X4.here hx rfl (pc0 := 14) (pc' := 21) rfl (hb hby d24_14) rfl (teq (by decide)).1 (by decide) (by decide) k) ?_
  show Gl p.tables e below T4 (mkF m 21 #[.val (.ref ba), .val (.ref sa)] []) G
  obtain ⟨fs, hr, hrun, hended, hW, hsame⟩ := X4.leave (v := none) (fun _ => rfl)
  have hq : ∀ L, Fr n0 L → Q_asb_inf Z ba sa cps h0 n0 (none) T4.heap L := by
    intro L hN
    rw [eh4]
    exact ⟨rfl, hN, rfl⟩
  rw [hG]
  exact Gl.fin (X4.returnOut hx Bd.returns (hb hby d24_21) hr) ⟨_, hrun, hended, _, _, rfl, hq _ N4_, ⟨_, rfl⟩, hW, hsame.mono (by decide) (by decide)⟩
theorem d25_0 : decode jdk_42_method_147_code 0 = .ok (.aload_n 0, 1) := by decide +kernel
theorem d25_1 : decode jdk_42_method_147_code 1 = .ok (.invokevirtual 335, 3) := by decide +kernel
theorem d25_4 : decode jdk_42_method_147_code 4 = .ok (.iload_n 3, 1) := by decide +kernel
theorem d25_5 : decode jdk_42_method_147_code 5 = .ok (.if_icmp .ne 23, 3) := by decide +kernel
theorem d25_8 : decode jdk_42_method_147_code 8 = .ok (.aload_n 0, 1) := by decide +kernel
theorem d25_9 : decode jdk_42_method_147_code 9 = .ok (.getfield 9, 3) := by decide +kernel
theorem d25_12 : decode jdk_42_method_147_code 12 = .ok (.iconst 0, 1) := by decide +kernel
theorem d25_13 : decode jdk_42_method_147_code 13 = .ok (.aload_n 1, 1) := by decide +kernel
theorem d25_14 : decode jdk_42_method_147_code 14 = .ok (.iload_n 2, 1) := by decide +kernel
theorem d25_15 : decode jdk_42_method_147_code 15 = .ok (.iload_n 3, 1) := by decide +kernel
theorem d25_16 : decode jdk_42_method_147_code 16 = .ok (.ishl, 1) := by decide +kernel
theorem d25_17 : decode jdk_42_method_147_code 17 = .ok (.aload_n 0, 1) := by decide +kernel
theorem d25_18 : decode jdk_42_method_147_code 18 = .ok (.getfield 9, 3) := by decide +kernel
theorem d25_21 : decode jdk_42_method_147_code 21 = .ok (.arraylength, 1) := by decide +kernel
theorem d25_22 : decode jdk_42_method_147_code 22 = .ok (.invokestatic 212, 3) := by decide +kernel
theorem d25_25 : decode jdk_42_method_147_code 25 = .ok (.goto 18, 3) := by decide +kernel
theorem d25_43 : decode jdk_42_method_147_code 43 = .ok (.return_, 1) := by decide +kernel
theorem ef_st_gb (m : MethodId) (x0 : Addr) (x1 : Addr) (x2 : Int32) (x3 : Int32) : entryFrame m #[(.ref x0), (.ref x1), (.int x2), (.int x3)] 4 = mkF m 0 #[.val (.ref x0), .val (.ref x1), .val (.int x2), .val (.int x3)] [] := by first | (simp [entryFrame, mkF, argsToLocals, Value.category]; done) | rfl | (simp [entryFrame, mkF, argsToLocals, own_catI, own_catR, *]; done)
def Q_st_gb (Z : State) (sa : Addr) (sb : Addr) (sk : ClassId) (scs : List Int32) (bv : Addr) (bk : ClassId) (bcs : List Int32) (cps : Int32) (h0 : Heap) (n0 : Nat) (v : Option Value) (h : Heap) (L : List Loc) : Prop := v = none ∧ Fr n0 L ∧ Keep h0 h [bv] ∧ Arv Z h bv bk .byte (16 : Int32) ((bcs ++ scs).map Value.int) (.int (0 : Int32))
set_option maxRecDepth 65536 in
set_option maxHeartbeats 40000000 in
theorem st_gb (l : Launch) (Z : State) (a0 : Array Value) (hw : ∀ d ∈ tables_1, d.before a0 Z = true) (ws : List Jvm.Cond) (sa : Addr) (sb : Addr) (sk : ClassId) (scs : List Int32) (bv : Addr) (bk : ClassId) (bcs : List Int32) (cps : Int32) (h0 : Heap) (n0 : Nat) (Z0 : n0 ≤ h0.size) (F0_sa : Exa Z h0 sa "java/lang/String") (F1_sa_coder : Fld Z h0 sa "java/lang/String" "coder" "B" (.int (0 : Int32))) (F2_sa_value : Fld Z h0 sa "java/lang/String" "value" "[B" (.ref sb)) (F3_sb : Arv Z h0 sb sk .byte (own_ln scs) (scs.map Value.int) (.int (0 : Int32))) (F4_bv : Arv Z h0 bv bk .byte (16 : Int32) (bcs.map Value.int) (.int (0 : Int32))) (F5_java_lang_String : Sta Z Z.heap "java/lang/String" "COMPACT_STRINGS" "Z" (.int cps)) (F6_ : Old Z n0 h0) (hcps : ¬ (cps = (0 : Int32))) (hln : bcs.length + scs.length ≤ 16) (hsv : sb ≠ bv) (hp3 : n0 ≤ bv) :
    MetFree l (⟨"java/lang/String", "getBytes", "([BIB)V"⟩ : MethodName) (head1 (Jvm.Cond.code (⟨"java/lang/String", "getBytes", "([BIB)V"⟩ : MethodName) jdk_42_method_147_code 4 none :: ws) ({ frames := 1, cells := 0, slots := 0, locals := 40 } : Room)) (fun a U => a = #[(.ref sa), (.ref bv), (.int (own_ln bcs)), (.int (0 : Int32))] ∧ Z.Warmed39 U.vm ∧ U.heap = h0) (fun _ _ _ _ _ => True) (fun _ U o U' => ∃ v L, o = .returned v ∧ Q_st_gb Z sa sb sk scs bv bk bcs cps h0 n0 v U'.heap L ∧ FrameEnd U o U' L ({ frames := 1, cells := 0, slots := 0, locals := 40 } : Room).cells ({ frames := 1, cells := 0, slots := 0, locals := 40 } : Room).slots) := by
  refine MetFree.of_bodySF (plainFor_of_name pn_0) hisR ?_
  intro p e s m args below meth c s₁ Bd hml0 hP hK
  obtain ⟨rfl, hZ, hh⟩ := hP
  have hx := Bd.exec
  have hby := Bd.bytes
  have hml : c.maxLocals = 4 := hml0
  have hown : s.vm.findClass "java/lang/String" = some m.cls := findClass_of_methodNamed Bd.named
  have hnm := (name_of_methodNamed Bd.named Bd.method).1
  have X0 : Stand p l e ({ frames := 1, cells := 0, slots := 0, locals := 40 } : Room) s m #[(.ref sa), (.ref bv), (.int (own_ln bcs)), (.int (0 : Int32))] below meth c s₁ [] 0 0 := Stand.of_body Bd
  have e0 : s₁.heap = h0 := by rw [← hh, Bd.state]; rfl
  have N0 := Fr.nil n0
  obtain ⟨G, hG⟩ : ∃ G : State → Prop, G = (fun U' => ∃ o, U'.status = .running ∧ Ended U' below o ∧ ∃ v L, o = .returned v ∧ Q_st_gb Z sa sb sk scs bv bk bcs cps h0 n0 v U'.heap L ∧ FrameEnd s o U' L ({ frames := 1, cells := 0, slots := 0, locals := 40 } : Room).cells ({ frames := 1, cells := 0, slots := 0, locals := 40 } : Room).slots) := ⟨_, rfl⟩
  suffices key : Gl p.tables e below s₁ (mkF m 0 #[.val (.ref sa), .val (.ref bv), .val (.int (own_ln bcs)), .val (.int (0 : Int32))] []) G by
    obtain ⟨s₂, k1, k2⟩ := key
    rw [hG] at k2
    obtain ⟨o, k3, k4, k5⟩ := k2
    exact ⟨s₂, o, castTop (ef_st_gb m sa bv (own_ln bcs) (0 : Int32)) k1, k3, k4, k5⟩
  show Gl p.tables e below s₁ (mkF m 0 #[.val (.ref sa), .val (.ref bv), .val (.int (own_ln bcs)), .val (.int (0 : Int32))] []) G
  refine Gl.via (fun _ k => XS.aloadN X0.here hx rfl (hb hby d25_0) rfl rfl k) ?_
  show Gl p.tables e below s₁ (mkF m 1 #[.val (.ref sa), .val (.ref bv), .val (.int (own_ln bcs)), .val (.int (0 : Int32))] [(.ref sa)]) G
  obtain ⟨cq1, kq1, q1a, q1b, q1c⟩ := isOf hZ e0 F0_sa
  obtain ⟨_, _, ⟨T1, L1, k1, n1⟩, -, X1, ⟨Lc1, hQ1, l1, y1, z1⟩, st1⟩ := X0.virtualBack hx (y := (⟨"java/lang/String", "coder", "()B"⟩ : MethodName)) (z := (⟨"java/lang/String", "coder", "()B"⟩ : MethodName)) hown (mvT hZ (hw _ (List.mem_of_getElem? (i := 110) rfl))) (mvT hZ (hw _ (List.mem_of_getElem? (i := 111) rfl))) (notFace_of_selects (args := #[]) (mvT hZ (hw _ (List.mem_of_getElem? (i := 113) rfl)))) (mvT hZ (hw _ (List.mem_of_getElem? (i := 113) rfl))) (mvT hZ (hw _ (List.mem_of_getElem? (i := 112) rfl))) (by decide) (backOf (W := 0) (st_coder l Z a0 hw [] sa cps h0 n0 Z0 F1_sa_coder F5_java_lang_String F6_ hcps) hZ (hw _ (List.mem_of_getElem? (i := 114) rfl)) (hw _ (List.mem_of_getElem? (i := 6) rfl)) (by decide) (by decide)) q1a q1c (g := (mkF m 1 #[.val (.ref sa), .val (.ref bv), .val (.int (own_ln bcs)), .val (.int (0 : Int32))] [(.ref sa)])) rfl (by rw [hml]; rfl) (Steps.refl _) (argsL := []) (rest := []) (lenOf pd_0 rfl) rfl (by show 2 * 0 + _ ≤ _; exact Nat.le_of_eq rfl) (hb hby d25_1) (fun _ _ => ⟨rfl, e0, (by decide : 0 + 0 ≤ _), (by decide : 0 + 0 ≤ _)⟩)
  dsimp only [Pt.U, Pt.locs, Pt.cells, Pt.slots] at X1 l1 y1 z1 st1 hQ1
  subst l1 y1 z1
  obtain ⟨rfl, N1q, eh1⟩ := hQ1
  have N1_ := Fr.app N0 N1q
  refine Gl.via (fun _ k => st1.trans k) ?_
  show Gl p.tables e below T1 (mkF m 4 #[.val (.ref sa), .val (.ref bv), .val (.int (own_ln bcs)), .val (.int (0 : Int32))] [(.int (0 : Int32))]) G
  refine Gl.via (fun _ k => XS.iloadN X1.here hx rfl (hb hby d25_4) rfl k) ?_
  show Gl p.tables e below T1 (mkF m 5 #[.val (.ref sa), .val (.ref bv), .val (.int (own_ln bcs)), .val (.int (0 : Int32))] [(.int (0 : Int32)), (.int (0 : Int32))]) G
  refine Gl.via (fun _ k => XS.icmpNo X1.here hx rfl (hb hby d25_5) rfl (teq (by decide)).2 k) ?_
  show Gl p.tables e below T1 (mkF m 8 #[.val (.ref sa), .val (.ref bv), .val (.int (own_ln bcs)), .val (.int (0 : Int32))] []) G
  refine Gl.via (fun _ k => XS.aloadN X1.here hx rfl (hb hby d25_8) rfl rfl k) ?_
  show Gl p.tables e below T1 (mkF m 9 #[.val (.ref sa), .val (.ref bv), .val (.int (own_ln bcs)), .val (.int (0 : Int32))] [(.ref sa)]) G
  obtain ⟨T2, X2, e2, st2⟩ := getF X1 hx hZ hown (host := "") (Or.inl (hw _ (List.mem_of_getElem? (i := 32) rfl))) Via.refl eh1 F2_sa_value (g := (mkF m 9 #[.val (.ref sa), .val (.ref bv), .val (.int (own_ln bcs)), .val (.int (0 : Int32))] [(.ref sa)])) rfl rfl (hb hby d25_9)
  refine Gl.via st2 ?_
  show Gl p.tables e below T2 (mkF m 12 #[.val (.ref sa), .val (.ref bv), .val (.int (own_ln bcs)), .val (.int (0 : Int32))] [(.ref sb)]) G
  refine Gl.via (fun _ k => XS.iconst X2.here hx rfl (hb hby d25_12) k) ?_
  show Gl p.tables e below T2 (mkF m 13 #[.val (.ref sa), .val (.ref bv), .val (.int (own_ln bcs)), .val (.int (0 : Int32))] [(.int (0 : Int32)), (.ref sb)]) G
  refine Gl.via (fun _ k => XS.aloadN X2.here hx rfl (hb hby d25_13) rfl rfl k) ?_
  show Gl p.tables e below T2 (mkF m 14 #[.val (.ref sa), .val (.ref bv), .val (.int (own_ln bcs)), .val (.int (0 : Int32))] [(.ref bv), (.int (0 : Int32)), (.ref sb)]) G
  refine Gl.via (fun _ k => XS.iloadN X2.here hx rfl (hb hby d25_14) rfl k) ?_
  show Gl p.tables e below T2 (mkF m 15 #[.val (.ref sa), .val (.ref bv), .val (.int (own_ln bcs)), .val (.int (0 : Int32))] [(.int (own_ln bcs)), (.ref bv), (.int (0 : Int32)), (.ref sb)]) G
  refine Gl.via (fun _ k => XS.iloadN X2.here hx rfl (hb hby d25_15) rfl k) ?_
  show Gl p.tables e below T2 (mkF m 16 #[.val (.ref sa), .val (.ref bv), .val (.int (own_ln bcs)), .val (.int (0 : Int32))] [(.int (0 : Int32)), (.int (own_ln bcs)), (.ref bv), (.int (0 : Int32)), (.ref sb)]) G
  refine Gl.via (fun _ k => XS.ishl X2.here hx rfl (hb hby d25_16) rfl k) ?_
  show Gl p.tables e below T2 (mkF m 17 #[.val (.ref sa), .val (.ref bv), .val (.int (own_ln bcs)), .val (.int (0 : Int32))] [(.int ((own_ln bcs) <<< ((0 : Int32) &&& 31))), (.ref bv), (.int (0 : Int32)), (.ref sb)]) G
  rw [show ((own_ln bcs) <<< ((0 : Int32) &&& 31)) = (own_ln bcs) from (own_shl0 _)]
  show Gl p.tables e below T2 (mkF m 17 #[.val (.ref sa), .val (.ref bv), .val (.int (own_ln bcs)), .val (.int (0 : Int32))] [(.int (own_ln bcs)), (.ref bv), (.int (0 : Int32)), (.ref sb)]) G
  refine Gl.via (fun _ k => XS.aloadN X2.here hx rfl (hb hby d25_17) rfl rfl k) ?_
  show Gl p.tables e below T2 (mkF m 18 #[.val (.ref sa), .val (.ref bv), .val (.int (own_ln bcs)), .val (.int (0 : Int32))] [(.ref sa), (.int (own_ln bcs)), (.ref bv), (.int (0 : Int32)), (.ref sb)]) G
  obtain ⟨T3, X3, e3, st3⟩ := getF X2 hx hZ hown (host := "") (Or.inl (hw _ (List.mem_of_getElem? (i := 32) rfl))) Via.refl e2 F2_sa_value (g := (mkF m 18 #[.val (.ref sa), .val (.ref bv), .val (.int (own_ln bcs)), .val (.int (0 : Int32))] [(.ref sa), (.int (own_ln bcs)), (.ref bv), (.int (0 : Int32)), (.ref sb)])) rfl rfl (hb hby d25_18)
  refine Gl.via st3 ?_
  show Gl p.tables e below T3 (mkF m 21 #[.val (.ref sa), .val (.ref bv), .val (.int (own_ln bcs)), .val (.int (0 : Int32))] [(.ref sb), (.int (own_ln bcs)), (.ref bv), (.int (0 : Int32)), (.ref sb)]) G
  obtain ⟨cl4, Ar4, -, S4, N4, -, -⟩ := id F3_sb
  refine Gl.via (fun _ k => X3.arraylength hx (by rw [e3]; exact Ar4.1) (State.isArrayOf_alike hZ.alike Ar4.2.1) (g := (mkF m 21 #[.val (.ref sa), .val (.ref bv), .val (.int (own_ln bcs)), .val (.int (0 : Int32))] [(.ref sb), (.int (own_ln bcs)), (.ref bv), (.int (0 : Int32)), (.ref sb)])) rfl rfl (hb hby d25_21) _ k) ?_
  rw [len_of S4 N4]
  show Gl p.tables e below T3 (mkF m 22 #[.val (.ref sa), .val (.ref bv), .val (.int (own_ln bcs)), .val (.int (0 : Int32))] [(.int (own_ln scs)), (.int (own_ln bcs)), (.ref bv), (.int (0 : Int32)), (.ref sb)]) G
  have V5 : Arv Z h0 bv bk .byte (16 : Int32) (bcs.map Value.int ++ List.replicate 16 (Value.int (0 : Int32))) (.int (0 : Int32)) := F4_bv.pad (pad_rep _ _ 16)
  obtain ⟨T6, h6, L6, X6, e6, N6_, K6, V6, st6⟩ := cpA X3 hx hZ hown (hw _ (List.mem_of_getElem? (i := 138) rfl)) (hw _ (List.mem_of_getElem? (i := 141) rfl)) (hw _ (List.mem_of_getElem? (i := 139) rfl)) (hw _ (List.mem_of_getElem? (i := 140) rfl)) e3 (us := (scs.map Value.int)) F3_sb V5 (Or.inl ⟨rfl, rfl⟩) (by decide) (own_ln0 (by omega)) (own_ln0 (by omega)) (by rw [own_lnN (cs := scs) (by omega)]; show 0 + _ ≤ _; omega) (by rw [own_lnN (cs := bcs) (by omega), own_lnN (cs := scs) (by omega)]; show _ ≤ 16; omega) (own_us (by omega)) (by rw [own_lnN (cs := bcs) (by omega), own_lnN (cs := scs) (by omega)]; simp; omega) N1_ hp3 (g := (mkF m 22 #[.val (.ref sa), .val (.ref bv), .val (.int (own_ln bcs)), .val (.int (0 : Int32))] [(.int (own_ln scs)), (.int (own_ln bcs)), (.ref bv), (.int (0 : Int32)), (.ref sb)])) rfl (by rw [hml]; rfl) rfl (hb hby d25_22) (by decide) (W := 0) (by show 2 * 0 + _ ≤ _; exact Nat.le_of_eq rfl) (by decide)
  have V7 : Arv Z h6 bv bk .byte (16 : Int32) ((bcs ++ scs).map Value.int) (.int (0 : Int32)) := own_cpy (by omega) (by omega) V6
  refine Gl.via st6 ?_
  have Z8 : n0 ≤ h6.size := Nat.le_trans Z0 K6.1
  have Y9 : h0.size ≤ h6.size := Nat.le_trans (Nat.le_refl h0.size) K6.1
  show Gl p.tables e below T6 (mkF m 25 #[.val (.ref sa), .val (.ref bv), .val (.int (own_ln bcs)), .val (.int (0 : Int32))] []) G
  refine Gl.via (fun _ k => XS.goto X6.here hx rfl (pc0 := 25) (pc' := 43) rfl (hb hby d25_25) (by decide) (by decide) k) ?_
  show Gl p.tables e below T6 (mkF m 43 #[.val (.ref sa), .val (.ref bv), .val (.int (own_ln bcs)), .val (.int (0 : Int32))] []) G
  obtain ⟨fs, hr, hrun, hended, hW, hsame⟩ := X6.leave (v := none) (fun _ => rfl)
  have hq : ∀ L, Fr n0 L → Q_st_gb Z sa sb sk scs bv bk bcs cps h0 n0 (none) T6.heap L := by
    intro L hN
    rw [e6]
    exact ⟨rfl, hN, ((Keep.refl h0 [bv]).trans K6 (allS (Or.inl (List.mem_of_getElem? (i := 0) rfl)) all0)), V7⟩
  rw [hG]
  exact Gl.fin (X6.returnOut hx Bd.returns (hb hby d25_43) hr) ⟨_, hrun, hended, _, _, rfl, hq _ N6_, ⟨_, rfl⟩, hW, hsame.mono (by decide) (by decide)⟩
theorem d23_0 : decode jdk_68_method_73_code 0 = .ok (.aload_n 0, 1) := by decide +kernel
theorem d23_1 : decode jdk_68_method_73_code 1 = .ok (.aload_n 2, 1) := by decide +kernel
theorem d23_2 : decode jdk_68_method_73_code 2 = .ok (.invokevirtual 397, 3) := by decide +kernel
theorem pd_6 : parseMethodDescriptor "(Ljava/lang/String;)V" = some ⟨[(.object "java/lang/String")], none⟩ := by decide +kernel
theorem d23_5 : decode jdk_68_method_73_code 5 = .ok (.aload_n 2, 1) := by decide +kernel
theorem d23_6 : decode jdk_68_method_73_code 6 = .ok (.aload_n 0, 1) := by decide +kernel
theorem d23_7 : decode jdk_68_method_73_code 7 = .ok (.getfield 15, 3) := by decide +kernel
theorem d23_10 : decode jdk_68_method_73_code 10 = .ok (.iload_n 1, 1) := by decide +kernel
theorem d23_11 : decode jdk_68_method_73_code 11 = .ok (.aload_n 0, 1) := by decide +kernel
theorem d23_12 : decode jdk_68_method_73_code 12 = .ok (.getfield 22, 3) := by decide +kernel
theorem d23_15 : decode jdk_68_method_73_code 15 = .ok (.invokevirtual 399, 3) := by decide +kernel
theorem pd_7 : parseMethodDescriptor "([BIB)V" = some ⟨[(.array .byte), .int, .byte], none⟩ := by decide +kernel
theorem d23_18 : decode jdk_68_method_73_code 18 = .ok (.return_, 1) := by decide +kernel
theorem ef_asb_put (m : MethodId) (x0 : Addr) (x1 : Int32) (x2 : Addr) : entryFrame m #[(.ref x0), (.int x1), (.ref x2)] 3 = mkF m 0 #[.val (.ref x0), .val (.int x1), .val (.ref x2)] [] := by first | (simp [entryFrame, mkF, argsToLocals, Value.category]; done) | rfl | (simp [entryFrame, mkF, argsToLocals, own_catI, own_catR, *]; done)
def Q_asb_put (Z : State) (ba : Addr) (bv : Addr) (bk : ClassId) (bcs : List Int32) (sa : Addr) (sb : Addr) (sk : ClassId) (scs : List Int32) (cps : Int32) (h0 : Heap) (n0 : Nat) (v : Option Value) (h : Heap) (L : List Loc) : Prop := v = none ∧ Fr n0 L ∧ Keep h0 h [bv] ∧ Arv Z h bv bk .byte (16 : Int32) ((bcs ++ scs).map Value.int) (.int (0 : Int32))
set_option maxRecDepth 65536 in
set_option maxHeartbeats 40000000 in
theorem asb_put (l : Launch) (Z : State) (a0 : Array Value) (hw : ∀ d ∈ tables_1, d.before a0 Z = true) (ws : List Jvm.Cond) (ba : Addr) (bv : Addr) (bk : ClassId) (bcs : List Int32) (sa : Addr) (sb : Addr) (sk : ClassId) (scs : List Int32) (cps : Int32) (h0 : Heap) (n0 : Nat) (Z0 : n0 ≤ h0.size) (F0_ba : Exa Z h0 ba "java/lang/StringBuilder") (F1_ba_value : Fld Z h0 ba "java/lang/AbstractStringBuilder" "value" "[B" (.ref bv)) (F2_ba_coder : Fld Z h0 ba "java/lang/AbstractStringBuilder" "coder" "B" (.int (0 : Int32))) (F3_ba_count : Fld Z h0 ba "java/lang/AbstractStringBuilder" "count" "I" (.int (own_ln bcs))) (F4_bv : Arv Z h0 bv bk .byte (16 : Int32) (bcs.map Value.int) (.int (0 : Int32))) (F5_sa : Exa Z h0 sa "java/lang/String") (F6_sa_coder : Fld Z h0 sa "java/lang/String" "coder" "B" (.int (0 : Int32))) (F7_sa_value : Fld Z h0 sa "java/lang/String" "value" "[B" (.ref sb)) (F8_sb : Arv Z h0 sb sk .byte (own_ln scs) (scs.map Value.int) (.int (0 : Int32))) (F9_java_lang_String : Sta Z Z.heap "java/lang/String" "COMPACT_STRINGS" "Z" (.int cps)) (F10_ : Old Z n0 h0) (hcps : ¬ (cps = (0 : Int32))) (hln : bcs.length + scs.length ≤ 16) (hsv : sb ≠ bv) (hp3 : n0 ≤ bv) (hp4 : ba ≠ bv) :
    MetFree l (⟨"java/lang/AbstractStringBuilder", "putStringAt", "(ILjava/lang/String;)V"⟩ : MethodName) (head1 (Jvm.Cond.code (⟨"java/lang/AbstractStringBuilder", "putStringAt", "(ILjava/lang/String;)V"⟩ : MethodName) jdk_68_method_73_code 3 none :: ws) ({ frames := 2, cells := 0, slots := 0, locals := 55 } : Room)) (fun a U => a = #[(.ref ba), (.int (own_ln bcs)), (.ref sa)] ∧ Z.Warmed39 U.vm ∧ U.heap = h0) (fun _ _ _ _ _ => True) (fun _ U o U' => ∃ v L, o = .returned v ∧ Q_asb_put Z ba bv bk bcs sa sb sk scs cps h0 n0 v U'.heap L ∧ FrameEnd U o U' L ({ frames := 2, cells := 0, slots := 0, locals := 55 } : Room).cells ({ frames := 2, cells := 0, slots := 0, locals := 55 } : Room).slots) := by
  refine MetFree.of_bodySF (plainFor_of_name pn_3) hisR ?_
  intro p e s m args below meth c s₁ Bd hml0 hP hK
  obtain ⟨rfl, hZ, hh⟩ := hP
  have hx := Bd.exec
  have hby := Bd.bytes
  have hml : c.maxLocals = 3 := hml0
  have hown : s.vm.findClass "java/lang/AbstractStringBuilder" = some m.cls := findClass_of_methodNamed Bd.named
  have hnm := (name_of_methodNamed Bd.named Bd.method).1
  have X0 : Stand p l e ({ frames := 2, cells := 0, slots := 0, locals := 55 } : Room) s m #[(.ref ba), (.int (own_ln bcs)), (.ref sa)] below meth c s₁ [] 0 0 := Stand.of_body Bd
  have e0 : s₁.heap = h0 := by rw [← hh, Bd.state]; rfl
  have N0 := Fr.nil n0
  obtain ⟨G, hG⟩ : ∃ G : State → Prop, G = (fun U' => ∃ o, U'.status = .running ∧ Ended U' below o ∧ ∃ v L, o = .returned v ∧ Q_asb_put Z ba bv bk bcs sa sb sk scs cps h0 n0 v U'.heap L ∧ FrameEnd s o U' L ({ frames := 2, cells := 0, slots := 0, locals := 55 } : Room).cells ({ frames := 2, cells := 0, slots := 0, locals := 55 } : Room).slots) := ⟨_, rfl⟩
  suffices key : Gl p.tables e below s₁ (mkF m 0 #[.val (.ref ba), .val (.int (own_ln bcs)), .val (.ref sa)] []) G by
    obtain ⟨s₂, k1, k2⟩ := key
    rw [hG] at k2
    obtain ⟨o, k3, k4, k5⟩ := k2
    exact ⟨s₂, o, castTop (ef_asb_put m ba (own_ln bcs) sa) k1, k3, k4, k5⟩
  show Gl p.tables e below s₁ (mkF m 0 #[.val (.ref ba), .val (.int (own_ln bcs)), .val (.ref sa)] []) G
  refine Gl.via (fun _ k => XS.aloadN X0.here hx rfl (hb hby d23_0) rfl rfl k) ?_
  show Gl p.tables e below s₁ (mkF m 1 #[.val (.ref ba), .val (.int (own_ln bcs)), .val (.ref sa)] [(.ref ba)]) G
  refine Gl.via (fun _ k => XS.aloadN X0.here hx rfl (hb hby d23_1) rfl rfl k) ?_
  show Gl p.tables e below s₁ (mkF m 2 #[.val (.ref ba), .val (.int (own_ln bcs)), .val (.ref sa)] [(.ref sa), (.ref ba)]) G
  obtain ⟨cq1, q1, q1'⟩ := F0_ba.cell
  obtain ⟨_, _, ⟨T1, L1, k1, n1⟩, -, X1, ⟨Lc1, hQ1, l1, y1, z1⟩, st1⟩ := X0.privateBack hx (y := (⟨"java/lang/AbstractStringBuilder", "inflateIfNeededFor", "(Ljava/lang/String;)V"⟩ : MethodName)) hown (mvT hZ (hw _ (List.mem_of_getElem? (i := 127) rfl))) (mvT hZ (hw _ (List.mem_of_getElem? (i := 128) rfl))) (mvT hZ (own_selP (y := (⟨"java/lang/AbstractStringBuilder", "inflateIfNeededFor", "(Ljava/lang/String;)V"⟩ : MethodName)) (own_nonface (y := (⟨"java/lang/AbstractStringBuilder", "isLatin1", "()Z"⟩ : MethodName)) (hw _ (List.mem_of_getElem? (i := 171) rfl)) (hw _ (List.mem_of_getElem? (i := 169) rfl))) (hw _ (List.mem_of_getElem? (i := 129) rfl)) (hw _ (List.mem_of_getElem? (i := 128) rfl)) (by decide))) (Cond.privateMethod_at (mvP hZ (hw _ (List.mem_of_getElem? (i := 129) rfl)) (args := #[]))) (mvT hZ (hw _ (List.mem_of_getElem? (i := 131) rfl))) (by decide) (backOf (W := 0) (asb_inf l Z a0 hw [] ba sa cps h0 n0 Z0 F2_ba_coder F5_sa F6_sa_coder F9_java_lang_String F10_ hcps) hZ (hw _ (List.mem_of_getElem? (i := 131) rfl)) (hw _ (List.mem_of_getElem? (i := 87) rfl)) (by decide) (by decide)) (g := (mkF m 2 #[.val (.ref ba), .val (.int (own_ln bcs)), .val (.ref sa)] [(.ref sa), (.ref ba)])) rfl (by rw [hml]; rfl) (Steps.refl _) (a := ba) (by rw [e0]; exact q1) q1' (argsL := [(.ref sa)]) (rest := []) (lenOf pd_6 rfl) rfl (by show 2 * 0 + _ ≤ _; exact Nat.le_of_eq rfl) (hb hby d23_2) (fun _ _ => ⟨rfl, e0, (by decide : 0 + 0 ≤ _), (by decide : 0 + 0 ≤ _)⟩)
  dsimp only [Pt.U, Pt.locs, Pt.cells, Pt.slots] at X1 l1 y1 z1 st1 hQ1
  subst l1 y1 z1
  obtain ⟨rfl, N1q, eh1⟩ := hQ1
  have N1_ := Fr.app N0 N1q
  refine Gl.via (fun _ k => st1.trans k) ?_
  show Gl p.tables e below T1 (mkF m 5 #[.val (.ref ba), .val (.int (own_ln bcs)), .val (.ref sa)] []) G
  refine Gl.via (fun _ k => XS.aloadN X1.here hx rfl (hb hby d23_5) rfl rfl k) ?_
  show Gl p.tables e below T1 (mkF m 6 #[.val (.ref ba), .val (.int (own_ln bcs)), .val (.ref sa)] [(.ref sa)]) G
  refine Gl.via (fun _ k => XS.aloadN X1.here hx rfl (hb hby d23_6) rfl rfl k) ?_
  show Gl p.tables e below T1 (mkF m 7 #[.val (.ref ba), .val (.int (own_ln bcs)), .val (.ref sa)] [(.ref ba), (.ref sa)]) G
  obtain ⟨T2, X2, e2, st2⟩ := getF X1 hx hZ hown (host := "") (Or.inl (hw _ (List.mem_of_getElem? (i := 91) rfl))) Via.refl eh1 F1_ba_value (g := (mkF m 7 #[.val (.ref ba), .val (.int (own_ln bcs)), .val (.ref sa)] [(.ref ba), (.ref sa)])) rfl rfl (hb hby d23_7)
  refine Gl.via st2 ?_
  show Gl p.tables e below T2 (mkF m 10 #[.val (.ref ba), .val (.int (own_ln bcs)), .val (.ref sa)] [(.ref bv), (.ref sa)]) G
  refine Gl.via (fun _ k => XS.iloadN X2.here hx rfl (hb hby d23_10) rfl k) ?_
  show Gl p.tables e below T2 (mkF m 11 #[.val (.ref ba), .val (.int (own_ln bcs)), .val (.ref sa)] [(.int (own_ln bcs)), (.ref bv), (.ref sa)]) G
  refine Gl.via (fun _ k => XS.aloadN X2.here hx rfl (hb hby d23_11) rfl rfl k) ?_
  show Gl p.tables e below T2 (mkF m 12 #[.val (.ref ba), .val (.int (own_ln bcs)), .val (.ref sa)] [(.ref ba), (.int (own_ln bcs)), (.ref bv), (.ref sa)]) G
  obtain ⟨T3, X3, e3, st3⟩ := getF X2 hx hZ hown (host := "") (Or.inl (hw _ (List.mem_of_getElem? (i := 93) rfl))) Via.refl e2 F2_ba_coder (g := (mkF m 12 #[.val (.ref ba), .val (.int (own_ln bcs)), .val (.ref sa)] [(.ref ba), (.int (own_ln bcs)), (.ref bv), (.ref sa)])) rfl rfl (hb hby d23_12)
  refine Gl.via st3 ?_
  show Gl p.tables e below T3 (mkF m 15 #[.val (.ref ba), .val (.int (own_ln bcs)), .val (.ref sa)] [(.int (0 : Int32)), (.int (own_ln bcs)), (.ref bv), (.ref sa)]) G
  obtain ⟨cq4, kq4, q4a, q4b, q4c⟩ := isOf hZ e3 F5_sa
  obtain ⟨_, _, ⟨T4, L4, k4, n4⟩, -, X4, ⟨Lc4, hQ4, l4, y4, z4⟩, st4⟩ := X3.virtualBack hx (y := (⟨"java/lang/String", "getBytes", "([BIB)V"⟩ : MethodName)) (z := (⟨"java/lang/String", "getBytes", "([BIB)V"⟩ : MethodName)) hown (mvT hZ (hw _ (List.mem_of_getElem? (i := 133) rfl))) (mvT hZ (hw _ (List.mem_of_getElem? (i := 134) rfl))) (notFace_of_selects (args := #[]) (mvT hZ (hw _ (List.mem_of_getElem? (i := 136) rfl)))) (mvT hZ (hw _ (List.mem_of_getElem? (i := 136) rfl))) (mvT hZ (hw _ (List.mem_of_getElem? (i := 135) rfl))) (by decide) (backOf (W := 0) (st_gb l Z a0 hw [] sa sb sk scs bv bk bcs cps h0 n0 Z0 F5_sa F6_sa_coder F7_sa_value F8_sb F4_bv F9_java_lang_String F10_ hcps hln hsv hp3) hZ (hw _ (List.mem_of_getElem? (i := 137) rfl)) (hw _ (List.mem_of_getElem? (i := 6) rfl)) (by decide) (by decide)) q4a q4c (g := (mkF m 15 #[.val (.ref ba), .val (.int (own_ln bcs)), .val (.ref sa)] [(.int (0 : Int32)), (.int (own_ln bcs)), (.ref bv), (.ref sa)])) rfl (by rw [hml]; rfl) (Steps.refl _) (argsL := [(.ref bv), (.int (own_ln bcs)), (.int (0 : Int32))]) (rest := []) (lenOf pd_7 rfl) rfl (by show 2 * 0 + _ ≤ _; exact Nat.le_of_eq rfl) (hb hby d23_15) (fun _ _ => ⟨rfl, e3, (by decide : 0 + 0 ≤ _), (by decide : 0 + 0 ≤ _)⟩)
  dsimp only [Pt.U, Pt.locs, Pt.cells, Pt.slots] at X4 l4 y4 z4 st4 hQ4
  subst l4 y4 z4
  obtain ⟨rfl, N4q, K4, P5⟩ := hQ4
  have N4_ := Fr.app N1_ N4q
  refine Gl.via (fun _ k => st4.trans k) ?_
  have Z6 : n0 ≤ T4.heap.size := Nat.le_trans Z0 K4.1
  have Y7 : h0.size ≤ T4.heap.size := Nat.le_trans (Nat.le_refl h0.size) K4.1
  show Gl p.tables e below T4 (mkF m 18 #[.val (.ref ba), .val (.int (own_ln bcs)), .val (.ref sa)] []) G
  obtain ⟨fs, hr, hrun, hended, hW, hsame⟩ := X4.leave (v := none) (fun _ => rfl)
  have hq : ∀ L, Fr n0 L → Q_asb_put Z ba bv bk bcs sa sb sk scs cps h0 n0 (none) T4.heap L := by
    intro L hN
    exact ⟨rfl, hN, ((Keep.refl h0 [bv]).trans K4 (allS (Or.inl (List.mem_of_getElem? (i := 0) rfl)) all0)), P5⟩
  rw [hG]
  exact Gl.fin (X4.returnOut hx Bd.returns (hb hby d23_18) hr) ⟨_, hrun, hended, _, _, rfl, hq _ N4_, ⟨_, rfl⟩, hW, hsame.mono (by decide) (by decide)⟩
theorem d19_0 : decode jdk_68_method_22_code 0 = .ok (.aload_n 1, 1) := by decide +kernel
theorem d19_1 : decode jdk_68_method_22_code 1 = .ok (.ifnonnull 8, 3) := by decide +kernel
theorem d19_9 : decode jdk_68_method_22_code 9 = .ok (.aload_n 1, 1) := by decide +kernel
theorem d19_10 : decode jdk_68_method_22_code 10 = .ok (.invokevirtual 32, 3) := by decide +kernel
theorem pd_8 : parseMethodDescriptor "()I" = some ⟨[], some .int⟩ := by decide +kernel
theorem d19_13 : decode jdk_68_method_22_code 13 = .ok (.istore_n 2, 1) := by decide +kernel
theorem d19_14 : decode jdk_68_method_22_code 14 = .ok (.aload_n 0, 1) := by decide +kernel
theorem d19_15 : decode jdk_68_method_22_code 15 = .ok (.aload_n 0, 1) := by decide +kernel
theorem d19_16 : decode jdk_68_method_22_code 16 = .ok (.getfield 79, 3) := by decide +kernel
theorem d19_19 : decode jdk_68_method_22_code 19 = .ok (.iload_n 2, 1) := by decide +kernel
theorem d19_20 : decode jdk_68_method_22_code 20 = .ok (.iadd, 1) := by decide +kernel
theorem d19_21 : decode jdk_68_method_22_code 21 = .ok (.invokevirtual 100, 3) := by decide +kernel
theorem d19_24 : decode jdk_68_method_22_code 24 = .ok (.aload_n 0, 1) := by decide +kernel
theorem d19_25 : decode jdk_68_method_22_code 25 = .ok (.aload_n 0, 1) := by decide +kernel
theorem d19_26 : decode jdk_68_method_22_code 26 = .ok (.getfield 79, 3) := by decide +kernel
theorem d19_29 : decode jdk_68_method_22_code 29 = .ok (.aload_n 1, 1) := by decide +kernel
theorem d19_30 : decode jdk_68_method_22_code 30 = .ok (.invokevirtual 208, 3) := by decide +kernel
theorem pd_9 : parseMethodDescriptor "(ILjava/lang/String;)V" = some ⟨[.int, (.object "java/lang/String")], none⟩ := by decide +kernel
theorem d19_33 : decode jdk_68_method_22_code 33 = .ok (.aload_n 0, 1) := by decide +kernel
theorem d19_34 : decode jdk_68_method_22_code 34 = .ok (.dup, 1) := by decide +kernel
theorem d19_35 : decode jdk_68_method_22_code 35 = .ok (.getfield 79, 3) := by decide +kernel
theorem d19_38 : decode jdk_68_method_22_code 38 = .ok (.iload_n 2, 1) := by decide +kernel
theorem d19_39 : decode jdk_68_method_22_code 39 = .ok (.iadd, 1) := by decide +kernel
theorem d19_40 : decode jdk_68_method_22_code 40 = .ok (.putfield 79, 3) := by decide +kernel
theorem d19_43 : decode jdk_68_method_22_code 43 = .ok (.aload_n 0, 1) := by decide +kernel
theorem d19_44 : decode jdk_68_method_22_code 44 = .ok (.areturn, 1) := by decide +kernel
theorem ef_asb_app (m : MethodId) (x0 : Addr) (x1 : Addr) : entryFrame m #[(.ref x0), (.ref x1)] 3 = mkF m 0 #[.val (.ref x0), .val (.ref x1), .unset] [] := by first | (simp [entryFrame, mkF, argsToLocals, Value.category]; done) | rfl | (simp [entryFrame, mkF, argsToLocals, own_catI, own_catR, *]; done)
def Q_asb_app (Z : State) (ba : Addr) (bv : Addr) (bk : ClassId) (bcs : List Int32) (sa : Addr) (sb : Addr) (sk : ClassId) (scs : List Int32) (cps : Int32) (h0 : Heap) (n0 : Nat) (v : Option Value) (h : Heap) (L : List Loc) : Prop := v = some (.ref ba) ∧ Fr n0 L ∧ Keep h0 h [ba, bv] ∧ Exa Z h ba "java/lang/StringBuilder" ∧ Fld Z h ba "java/lang/AbstractStringBuilder" "value" "[B" (.ref bv) ∧ Fld Z h ba "java/lang/AbstractStringBuilder" "coder" "B" (.int (0 : Int32)) ∧ Fld Z h ba "java/lang/AbstractStringBuilder" "count" "I" (.int (own_ln (bcs ++ scs))) ∧ Arv Z h bv bk .byte (16 : Int32) ((bcs ++ scs).map Value.int) (.int (0 : Int32))
set_option maxRecDepth 65536 in
set_option maxHeartbeats 40000000 in
theorem asb_app (l : Launch) (Z : State) (a0 : Array Value) (hw : ∀ d ∈ tables_1, d.before a0 Z = true) (ws : List Jvm.Cond) (ba : Addr) (bv : Addr) (bk : ClassId) (bcs : List Int32) (sa : Addr) (sb : Addr) (sk : ClassId) (scs : List Int32) (cps : Int32) (h0 : Heap) (n0 : Nat) (Z0 : n0 ≤ h0.size) (F0_ba : Exa Z h0 ba "java/lang/StringBuilder") (F1_ba_value : Fld Z h0 ba "java/lang/AbstractStringBuilder" "value" "[B" (.ref bv)) (F2_ba_coder : Fld Z h0 ba "java/lang/AbstractStringBuilder" "coder" "B" (.int (0 : Int32))) (F3_ba_count : Fld Z h0 ba "java/lang/AbstractStringBuilder" "count" "I" (.int (own_ln bcs))) (F4_bv : Arv Z h0 bv bk .byte (16 : Int32) (bcs.map Value.int) (.int (0 : Int32))) (F5_sa : Exa Z h0 sa "java/lang/String") (F6_sa_coder : Fld Z h0 sa "java/lang/String" "coder" "B" (.int (0 : Int32))) (F7_sa_value : Fld Z h0 sa "java/lang/String" "value" "[B" (.ref sb)) (F8_sb : Arv Z h0 sb sk .byte (own_ln scs) (scs.map Value.int) (.int (0 : Int32))) (F9_java_lang_String : Sta Z Z.heap "java/lang/String" "COMPACT_STRINGS" "Z" (.int cps)) (F10_ : Old Z n0 h0) (hcps : ¬ (cps = (0 : Int32))) (hln : bcs.length + scs.length ≤ 16) (hsv : sb ≠ bv) (hp3 : n0 ≤ bv) (hp4 : n0 ≤ ba) (hp5 : ba ≠ bv) (hp6 : ba ≠ sb) (hp7 : ba ≠ sa) :
    MetFree l (⟨"java/lang/AbstractStringBuilder", "append", "(Ljava/lang/String;)Ljava/lang/AbstractStringBuilder;"⟩ : MethodName) (head1 (Jvm.Cond.code (⟨"java/lang/AbstractStringBuilder", "append", "(Ljava/lang/String;)Ljava/lang/AbstractStringBuilder;"⟩ : MethodName) jdk_68_method_22_code 3 (some (.object "java/lang/AbstractStringBuilder")) :: ws) ({ frames := 3, cells := 0, slots := 0, locals := 69 } : Room)) (fun a U => a = #[(.ref ba), (.ref sa)] ∧ Z.Warmed39 U.vm ∧ U.heap = h0) (fun _ _ _ _ _ => True) (fun _ U o U' => ∃ v L, o = .returned v ∧ Q_asb_app Z ba bv bk bcs sa sb sk scs cps h0 n0 v U'.heap L ∧ FrameEnd U o U' L ({ frames := 3, cells := 0, slots := 0, locals := 69 } : Room).cells ({ frames := 3, cells := 0, slots := 0, locals := 69 } : Room).slots) := by
  refine MetFree.of_bodySF (plainFor_of_name pn_3) hisR ?_
  intro p e s m args below meth c s₁ Bd hml0 hP hK
  obtain ⟨rfl, hZ, hh⟩ := hP
  have hx := Bd.exec
  have hby := Bd.bytes
  have hml : c.maxLocals = 3 := hml0
  have hown : s.vm.findClass "java/lang/AbstractStringBuilder" = some m.cls := findClass_of_methodNamed Bd.named
  have hnm := (name_of_methodNamed Bd.named Bd.method).1
  have X0 : Stand p l e ({ frames := 3, cells := 0, slots := 0, locals := 69 } : Room) s m #[(.ref ba), (.ref sa)] below meth c s₁ [] 0 0 := Stand.of_body Bd
  have e0 : s₁.heap = h0 := by rw [← hh, Bd.state]; rfl
  have N0 := Fr.nil n0
  obtain ⟨G, hG⟩ : ∃ G : State → Prop, G = (fun U' => ∃ o, U'.status = .running ∧ Ended U' below o ∧ ∃ v L, o = .returned v ∧ Q_asb_app Z ba bv bk bcs sa sb sk scs cps h0 n0 v U'.heap L ∧ FrameEnd s o U' L ({ frames := 3, cells := 0, slots := 0, locals := 69 } : Room).cells ({ frames := 3, cells := 0, slots := 0, locals := 69 } : Room).slots) := ⟨_, rfl⟩
  suffices key : Gl p.tables e below s₁ (mkF m 0 #[.val (.ref ba), .val (.ref sa), .unset] []) G by
    obtain ⟨s₂, k1, k2⟩ := key
    rw [hG] at k2
    obtain ⟨o, k3, k4, k5⟩ := k2
    exact ⟨s₂, o, castTop (ef_asb_app m ba sa) k1, k3, k4, k5⟩
  show Gl p.tables e below s₁ (mkF m 0 #[.val (.ref ba), .val (.ref sa), .unset] []) G
  refine Gl.via (fun _ k => XS.aloadN X0.here hx rfl (hb hby d19_0) rfl rfl k) ?_
  show Gl p.tables e below s₁ (mkF m 1 #[.val (.ref ba), .val (.ref sa), .unset] [(.ref sa)]) G
  refine Gl.via (fun _ k => XS.ifnonnullYes X0.here hx rfl (pc0 := 1) (pc' := 9) rfl (hb hby d19_1) rfl (by decide) (by decide) k) ?_
  show Gl p.tables e below s₁ (mkF m 9 #[.val (.ref ba), .val (.ref sa), .unset] []) G
  refine Gl.via (fun _ k => XS.aloadN X0.here hx rfl (hb hby d19_9) rfl rfl k) ?_
  show Gl p.tables e below s₁ (mkF m 10 #[.val (.ref ba), .val (.ref sa), .unset] [(.ref sa)]) G
  obtain ⟨cq1, kq1, q1a, q1b, q1c⟩ := isOf hZ e0 F5_sa
  obtain ⟨_, _, ⟨T1, L1, k1, n1⟩, -, X1, ⟨Lc1, hQ1, l1, y1, z1⟩, st1⟩ := X0.virtualBack hx (y := (⟨"java/lang/String", "length", "()I"⟩ : MethodName)) (z := (⟨"java/lang/String", "length", "()I"⟩ : MethodName)) hown (mvT hZ (hw _ (List.mem_of_getElem? (i := 105) rfl))) (mvT hZ (hw _ (List.mem_of_getElem? (i := 106) rfl))) (notFace_of_selects (args := #[]) (mvT hZ (hw _ (List.mem_of_getElem? (i := 108) rfl)))) (mvT hZ (hw _ (List.mem_of_getElem? (i := 108) rfl))) (mvT hZ (hw _ (List.mem_of_getElem? (i := 107) rfl))) (by decide) (backOf (W := 0) (st_len l Z a0 hw [] sa sb sk scs cps h0 n0 Z0 F5_sa F6_sa_coder F7_sa_value F8_sb F9_java_lang_String F10_ hcps) hZ (hw _ (List.mem_of_getElem? (i := 109) rfl)) (hw _ (List.mem_of_getElem? (i := 6) rfl)) (by decide) (by decide)) q1a q1c (g := (mkF m 10 #[.val (.ref ba), .val (.ref sa), .unset] [(.ref sa)])) rfl (by rw [hml]; rfl) (Steps.refl _) (argsL := []) (rest := []) (lenOf pd_8 rfl) rfl (by show 2 * 0 + _ ≤ _; exact Nat.le_of_eq rfl) (hb hby d19_10) (fun _ _ => ⟨rfl, e0, (by decide : 0 + 0 ≤ _), (by decide : 0 + 0 ≤ _)⟩)
  dsimp only [Pt.U, Pt.locs, Pt.cells, Pt.slots] at X1 l1 y1 z1 st1 hQ1
  subst l1 y1 z1
  obtain ⟨rfl, N1q, eh1⟩ := hQ1
  have N1_ := Fr.app N0 N1q
  refine Gl.via (fun _ k => st1.trans k) ?_
  show Gl p.tables e below T1 (mkF m 13 #[.val (.ref ba), .val (.ref sa), .unset] [(.int (own_ln scs))]) G
  refine Gl.via (fun _ k => XS.istoreN X1.here hx rfl (hb hby d19_13) rfl (l' := #[.val (.ref ba), .val (.ref sa), .val (.int (own_ln scs))]) rfl k) ?_
  show Gl p.tables e below T1 (mkF m 14 #[.val (.ref ba), .val (.ref sa), .val (.int (own_ln scs))] []) G
  refine Gl.via (fun _ k => XS.aloadN X1.here hx rfl (hb hby d19_14) rfl rfl k) ?_
  show Gl p.tables e below T1 (mkF m 15 #[.val (.ref ba), .val (.ref sa), .val (.int (own_ln scs))] [(.ref ba)]) G
  refine Gl.via (fun _ k => XS.aloadN X1.here hx rfl (hb hby d19_15) rfl rfl k) ?_
  show Gl p.tables e below T1 (mkF m 16 #[.val (.ref ba), .val (.ref sa), .val (.int (own_ln scs))] [(.ref ba), (.ref ba)]) G
  obtain ⟨T2, X2, e2, st2⟩ := getF X1 hx hZ hown (host := "") (Or.inl (hw _ (List.mem_of_getElem? (i := 115) rfl))) Via.refl eh1 F3_ba_count (g := (mkF m 16 #[.val (.ref ba), .val (.ref sa), .val (.int (own_ln scs))] [(.ref ba), (.ref ba)])) rfl rfl (hb hby d19_16)
  refine Gl.via st2 ?_
  show Gl p.tables e below T2 (mkF m 19 #[.val (.ref ba), .val (.ref sa), .val (.int (own_ln scs))] [(.int (own_ln bcs)), (.ref ba)]) G
  refine Gl.via (fun _ k => XS.iloadN X2.here hx rfl (hb hby d19_19) rfl k) ?_
  show Gl p.tables e below T2 (mkF m 20 #[.val (.ref ba), .val (.ref sa), .val (.int (own_ln scs))] [(.int (own_ln scs)), (.int (own_ln bcs)), (.ref ba)]) G
  refine Gl.via (fun _ k => XS.iadd X2.here hx rfl (hb hby d19_20) rfl k) ?_
  show Gl p.tables e below T2 (mkF m 21 #[.val (.ref ba), .val (.ref sa), .val (.int (own_ln scs))] [(.int ((own_ln bcs) + (own_ln scs))), (.ref ba)]) G
  rw [show ((own_ln bcs) + (own_ln scs)) = (own_ln (bcs ++ scs)) from (own_lnApp (by omega))]
  show Gl p.tables e below T2 (mkF m 21 #[.val (.ref ba), .val (.ref sa), .val (.int (own_ln scs))] [(.int (own_ln (bcs ++ scs))), (.ref ba)]) G
  obtain ⟨cq3, q3, q3'⟩ := F0_ba.cell
  obtain ⟨_, _, ⟨T3, L3, k3, n3⟩, -, X3, ⟨Lc3, hQ3, l3, y3, z3⟩, st3⟩ := X2.privateBack hx (y := (⟨"java/lang/AbstractStringBuilder", "ensureCapacityInternal", "(I)V"⟩ : MethodName)) hown (mvT hZ (hw _ (List.mem_of_getElem? (i := 117) rfl))) (mvT hZ (hw _ (List.mem_of_getElem? (i := 118) rfl))) (mvT hZ (own_selP (y := (⟨"java/lang/AbstractStringBuilder", "ensureCapacityInternal", "(I)V"⟩ : MethodName)) (own_nonface (y := (⟨"java/lang/AbstractStringBuilder", "isLatin1", "()Z"⟩ : MethodName)) (hw _ (List.mem_of_getElem? (i := 171) rfl)) (hw _ (List.mem_of_getElem? (i := 169) rfl))) (hw _ (List.mem_of_getElem? (i := 119) rfl)) (hw _ (List.mem_of_getElem? (i := 118) rfl)) (by decide))) (Cond.privateMethod_at (mvP hZ (hw _ (List.mem_of_getElem? (i := 119) rfl)) (args := #[]))) (mvT hZ (hw _ (List.mem_of_getElem? (i := 121) rfl))) (by decide) (backOf (W := 0) (asb_ens l Z a0 hw [] ba bv bk bcs (own_ln (bcs ++ scs)) h0 n0 Z0 F1_ba_value F2_ba_coder F4_bv (own_cap (by rw [List.length_append]; omega))) hZ (hw _ (List.mem_of_getElem? (i := 121) rfl)) (hw _ (List.mem_of_getElem? (i := 87) rfl)) (by decide) (by decide)) (g := (mkF m 21 #[.val (.ref ba), .val (.ref sa), .val (.int (own_ln scs))] [(.int (own_ln (bcs ++ scs))), (.ref ba)])) rfl (by rw [hml]; rfl) (Steps.refl _) (a := ba) (by rw [e2]; exact q3) q3' (argsL := [(.int (own_ln (bcs ++ scs)))]) (rest := []) (lenOf pd_5 rfl) rfl (by show 2 * 0 + _ ≤ _; exact Nat.le_of_eq rfl) (hb hby d19_21) (fun _ _ => ⟨rfl, e2, (by decide : 0 + 0 ≤ _), (by decide : 0 + 0 ≤ _)⟩)
  dsimp only [Pt.U, Pt.locs, Pt.cells, Pt.slots] at X3 l3 y3 z3 st3 hQ3
  subst l3 y3 z3
  obtain ⟨rfl, N3q, eh3⟩ := hQ3
  have N3_ := Fr.app N1_ N3q
  refine Gl.via (fun _ k => st3.trans k) ?_
  show Gl p.tables e below T3 (mkF m 24 #[.val (.ref ba), .val (.ref sa), .val (.int (own_ln scs))] []) G
  refine Gl.via (fun _ k => XS.aloadN X3.here hx rfl (hb hby d19_24) rfl rfl k) ?_
  show Gl p.tables e below T3 (mkF m 25 #[.val (.ref ba), .val (.ref sa), .val (.int (own_ln scs))] [(.ref ba)]) G
  refine Gl.via (fun _ k => XS.aloadN X3.here hx rfl (hb hby d19_25) rfl rfl k) ?_
  show Gl p.tables e below T3 (mkF m 26 #[.val (.ref ba), .val (.ref sa), .val (.int (own_ln scs))] [(.ref ba), (.ref ba)]) G
  obtain ⟨T4, X4, e4, st4⟩ := getF X3 hx hZ hown (host := "") (Or.inl (hw _ (List.mem_of_getElem? (i := 115) rfl))) Via.refl eh3 F3_ba_count (g := (mkF m 26 #[.val (.ref ba), .val (.ref sa), .val (.int (own_ln scs))] [(.ref ba), (.ref ba)])) rfl rfl (hb hby d19_26)
  refine Gl.via st4 ?_
  show Gl p.tables e below T4 (mkF m 29 #[.val (.ref ba), .val (.ref sa), .val (.int (own_ln scs))] [(.int (own_ln bcs)), (.ref ba)]) G
  refine Gl.via (fun _ k => XS.aloadN X4.here hx rfl (hb hby d19_29) rfl rfl k) ?_
  show Gl p.tables e below T4 (mkF m 30 #[.val (.ref ba), .val (.ref sa), .val (.int (own_ln scs))] [(.ref sa), (.int (own_ln bcs)), (.ref ba)]) G
  obtain ⟨cq5, q5, q5'⟩ := F0_ba.cell
  obtain ⟨_, _, ⟨T5, L5, k5, n5⟩, -, X5, ⟨Lc5, hQ5, l5, y5, z5⟩, st5⟩ := X4.privateBack hx (y := (⟨"java/lang/AbstractStringBuilder", "putStringAt", "(ILjava/lang/String;)V"⟩ : MethodName)) hown (mvT hZ (hw _ (List.mem_of_getElem? (i := 122) rfl))) (mvT hZ (hw _ (List.mem_of_getElem? (i := 123) rfl))) (mvT hZ (own_selP (y := (⟨"java/lang/AbstractStringBuilder", "putStringAt", "(ILjava/lang/String;)V"⟩ : MethodName)) (own_nonface (y := (⟨"java/lang/AbstractStringBuilder", "isLatin1", "()Z"⟩ : MethodName)) (hw _ (List.mem_of_getElem? (i := 171) rfl)) (hw _ (List.mem_of_getElem? (i := 169) rfl))) (hw _ (List.mem_of_getElem? (i := 124) rfl)) (hw _ (List.mem_of_getElem? (i := 123) rfl)) (by decide))) (Cond.privateMethod_at (mvP hZ (hw _ (List.mem_of_getElem? (i := 124) rfl)) (args := #[]))) (mvT hZ (hw _ (List.mem_of_getElem? (i := 126) rfl))) (by decide) (backOf (W := 0) (asb_put l Z a0 hw [] ba bv bk bcs sa sb sk scs cps h0 n0 Z0 F0_ba F1_ba_value F2_ba_coder F3_ba_count F4_bv F5_sa F6_sa_coder F7_sa_value F8_sb F9_java_lang_String F10_ hcps hln hsv hp3 hp5) hZ (hw _ (List.mem_of_getElem? (i := 126) rfl)) (hw _ (List.mem_of_getElem? (i := 87) rfl)) (by decide) (by decide)) (g := (mkF m 30 #[.val (.ref ba), .val (.ref sa), .val (.int (own_ln scs))] [(.ref sa), (.int (own_ln bcs)), (.ref ba)])) rfl (by rw [hml]; rfl) (Steps.refl _) (a := ba) (by rw [e4]; exact q5) q5' (argsL := [(.int (own_ln bcs)), (.ref sa)]) (rest := []) (lenOf pd_9 rfl) rfl (by show 2 * 0 + _ ≤ _; exact Nat.le_of_eq rfl) (hb hby d19_30) (fun _ _ => ⟨rfl, e4, (by decide : 0 + 0 ≤ _), (by decide : 0 + 0 ≤ _)⟩)
  dsimp only [Pt.U, Pt.locs, Pt.cells, Pt.slots] at X5 l5 y5 z5 st5 hQ5
  subst l5 y5 z5
  obtain ⟨rfl, N5q, K5, P6⟩ := hQ5
  have N5_ := Fr.app N3_ N5q
  refine Gl.via (fun _ k => st5.trans k) ?_
  have Z7 : n0 ≤ T5.heap.size := Nat.le_trans Z0 K5.1
  have Y8 : h0.size ≤ T5.heap.size := Nat.le_trans (Nat.le_refl h0.size) K5.1
  show Gl p.tables e below T5 (mkF m 33 #[.val (.ref ba), .val (.ref sa), .val (.int (own_ln scs))] []) G
  refine Gl.via (fun _ k => XS.aloadN X5.here hx rfl (hb hby d19_33) rfl rfl k) ?_
  show Gl p.tables e below T5 (mkF m 34 #[.val (.ref ba), .val (.ref sa), .val (.int (own_ln scs))] [(.ref ba)]) G
  refine Gl.via (fun _ k => XS.dup X5.here hx rfl (hb hby d19_34) rfl rfl k) ?_
  show Gl p.tables e below T5 (mkF m 35 #[.val (.ref ba), .val (.ref sa), .val (.int (own_ln scs))] [(.ref ba), (.ref ba)]) G
  have G9 : Fld Z T5.heap ba "java/lang/AbstractStringBuilder" "count" "I" (.int (own_ln bcs)) := (F3_ba_count.keep K5 (ninS hp5 nin0))
  obtain ⟨T10, X10, e10, st10⟩ := getF X5 hx hZ hown (host := "") (Or.inl (hw _ (List.mem_of_getElem? (i := 115) rfl))) Via.refl rfl G9 (g := (mkF m 35 #[.val (.ref ba), .val (.ref sa), .val (.int (own_ln scs))] [(.ref ba), (.ref ba)])) rfl rfl (hb hby d19_35)
  refine Gl.via st10 ?_
  show Gl p.tables e below T10 (mkF m 38 #[.val (.ref ba), .val (.ref sa), .val (.int (own_ln scs))] [(.int (own_ln bcs)), (.ref ba)]) G
  refine Gl.via (fun _ k => XS.iloadN X10.here hx rfl (hb hby d19_38) rfl k) ?_
  show Gl p.tables e below T10 (mkF m 39 #[.val (.ref ba), .val (.ref sa), .val (.int (own_ln scs))] [(.int (own_ln scs)), (.int (own_ln bcs)), (.ref ba)]) G
  refine Gl.via (fun _ k => XS.iadd X10.here hx rfl (hb hby d19_39) rfl k) ?_
  show Gl p.tables e below T10 (mkF m 40 #[.val (.ref ba), .val (.ref sa), .val (.int (own_ln scs))] [(.int ((own_ln bcs) + (own_ln scs))), (.ref ba)]) G
  rw [show ((own_ln bcs) + (own_ln scs)) = (own_ln (bcs ++ scs)) from (own_lnApp (by omega))]
  show Gl p.tables e below T10 (mkF m 40 #[.val (.ref ba), .val (.ref sa), .val (.int (own_ln scs))] [(.int (own_ln (bcs ++ scs))), (.ref ba)]) G
  have G11 : Exa Z T5.heap ba "java/lang/StringBuilder" := (F0_ba.keep K5)
  obtain ⟨T12, h12, X12, e12, W12, st12⟩ := putF X10 hx hZ hown (host := "") (Or.inl (hw _ (List.mem_of_getElem? (i := 115) rfl))) Via.refl e10 G9 G11 (Or.inl (hw _ (List.mem_of_getElem? (i := 116) rfl))) (hw _ (List.mem_of_getElem? (i := 78) rfl)) (ty := .int) (by decide) rfl rfl (g := (mkF m 40 #[.val (.ref ba), .val (.ref sa), .val (.int (own_ln scs))] [(.int (own_ln (bcs ++ scs))), (.ref ba)])) rfl rfl (hb hby d19_40)
  refine Gl.via st12 ?_
  have N12_ := Fr.snoc X12 N5_ hp4
  have Z13 : n0 ≤ h12.size := Nat.le_trans Z7 (Keep.of_wr W12).1
  have Y14 : h0.size ≤ h12.size := Nat.le_trans Y8 (Keep.of_wr W12).1
  show Gl p.tables e below T12 (mkF m 43 #[.val (.ref ba), .val (.ref sa), .val (.int (own_ln scs))] []) G
  refine Gl.via (fun _ k => XS.aloadN X12.here hx rfl (hb hby d19_43) rfl rfl k) ?_
  show Gl p.tables e below T12 (mkF m 44 #[.val (.ref ba), .val (.ref sa), .val (.int (own_ln scs))] [(.ref ba)]) G
  obtain ⟨fs, hr, hrun, hended, hW, hsame⟩ := X12.leave (v := some (.ref ba)) (fun h => by rw [Bd.returns] at h; cases h)
  have G15 : Exa Z h12 ba "java/lang/StringBuilder" := (G11.wr W12)
  have G16 : Fld Z h12 ba "java/lang/AbstractStringBuilder" "value" "[B" (.ref bv) := ((F1_ba_value.keep K5 (ninS hp5 nin0)).other W12 (Or.inr (slot_ne (Or.inl (hw _ (List.mem_of_getElem? (i := 92) rfl))) (Or.inl (hw _ (List.mem_of_getElem? (i := 116) rfl))) (by decide) (t := (.array .byte)) (t' := .int) (by decide) (by decide))))
  have G17 : Fld Z h12 ba "java/lang/AbstractStringBuilder" "coder" "B" (.int (0 : Int32)) := ((F2_ba_coder.keep K5 (ninS hp5 nin0)).other W12 (Or.inr (slot_ne (Or.inl (hw _ (List.mem_of_getElem? (i := 94) rfl))) (Or.inl (hw _ (List.mem_of_getElem? (i := 116) rfl))) (by decide) (t := .byte) (t' := .int) (by decide) (by decide))))
  have G18 : Arv Z h12 bv bk .byte (16 : Int32) ((bcs ++ scs).map Value.int) (.int (0 : Int32)) := (P6.other W12 (Ne.symm hp5))
  have hq : ∀ L, Fr n0 L → Q_asb_app Z ba bv bk bcs sa sb sk scs cps h0 n0 (some (.ref ba)) T12.heap L := by
    intro L hN
    rw [e12]
    exact ⟨rfl, hN, (((Keep.refl h0 [ba, bv]).trans K5 (allS (Or.inl (List.mem_of_getElem? (i := 1) rfl)) all0)).wr W12 (Or.inl (List.mem_of_getElem? (i := 0) rfl))), G15, G16, G17, (Fld.same W12 G9), G18⟩
  rw [hG]
  exact Gl.fin (retOut X12 hx Bd.returns rfl (Or.inr (Or.inr (Or.inr (Or.inr ⟨rfl, rfl, rfl⟩)))) (hb hby d19_44) hr) ⟨_, hrun, hended, _, _, rfl, hq _ N12_, ⟨_, rfl⟩, hW, hsame.mono (by decide) (by decide)⟩
theorem d18_0 : decode jdk_67_method_7_code 0 = .ok (.aload_n 0, 1) := by decide +kernel
theorem d18_1 : decode jdk_67_method_7_code 1 = .ok (.aload_n 1, 1) := by decide +kernel
theorem d18_2 : decode jdk_67_method_7_code 2 = .ok (.invokespecial 29, 3) := by decide +kernel
theorem pd_10 : parseMethodDescriptor "(Ljava/lang/String;)Ljava/lang/AbstractStringBuilder;" = some ⟨[(.object "java/lang/String")], some (.object "java/lang/AbstractStringBuilder")⟩ := by decide +kernel
theorem d18_5 : decode jdk_67_method_7_code 5 = .ok (.pop, 1) := by decide +kernel
theorem d18_6 : decode jdk_67_method_7_code 6 = .ok (.aload_n 0, 1) := by decide +kernel
theorem d18_7 : decode jdk_67_method_7_code 7 = .ok (.areturn, 1) := by decide +kernel
theorem ef_sb_app (m : MethodId) (x0 : Addr) (x1 : Addr) : entryFrame m #[(.ref x0), (.ref x1)] 2 = mkF m 0 #[.val (.ref x0), .val (.ref x1)] [] := by first | (simp [entryFrame, mkF, argsToLocals, Value.category]; done) | rfl | (simp [entryFrame, mkF, argsToLocals, own_catI, own_catR, *]; done)
def Q_sb_app (Z : State) (ba : Addr) (bv : Addr) (bk : ClassId) (bcs : List Int32) (sa : Addr) (sb : Addr) (sk : ClassId) (scs : List Int32) (cps : Int32) (h0 : Heap) (n0 : Nat) (v : Option Value) (h : Heap) (L : List Loc) : Prop := v = some (.ref ba) ∧ Fr n0 L ∧ Keep h0 h [ba, bv] ∧ Exa Z h ba "java/lang/StringBuilder" ∧ Fld Z h ba "java/lang/AbstractStringBuilder" "value" "[B" (.ref bv) ∧ Fld Z h ba "java/lang/AbstractStringBuilder" "coder" "B" (.int (0 : Int32)) ∧ Fld Z h ba "java/lang/AbstractStringBuilder" "count" "I" (.int (own_ln (bcs ++ scs))) ∧ Arv Z h bv bk .byte (16 : Int32) ((bcs ++ scs).map Value.int) (.int (0 : Int32))
set_option maxRecDepth 65536 in
set_option maxHeartbeats 40000000 in
theorem sb_app (l : Launch) (Z : State) (a0 : Array Value) (hw : ∀ d ∈ tables_1, d.before a0 Z = true) (ws : List Jvm.Cond) (ba : Addr) (bv : Addr) (bk : ClassId) (bcs : List Int32) (sa : Addr) (sb : Addr) (sk : ClassId) (scs : List Int32) (cps : Int32) (h0 : Heap) (n0 : Nat) (Z0 : n0 ≤ h0.size) (F0_ba : Exa Z h0 ba "java/lang/StringBuilder") (F1_ba_value : Fld Z h0 ba "java/lang/AbstractStringBuilder" "value" "[B" (.ref bv)) (F2_ba_coder : Fld Z h0 ba "java/lang/AbstractStringBuilder" "coder" "B" (.int (0 : Int32))) (F3_ba_count : Fld Z h0 ba "java/lang/AbstractStringBuilder" "count" "I" (.int (own_ln bcs))) (F4_bv : Arv Z h0 bv bk .byte (16 : Int32) (bcs.map Value.int) (.int (0 : Int32))) (F5_sa : Exa Z h0 sa "java/lang/String") (F6_sa_coder : Fld Z h0 sa "java/lang/String" "coder" "B" (.int (0 : Int32))) (F7_sa_value : Fld Z h0 sa "java/lang/String" "value" "[B" (.ref sb)) (F8_sb : Arv Z h0 sb sk .byte (own_ln scs) (scs.map Value.int) (.int (0 : Int32))) (F9_java_lang_String : Sta Z Z.heap "java/lang/String" "COMPACT_STRINGS" "Z" (.int cps)) (F10_ : Old Z n0 h0) (hcps : ¬ (cps = (0 : Int32))) (hln : bcs.length + scs.length ≤ 16) (hsv : sb ≠ bv) (hp3 : n0 ≤ bv) (hp4 : n0 ≤ ba) (hp5 : ba ≠ bv) (hp6 : ba ≠ sb) (hp7 : ba ≠ sa) :
    MetFree l (⟨"java/lang/StringBuilder", "append", "(Ljava/lang/String;)Ljava/lang/StringBuilder;"⟩ : MethodName) (head1 (Jvm.Cond.code (⟨"java/lang/StringBuilder", "append", "(Ljava/lang/String;)Ljava/lang/StringBuilder;"⟩ : MethodName) jdk_67_method_7_code 2 (some (.object "java/lang/StringBuilder")) :: ws) ({ frames := 4, cells := 0, slots := 0, locals := 83 } : Room)) (fun a U => a = #[(.ref ba), (.ref sa)] ∧ Z.Warmed39 U.vm ∧ U.heap = h0) (fun _ _ _ _ _ => True) (fun _ U o U' => ∃ v L, o = .returned v ∧ Q_sb_app Z ba bv bk bcs sa sb sk scs cps h0 n0 v U'.heap L ∧ FrameEnd U o U' L ({ frames := 4, cells := 0, slots := 0, locals := 83 } : Room).cells ({ frames := 4, cells := 0, slots := 0, locals := 83 } : Room).slots) := by
  refine MetFree.of_bodySF (plainFor_of_name pn_4) hisR ?_
  intro p e s m args below meth c s₁ Bd hml0 hP hK
  obtain ⟨rfl, hZ, hh⟩ := hP
  have hx := Bd.exec
  have hby := Bd.bytes
  have hml : c.maxLocals = 2 := hml0
  have hown : s.vm.findClass "java/lang/StringBuilder" = some m.cls := findClass_of_methodNamed Bd.named
  have hnm := (name_of_methodNamed Bd.named Bd.method).1
  have X0 : Stand p l e ({ frames := 4, cells := 0, slots := 0, locals := 83 } : Room) s m #[(.ref ba), (.ref sa)] below meth c s₁ [] 0 0 := Stand.of_body Bd
  have e0 : s₁.heap = h0 := by rw [← hh, Bd.state]; rfl
  have N0 := Fr.nil n0
  obtain ⟨G, hG⟩ : ∃ G : State → Prop, G = (fun U' => ∃ o, U'.status = .running ∧ Ended U' below o ∧ ∃ v L, o = .returned v ∧ Q_sb_app Z ba bv bk bcs sa sb sk scs cps h0 n0 v U'.heap L ∧ FrameEnd s o U' L ({ frames := 4, cells := 0, slots := 0, locals := 83 } : Room).cells ({ frames := 4, cells := 0, slots := 0, locals := 83 } : Room).slots) := ⟨_, rfl⟩
  suffices key : Gl p.tables e below s₁ (mkF m 0 #[.val (.ref ba), .val (.ref sa)] []) G by
    obtain ⟨s₂, k1, k2⟩ := key
    rw [hG] at k2
    obtain ⟨o, k3, k4, k5⟩ := k2
    exact ⟨s₂, o, castTop (ef_sb_app m ba sa) k1, k3, k4, k5⟩
  show Gl p.tables e below s₁ (mkF m 0 #[.val (.ref ba), .val (.ref sa)] []) G
  refine Gl.via (fun _ k => XS.aloadN X0.here hx rfl (hb hby d18_0) rfl rfl k) ?_
  show Gl p.tables e below s₁ (mkF m 1 #[.val (.ref ba), .val (.ref sa)] [(.ref ba)]) G
  refine Gl.via (fun _ k => XS.aloadN X0.here hx rfl (hb hby d18_1) rfl rfl k) ?_
  show Gl p.tables e below s₁ (mkF m 2 #[.val (.ref ba), .val (.ref sa)] [(.ref sa), (.ref ba)]) G
  obtain ⟨_, _, ⟨T1, L1, k1, n1⟩, -, X1, ⟨Lc1, hQ1, l1, y1, z1⟩, st1⟩ := superBack X0 hx hZ (y := (⟨"java/lang/AbstractStringBuilder", "append", "(Ljava/lang/String;)Ljava/lang/AbstractStringBuilder;"⟩ : MethodName)) hown (hw _ (List.mem_of_getElem? (i := 100) rfl)) (own_sameM (y := (⟨"java/lang/AbstractStringBuilder", "append", "(Ljava/lang/String;)Ljava/lang/AbstractStringBuilder;"⟩ : MethodName)) (own_nonface (y := (⟨"java/lang/AbstractStringBuilder", "isLatin1", "()Z"⟩ : MethodName)) (hw _ (List.mem_of_getElem? (i := 171) rfl)) (hw _ (List.mem_of_getElem? (i := 169) rfl))) (hw _ (List.mem_of_getElem? (i := 103) rfl)) (by decide)) (hw _ (List.mem_of_getElem? (i := 101) rfl)) (hw _ (List.mem_of_getElem? (i := 102) rfl)) (by decide) (backOf (W := 0) (asb_app l Z a0 hw [] ba bv bk bcs sa sb sk scs cps h0 n0 Z0 F0_ba F1_ba_value F2_ba_coder F3_ba_count F4_bv F5_sa F6_sa_coder F7_sa_value F8_sb F9_java_lang_String F10_ hcps hln hsv hp3 hp4 hp5 hp6 hp7) hZ (hw _ (List.mem_of_getElem? (i := 104) rfl)) (hw _ (List.mem_of_getElem? (i := 87) rfl)) (by decide) (by decide)) e0 (Ins.self F0_ba) (g := (mkF m 2 #[.val (.ref ba), .val (.ref sa)] [(.ref sa), (.ref ba)])) rfl (by rw [hml]; rfl) (hw _ (List.mem_of_getElem? (i := 104) rfl)) (argsL := [(.ref sa)]) (rest := []) (lenOf pd_10 rfl) rfl (by show 2 * 0 + _ ≤ _; exact Nat.le_of_eq rfl) (hb hby d18_2) (fun _ _ => ⟨rfl, e0, (by decide : 0 + 0 ≤ _), (by decide : 0 + 0 ≤ _)⟩)
  dsimp only [Pt.U, Pt.locs, Pt.cells, Pt.slots] at X1 l1 y1 z1 st1 hQ1
  subst l1 y1 z1
  obtain ⟨rfl, N1q, K1, P2, P3, P4, P5, P6⟩ := hQ1
  have N1_ := Fr.app N0 N1q
  refine Gl.via (fun _ k => st1.trans k) ?_
  have Z7 : n0 ≤ T1.heap.size := Nat.le_trans Z0 K1.1
  have Y8 : h0.size ≤ T1.heap.size := Nat.le_trans (Nat.le_refl h0.size) K1.1
  show Gl p.tables e below T1 (mkF m 5 #[.val (.ref ba), .val (.ref sa)] [(.ref ba)]) G
  refine Gl.via (fun _ k => XS.pop X1.here hx rfl (hb hby d18_5) rfl rfl k) ?_
  show Gl p.tables e below T1 (mkF m 6 #[.val (.ref ba), .val (.ref sa)] []) G
  refine Gl.via (fun _ k => XS.aloadN X1.here hx rfl (hb hby d18_6) rfl rfl k) ?_
  show Gl p.tables e below T1 (mkF m 7 #[.val (.ref ba), .val (.ref sa)] [(.ref ba)]) G
  obtain ⟨fs, hr, hrun, hended, hW, hsame⟩ := X1.leave (v := some (.ref ba)) (fun h => by rw [Bd.returns] at h; cases h)
  have hq : ∀ L, Fr n0 L → Q_sb_app Z ba bv bk bcs sa sb sk scs cps h0 n0 (some (.ref ba)) T1.heap L := by
    intro L hN
    exact ⟨rfl, hN, ((Keep.refl h0 [ba, bv]).trans K1 (allS (Or.inl (List.mem_of_getElem? (i := 0) rfl)) (allS (Or.inl (List.mem_of_getElem? (i := 1) rfl)) all0))), P2, P3, P4, P5, P6⟩
  rw [hG]
  exact Gl.fin (retOut X1 hx Bd.returns rfl (Or.inr (Or.inr (Or.inr (Or.inr ⟨rfl, rfl, rfl⟩)))) (hb hby d18_7) hr) ⟨_, hrun, hended, _, _, rfl, hq _ N1_, ⟨_, rfl⟩, hW, hsame.mono (by decide) (by decide)⟩
theorem d29_0 : decode jdk_68_method_64_code 0 = .ok (.aload_n 0, 1) := by decide +kernel
theorem d29_1 : decode jdk_68_method_64_code 1 = .ok (.getfield 15, 3) := by decide +kernel
theorem d29_4 : decode jdk_68_method_64_code 4 = .ok (.areturn, 1) := by decide +kernel
theorem ef_asb_val (m : MethodId) (x0 : Addr) : entryFrame m #[(.ref x0)] 1 = mkF m 0 #[.val (.ref x0)] [] := by first | (simp [entryFrame, mkF, argsToLocals, Value.category]; done) | rfl | (simp [entryFrame, mkF, argsToLocals, own_catI, own_catR, *]; done)
def Q_asb_val (Z : State) (ba : Addr) (bv : Addr) (h0 : Heap) (n0 : Nat) (v : Option Value) (h : Heap) (L : List Loc) : Prop := v = some (.ref bv) ∧ Fr n0 L ∧ h = h0
set_option maxRecDepth 65536 in
set_option maxHeartbeats 40000000 in
theorem asb_val (l : Launch) (Z : State) (a0 : Array Value) (hw : ∀ d ∈ tables_1, d.before a0 Z = true) (ws : List Jvm.Cond) (ba : Addr) (bv : Addr) (h0 : Heap) (n0 : Nat) (Z0 : n0 ≤ h0.size) (F0_ba_value : Fld Z h0 ba "java/lang/AbstractStringBuilder" "value" "[B" (.ref bv)) :
    MetFree l (⟨"java/lang/AbstractStringBuilder", "getValue", "()[B"⟩ : MethodName) (head1 (Jvm.Cond.code (⟨"java/lang/AbstractStringBuilder", "getValue", "()[B"⟩ : MethodName) jdk_68_method_64_code 1 (some (.array .byte)) :: ws) ({ frames := 0, cells := 0, slots := 0, locals := 0 } : Room)) (fun a U => a = #[(.ref ba)] ∧ Z.Warmed39 U.vm ∧ U.heap = h0) (fun _ _ _ _ _ => True) (fun _ U o U' => ∃ v L, o = .returned v ∧ Q_asb_val Z ba bv h0 n0 v U'.heap L ∧ FrameEnd U o U' L ({ frames := 0, cells := 0, slots := 0, locals := 0 } : Room).cells ({ frames := 0, cells := 0, slots := 0, locals := 0 } : Room).slots) := by
  refine MetFree.of_bodySF (plainFor_of_name pn_3) hisR ?_
  intro p e s m args below meth c s₁ Bd hml0 hP hK
  obtain ⟨rfl, hZ, hh⟩ := hP
  have hx := Bd.exec
  have hby := Bd.bytes
  have hml : c.maxLocals = 1 := hml0
  have hown : s.vm.findClass "java/lang/AbstractStringBuilder" = some m.cls := findClass_of_methodNamed Bd.named
  have hnm := (name_of_methodNamed Bd.named Bd.method).1
  have X0 : Stand p l e ({ frames := 0, cells := 0, slots := 0, locals := 0 } : Room) s m #[(.ref ba)] below meth c s₁ [] 0 0 := Stand.of_body Bd
  have e0 : s₁.heap = h0 := by rw [← hh, Bd.state]; rfl
  have N0 := Fr.nil n0
  obtain ⟨G, hG⟩ : ∃ G : State → Prop, G = (fun U' => ∃ o, U'.status = .running ∧ Ended U' below o ∧ ∃ v L, o = .returned v ∧ Q_asb_val Z ba bv h0 n0 v U'.heap L ∧ FrameEnd s o U' L ({ frames := 0, cells := 0, slots := 0, locals := 0 } : Room).cells ({ frames := 0, cells := 0, slots := 0, locals := 0 } : Room).slots) := ⟨_, rfl⟩
  suffices key : Gl p.tables e below s₁ (mkF m 0 #[.val (.ref ba)] []) G by
    obtain ⟨s₂, k1, k2⟩ := key
    rw [hG] at k2
    obtain ⟨o, k3, k4, k5⟩ := k2
    exact ⟨s₂, o, castTop (ef_asb_val m ba) k1, k3, k4, k5⟩
  show Gl p.tables e below s₁ (mkF m 0 #[.val (.ref ba)] []) G
  refine Gl.via (fun _ k => XS.aloadN X0.here hx rfl (hb hby d29_0) rfl rfl k) ?_
  show Gl p.tables e below s₁ (mkF m 1 #[.val (.ref ba)] [(.ref ba)]) G
  obtain ⟨T1, X1, e1, st1⟩ := getF X0 hx hZ hown (host := "") (Or.inl (hw _ (List.mem_of_getElem? (i := 91) rfl))) Via.refl e0 F0_ba_value (g := (mkF m 1 #[.val (.ref ba)] [(.ref ba)])) rfl rfl (hb hby d29_1)
  refine Gl.via st1 ?_
  show Gl p.tables e below T1 (mkF m 4 #[.val (.ref ba)] [(.ref bv)]) G
  obtain ⟨fs, hr, hrun, hended, hW, hsame⟩ := X1.leave (v := some (.ref bv)) (fun h => by rw [Bd.returns] at h; cases h)
  have hq : ∀ L, Fr n0 L → Q_asb_val Z ba bv h0 n0 (some (.ref bv)) T1.heap L := by
    intro L hN
    rw [e1]
    exact ⟨rfl, hN, rfl⟩
  rw [hG]
  exact Gl.fin (retOut X1 hx Bd.returns rfl (Or.inr (Or.inr (Or.inr (Or.inr ⟨rfl, rfl, rfl⟩)))) (hb hby d29_4) hr) ⟨_, hrun, hended, _, _, rfl, hq _ N0, ⟨_, rfl⟩, hW, hsame.mono (by decide) (by decide)⟩
theorem d31_0 : decode jdk_68_method_6_code 0 = .ok (.aload_n 0, 1) := by decide +kernel
theorem d31_1 : decode jdk_68_method_6_code 1 = .ok (.getfield 79, 3) := by decide +kernel
theorem d31_4 : decode jdk_68_method_6_code 4 = .ok (.ireturn, 1) := by decide +kernel
theorem ef_asb_len (m : MethodId) (x0 : Addr) : entryFrame m #[(.ref x0)] 1 = mkF m 0 #[.val (.ref x0)] [] := by first | (simp [entryFrame, mkF, argsToLocals, Value.category]; done) | rfl | (simp [entryFrame, mkF, argsToLocals, own_catI, own_catR, *]; done)
def Q_asb_len (Z : State) (ba : Addr) (bn : Int32) (h0 : Heap) (n0 : Nat) (v : Option Value) (h : Heap) (L : List Loc) : Prop := v = some (.int bn) ∧ Fr n0 L ∧ h = h0
set_option maxRecDepth 65536 in
set_option maxHeartbeats 40000000 in
theorem asb_len (l : Launch) (Z : State) (a0 : Array Value) (hw : ∀ d ∈ tables_1, d.before a0 Z = true) (ws : List Jvm.Cond) (ba : Addr) (bn : Int32) (h0 : Heap) (n0 : Nat) (Z0 : n0 ≤ h0.size) (F0_ba : Exa Z h0 ba "java/lang/StringBuilder") (F1_ba_count : Fld Z h0 ba "java/lang/AbstractStringBuilder" "count" "I" (.int bn)) :
    MetFree l (⟨"java/lang/AbstractStringBuilder", "length", "()I"⟩ : MethodName) (head1 (Jvm.Cond.code (⟨"java/lang/AbstractStringBuilder", "length", "()I"⟩ : MethodName) jdk_68_method_6_code 1 (some .int) :: ws) ({ frames := 0, cells := 0, slots := 0, locals := 0 } : Room)) (fun a U => a = #[(.ref ba)] ∧ Z.Warmed39 U.vm ∧ U.heap = h0) (fun _ _ _ _ _ => True) (fun _ U o U' => ∃ v L, o = .returned v ∧ Q_asb_len Z ba bn h0 n0 v U'.heap L ∧ FrameEnd U o U' L ({ frames := 0, cells := 0, slots := 0, locals := 0 } : Room).cells ({ frames := 0, cells := 0, slots := 0, locals := 0 } : Room).slots) := by
  refine MetFree.of_bodySF (plainFor_of_name pn_3) hisR ?_
  intro p e s m args below meth c s₁ Bd hml0 hP hK
  obtain ⟨rfl, hZ, hh⟩ := hP
  have hx := Bd.exec
  have hby := Bd.bytes
  have hml : c.maxLocals = 1 := hml0
  have hown : s.vm.findClass "java/lang/AbstractStringBuilder" = some m.cls := findClass_of_methodNamed Bd.named
  have hnm := (name_of_methodNamed Bd.named Bd.method).1
  have X0 : Stand p l e ({ frames := 0, cells := 0, slots := 0, locals := 0 } : Room) s m #[(.ref ba)] below meth c s₁ [] 0 0 := Stand.of_body Bd
  have e0 : s₁.heap = h0 := by rw [← hh, Bd.state]; rfl
  have N0 := Fr.nil n0
  obtain ⟨G, hG⟩ : ∃ G : State → Prop, G = (fun U' => ∃ o, U'.status = .running ∧ Ended U' below o ∧ ∃ v L, o = .returned v ∧ Q_asb_len Z ba bn h0 n0 v U'.heap L ∧ FrameEnd s o U' L ({ frames := 0, cells := 0, slots := 0, locals := 0 } : Room).cells ({ frames := 0, cells := 0, slots := 0, locals := 0 } : Room).slots) := ⟨_, rfl⟩
  suffices key : Gl p.tables e below s₁ (mkF m 0 #[.val (.ref ba)] []) G by
    obtain ⟨s₂, k1, k2⟩ := key
    rw [hG] at k2
    obtain ⟨o, k3, k4, k5⟩ := k2
    exact ⟨s₂, o, castTop (ef_asb_len m ba) k1, k3, k4, k5⟩
  show Gl p.tables e below s₁ (mkF m 0 #[.val (.ref ba)] []) G
  refine Gl.via (fun _ k => XS.aloadN X0.here hx rfl (hb hby d31_0) rfl rfl k) ?_
  show Gl p.tables e below s₁ (mkF m 1 #[.val (.ref ba)] [(.ref ba)]) G
  obtain ⟨T1, X1, e1, st1⟩ := getF X0 hx hZ hown (host := "") (Or.inl (hw _ (List.mem_of_getElem? (i := 115) rfl))) Via.refl e0 F1_ba_count (g := (mkF m 1 #[.val (.ref ba)] [(.ref ba)])) rfl rfl (hb hby d31_1)
  refine Gl.via st1 ?_
  show Gl p.tables e below T1 (mkF m 4 #[.val (.ref ba)] [(.int bn)]) G
  obtain ⟨fs, hr, hrun, hended, hW, hsame⟩ := X1.leave (v := some (.int bn)) (fun h => by rw [Bd.returns] at h; cases h)
  have hq : ∀ L, Fr n0 L → Q_asb_len Z ba bn h0 n0 (some (.int bn)) T1.heap L := by
    intro L hN
    rw [e1]
    exact ⟨rfl, hN, rfl⟩
  rw [hG]
  exact Gl.fin (retOut X1 hx Bd.returns rfl (Or.inl ⟨rfl, Or.inl rfl, _, rfl⟩) (hb hby d31_4) hr) ⟨_, hrun, hended, _, _, rfl, hq _ N0, ⟨_, rfl⟩, hW, hsame.mono (by decide) (by decide)⟩
theorem d30_0 : decode jdk_67_method_93_code 0 = .ok (.aload_n 0, 1) := by decide +kernel
theorem d30_1 : decode jdk_67_method_93_code 1 = .ok (.invokespecial 343, 3) := by decide +kernel
theorem d30_4 : decode jdk_67_method_93_code 4 = .ok (.ireturn, 1) := by decide +kernel
theorem ef_sb_len (m : MethodId) (x0 : Addr) : entryFrame m #[(.ref x0)] 1 = mkF m 0 #[.val (.ref x0)] [] := by first | (simp [entryFrame, mkF, argsToLocals, Value.category]; done) | rfl | (simp [entryFrame, mkF, argsToLocals, own_catI, own_catR, *]; done)
def Q_sb_len (Z : State) (ba : Addr) (bn : Int32) (h0 : Heap) (n0 : Nat) (v : Option Value) (h : Heap) (L : List Loc) : Prop := v = some (.int bn) ∧ Fr n0 L ∧ h = h0
set_option maxRecDepth 65536 in
set_option maxHeartbeats 40000000 in
theorem sb_len (l : Launch) (Z : State) (a0 : Array Value) (hw : ∀ d ∈ tables_1, d.before a0 Z = true) (ws : List Jvm.Cond) (ba : Addr) (bn : Int32) (h0 : Heap) (n0 : Nat) (Z0 : n0 ≤ h0.size) (F0_ba : Exa Z h0 ba "java/lang/StringBuilder") (F1_ba_count : Fld Z h0 ba "java/lang/AbstractStringBuilder" "count" "I" (.int bn)) :
    MetFree l (⟨"java/lang/StringBuilder", "length", "()I"⟩ : MethodName) (head1 (Jvm.Cond.code (⟨"java/lang/StringBuilder", "length", "()I"⟩ : MethodName) jdk_67_method_93_code 1 (some .int) :: ws) ({ frames := 1, cells := 0, slots := 0, locals := 12 } : Room)) (fun a U => a = #[(.ref ba)] ∧ Z.Warmed39 U.vm ∧ U.heap = h0) (fun _ _ _ _ _ => True) (fun _ U o U' => ∃ v L, o = .returned v ∧ Q_sb_len Z ba bn h0 n0 v U'.heap L ∧ FrameEnd U o U' L ({ frames := 1, cells := 0, slots := 0, locals := 12 } : Room).cells ({ frames := 1, cells := 0, slots := 0, locals := 12 } : Room).slots) := by
  refine MetFree.of_bodySF (plainFor_of_name pn_4) hisR ?_
  intro p e s m args below meth c s₁ Bd hml0 hP hK
  obtain ⟨rfl, hZ, hh⟩ := hP
  have hx := Bd.exec
  have hby := Bd.bytes
  have hml : c.maxLocals = 1 := hml0
  have hown : s.vm.findClass "java/lang/StringBuilder" = some m.cls := findClass_of_methodNamed Bd.named
  have hnm := (name_of_methodNamed Bd.named Bd.method).1
  have X0 : Stand p l e ({ frames := 1, cells := 0, slots := 0, locals := 12 } : Room) s m #[(.ref ba)] below meth c s₁ [] 0 0 := Stand.of_body Bd
  have e0 : s₁.heap = h0 := by rw [← hh, Bd.state]; rfl
  have N0 := Fr.nil n0
  obtain ⟨G, hG⟩ : ∃ G : State → Prop, G = (fun U' => ∃ o, U'.status = .running ∧ Ended U' below o ∧ ∃ v L, o = .returned v ∧ Q_sb_len Z ba bn h0 n0 v U'.heap L ∧ FrameEnd s o U' L ({ frames := 1, cells := 0, slots := 0, locals := 12 } : Room).cells ({ frames := 1, cells := 0, slots := 0, locals := 12 } : Room).slots) := ⟨_, rfl⟩
  suffices key : Gl p.tables e below s₁ (mkF m 0 #[.val (.ref ba)] []) G by
    obtain ⟨s₂, k1, k2⟩ := key
    rw [hG] at k2
    obtain ⟨o, k3, k4, k5⟩ := k2
    exact ⟨s₂, o, castTop (ef_sb_len m ba) k1, k3, k4, k5⟩
  show Gl p.tables e below s₁ (mkF m 0 #[.val (.ref ba)] []) G
  refine Gl.via (fun _ k => XS.aloadN X0.here hx rfl (hb hby d30_0) rfl rfl k) ?_
  show Gl p.tables e below s₁ (mkF m 1 #[.val (.ref ba)] [(.ref ba)]) G
  obtain ⟨_, _, ⟨T1, L1, k1, n1⟩, -, X1, ⟨Lc1, hQ1, l1, y1, z1⟩, st1⟩ := superBack X0 hx hZ (y := (⟨"java/lang/AbstractStringBuilder", "length", "()I"⟩ : MethodName)) hown (hw _ (List.mem_of_getElem? (i := 166) rfl)) (own_sameM (y := (⟨"java/lang/AbstractStringBuilder", "length", "()I"⟩ : MethodName)) (own_nonface (y := (⟨"java/lang/AbstractStringBuilder", "isLatin1", "()Z"⟩ : MethodName)) (hw _ (List.mem_of_getElem? (i := 171) rfl)) (hw _ (List.mem_of_getElem? (i := 169) rfl))) (hw _ (List.mem_of_getElem? (i := 161) rfl)) (by decide)) (hw _ (List.mem_of_getElem? (i := 162) rfl)) (hw _ (List.mem_of_getElem? (i := 102) rfl)) (by decide) (backOf (W := 0) (asb_len l Z a0 hw [] ba bn h0 n0 Z0 F0_ba F1_ba_count) hZ (hw _ (List.mem_of_getElem? (i := 167) rfl)) (hw _ (List.mem_of_getElem? (i := 87) rfl)) (by decide) (by decide)) e0 (Ins.self F0_ba) (g := (mkF m 1 #[.val (.ref ba)] [(.ref ba)])) rfl (by rw [hml]; rfl) (hw _ (List.mem_of_getElem? (i := 167) rfl)) (argsL := []) (rest := []) (lenOf pd_8 rfl) rfl (by show 2 * 0 + _ ≤ _; exact Nat.le_of_eq rfl) (hb hby d30_1) (fun _ _ => ⟨rfl, e0, (by decide : 0 + 0 ≤ _), (by decide : 0 + 0 ≤ _)⟩)
  dsimp only [Pt.U, Pt.locs, Pt.cells, Pt.slots] at X1 l1 y1 z1 st1 hQ1
  subst l1 y1 z1
  obtain ⟨rfl, N1q, eh1⟩ := hQ1
  have N1_ := Fr.app N0 N1q
  refine Gl.via (fun _ k => st1.trans k) ?_
  show Gl p.tables e below T1 (mkF m 4 #[.val (.ref ba)] [(.int bn)]) G
  obtain ⟨fs, hr, hrun, hended, hW, hsame⟩ := X1.leave (v := some (.int bn)) (fun h => by rw [Bd.returns] at h; cases h)
  have hq : ∀ L, Fr n0 L → Q_sb_len Z ba bn h0 n0 (some (.int bn)) T1.heap L := by
    intro L hN
    rw [eh1]
    exact ⟨rfl, hN, rfl⟩
  rw [hG]
  exact Gl.fin (retOut X1 hx Bd.returns rfl (Or.inl ⟨rfl, Or.inl rfl, _, rfl⟩) (hb hby d30_4) hr) ⟨_, hrun, hended, _, _, rfl, hq _ N1_, ⟨_, rfl⟩, hW, hsame.mono (by decide) (by decide)⟩
theorem d32_0 : decode jdk_68_method_68_code 0 = .ok (.getstatic 18, 3) := by decide +kernel
theorem d32_3 : decode jdk_68_method_68_code 3 = .ok (.ifCond .eq 14, 3) := by decide +kernel
theorem d32_6 : decode jdk_68_method_68_code 6 = .ok (.aload_n 0, 1) := by decide +kernel
theorem d32_7 : decode jdk_68_method_68_code 7 = .ok (.getfield 22, 3) := by decide +kernel
theorem d32_10 : decode jdk_68_method_68_code 10 = .ok (.ifCond .ne 7, 3) := by decide +kernel
theorem d32_13 : decode jdk_68_method_68_code 13 = .ok (.iconst 1, 1) := by decide +kernel
theorem d32_14 : decode jdk_68_method_68_code 14 = .ok (.goto 4, 3) := by decide +kernel
theorem d32_18 : decode jdk_68_method_68_code 18 = .ok (.ireturn, 1) := by decide +kernel
theorem ef_asb_lat (m : MethodId) (x0 : Addr) : entryFrame m #[(.ref x0)] 1 = mkF m 0 #[.val (.ref x0)] [] := by first | (simp [entryFrame, mkF, argsToLocals, Value.category]; done) | rfl | (simp [entryFrame, mkF, argsToLocals, own_catI, own_catR, *]; done)
def Q_asb_lat (Z : State) (ba : Addr) (cps : Int32) (h0 : Heap) (n0 : Nat) (v : Option Value) (h : Heap) (L : List Loc) : Prop := v = some (.int (1 : Int32)) ∧ Fr n0 L ∧ h = h0
set_option maxRecDepth 65536 in
set_option maxHeartbeats 40000000 in
theorem asb_lat (l : Launch) (Z : State) (a0 : Array Value) (hw : ∀ d ∈ tables_1, d.before a0 Z = true) (ws : List Jvm.Cond) (ba : Addr) (cps : Int32) (h0 : Heap) (n0 : Nat) (Z0 : n0 ≤ h0.size) (F0_ba_coder : Fld Z h0 ba "java/lang/AbstractStringBuilder" "coder" "B" (.int (0 : Int32))) (F1_java_lang_String : Sta Z Z.heap "java/lang/String" "COMPACT_STRINGS" "Z" (.int cps)) (F2_ : Old Z n0 h0) (hcps : ¬ (cps = (0 : Int32))) :
    MetFree l (⟨"java/lang/AbstractStringBuilder", "isLatin1", "()Z"⟩ : MethodName) (head1 (Jvm.Cond.code (⟨"java/lang/AbstractStringBuilder", "isLatin1", "()Z"⟩ : MethodName) jdk_68_method_68_code 1 (some .boolean) :: ws) ({ frames := 0, cells := 0, slots := 0, locals := 0 } : Room)) (fun a U => a = #[(.ref ba)] ∧ Z.Warmed39 U.vm ∧ U.heap = h0) (fun _ _ _ _ _ => True) (fun _ U o U' => ∃ v L, o = .returned v ∧ Q_asb_lat Z ba cps h0 n0 v U'.heap L ∧ FrameEnd U o U' L ({ frames := 0, cells := 0, slots := 0, locals := 0 } : Room).cells ({ frames := 0, cells := 0, slots := 0, locals := 0 } : Room).slots) := by
  refine MetFree.of_bodySF (plainFor_of_name pn_3) hisR ?_
  intro p e s m args below meth c s₁ Bd hml0 hP hK
  obtain ⟨rfl, hZ, hh⟩ := hP
  have hx := Bd.exec
  have hby := Bd.bytes
  have hml : c.maxLocals = 1 := hml0
  have hown : s.vm.findClass "java/lang/AbstractStringBuilder" = some m.cls := findClass_of_methodNamed Bd.named
  have hnm := (name_of_methodNamed Bd.named Bd.method).1
  have X0 : Stand p l e ({ frames := 0, cells := 0, slots := 0, locals := 0 } : Room) s m #[(.ref ba)] below meth c s₁ [] 0 0 := Stand.of_body Bd
  have e0 : s₁.heap = h0 := by rw [← hh, Bd.state]; rfl
  have N0 := Fr.nil n0
  obtain ⟨G, hG⟩ : ∃ G : State → Prop, G = (fun U' => ∃ o, U'.status = .running ∧ Ended U' below o ∧ ∃ v L, o = .returned v ∧ Q_asb_lat Z ba cps h0 n0 v U'.heap L ∧ FrameEnd s o U' L ({ frames := 0, cells := 0, slots := 0, locals := 0 } : Room).cells ({ frames := 0, cells := 0, slots := 0, locals := 0 } : Room).slots) := ⟨_, rfl⟩
  suffices key : Gl p.tables e below s₁ (mkF m 0 #[.val (.ref ba)] []) G by
    obtain ⟨s₂, k1, k2⟩ := key
    rw [hG] at k2
    obtain ⟨o, k3, k4, k5⟩ := k2
    exact ⟨s₂, o, castTop (ef_asb_lat m ba) k1, k3, k4, k5⟩
  show Gl p.tables e below s₁ (mkF m 0 #[.val (.ref ba)] []) G
  have G1 : Sta Z h0 "java/lang/String" "COMPACT_STRINGS" "Z" (.int cps) := F1_java_lang_String.ext F2_.2
  obtain ⟨T2, X2, e2, st2⟩ := getS2 X0 hx hZ hown (host := "") (Or.inl (hw _ (List.mem_of_getElem? (i := 90) rfl))) Via.refl e0 G1 (g := (mkF m 0 #[.val (.ref ba)] [])) rfl (hb hby d32_0)
  refine Gl.via st2 ?_
  show Gl p.tables e below T2 (mkF m 3 #[.val (.ref ba)] [(.int cps)]) G
  refine Gl.via (fun _ k => XS.ifNo X2.here hx rfl (hb hby d32_3) rfl ((if0 _ _).trans (feq hcps).1) k) ?_
  show Gl p.tables e below T2 (mkF m 6 #[.val (.ref ba)] []) G
  refine Gl.via (fun _ k => XS.aloadN X2.here hx rfl (hb hby d32_6) rfl rfl k) ?_
  show Gl p.tables e below T2 (mkF m 7 #[.val (.ref ba)] [(.ref ba)]) G
  obtain ⟨T3, X3, e3, st3⟩ := getF X2 hx hZ hown (host := "") (Or.inl (hw _ (List.mem_of_getElem? (i := 93) rfl))) Via.refl e2 F0_ba_coder (g := (mkF m 7 #[.val (.ref ba)] [(.ref ba)])) rfl rfl (hb hby d32_7)
  refine Gl.via st3 ?_
  show Gl p.tables e below T3 (mkF m 10 #[.val (.ref ba)] [(.int (0 : Int32))]) G
  refine Gl.via (fun _ k => XS.ifNo X3.here hx rfl (hb hby d32_10) rfl ((if0 _ _).trans (teq (by decide)).2) k) ?_
  show Gl p.tables e below T3 (mkF m 13 #[.val (.ref ba)] []) G
  refine Gl.via (fun _ k => XS.iconst X3.here hx rfl (hb hby d32_13) k) ?_
  show Gl p.tables e below T3 (mkF m 14 #[.val (.ref ba)] [(.int (1 : Int32))]) G
  refine Gl.via (fun _ k => XS.goto X3.here hx rfl (pc0 := 14) (pc' := 18) rfl (hb hby d32_14) (by decide) (by decide) k) ?_
  show Gl p.tables e below T3 (mkF m 18 #[.val (.ref ba)] [(.int (1 : Int32))]) G
  obtain ⟨fs, hr, hrun, hended, hW, hsame⟩ := X3.leave (v := some (.int (1 : Int32))) (fun h => by rw [Bd.returns] at h; cases h)
  have hq : ∀ L, Fr n0 L → Q_asb_lat Z ba cps h0 n0 (some (.int (1 : Int32))) T3.heap L := by
    intro L hN
    rw [e3]
    exact ⟨rfl, hN, rfl⟩
  rw [hG]
  exact Gl.fin (retN X3 hx (t := .boolean) Bd.returns (by simp) (hb hby d32_18) hr) ⟨_, hrun, hended, _, _, rfl, hq _ N0, ⟨_, rfl⟩, hW, hsame.mono (by decide) (by decide)⟩
theorem pn_5 : plainName "java/util/Arrays" = true := by first | (simp [plainName, overriddenIn]; done) | decide +kernel
theorem d35_0 : decode jdk_65_method_131_code 0 = .ok (.iload_n 1, 1) := by decide +kernel
theorem d35_1 : decode jdk_65_method_131_code 1 = .ok (.iload_n 0, 1) := by decide +kernel
theorem d35_2 : decode jdk_65_method_131_code 2 = .ok (.if_icmp .ge 35, 3) := by decide +kernel
theorem d35_37 : decode jdk_65_method_131_code 37 = .ok (.return_, 1) := by decide +kernel
theorem ef_ar_chk (m : MethodId) (x0 : Int32) (x1 : Int32) : entryFrame m #[(.int x0), (.int x1)] 2 = mkF m 0 #[.val (.int x0), .val (.int x1)] [] := by first | (simp [entryFrame, mkF, argsToLocals, Value.category]; done) | rfl | (simp [entryFrame, mkF, argsToLocals, own_catI, own_catR, *]; done)
def Q_ar_chk (Z : State) (n1 : Int32) (n2 : Int32) (h0 : Heap) (n0 : Nat) (v : Option Value) (h : Heap) (L : List Loc) : Prop := v = none ∧ Fr n0 L ∧ h = h0
set_option maxRecDepth 65536 in
set_option maxHeartbeats 40000000 in
theorem ar_chk (l : Launch) (Z : State) (a0 : Array Value) (hw : ∀ d ∈ tables_1, d.before a0 Z = true) (ws : List Jvm.Cond) (n1 : Int32) (n2 : Int32) (h0 : Heap) (n0 : Nat) (Z0 : n0 ≤ h0.size) (hle : ¬ (n2 < n1)) :
    MetFree l (⟨"java/util/Arrays", "checkLength", "(II)V"⟩ : MethodName) (head1 (Jvm.Cond.code (⟨"java/util/Arrays", "checkLength", "(II)V"⟩ : MethodName) jdk_65_method_131_code 2 none :: ws) ({ frames := 0, cells := 0, slots := 0, locals := 0 } : Room)) (fun a U => a = #[(.int n1), (.int n2)] ∧ Z.Warmed39 U.vm ∧ U.heap = h0) (fun _ _ _ _ _ => True) (fun _ U o U' => ∃ v L, o = .returned v ∧ Q_ar_chk Z n1 n2 h0 n0 v U'.heap L ∧ FrameEnd U o U' L ({ frames := 0, cells := 0, slots := 0, locals := 0 } : Room).cells ({ frames := 0, cells := 0, slots := 0, locals := 0 } : Room).slots) := by
  refine MetFree.of_bodySF (plainFor_of_name pn_5) hisR ?_
  intro p e s m args below meth c s₁ Bd hml0 hP hK
  obtain ⟨rfl, hZ, hh⟩ := hP
  have hx := Bd.exec
  have hby := Bd.bytes
  have hml : c.maxLocals = 2 := hml0
  have hown : s.vm.findClass "java/util/Arrays" = some m.cls := findClass_of_methodNamed Bd.named
  have hnm := (name_of_methodNamed Bd.named Bd.method).1
  have X0 : Stand p l e ({ frames := 0, cells := 0, slots := 0, locals := 0 } : Room) s m #[(.int n1), (.int n2)] below meth c s₁ [] 0 0 := Stand.of_body Bd
  have e0 : s₁.heap = h0 := by rw [← hh, Bd.state]; rfl
  have N0 := Fr.nil n0
  obtain ⟨G, hG⟩ : ∃ G : State → Prop, G = (fun U' => ∃ o, U'.status = .running ∧ Ended U' below o ∧ ∃ v L, o = .returned v ∧ Q_ar_chk Z n1 n2 h0 n0 v U'.heap L ∧ FrameEnd s o U' L ({ frames := 0, cells := 0, slots := 0, locals := 0 } : Room).cells ({ frames := 0, cells := 0, slots := 0, locals := 0 } : Room).slots) := ⟨_, rfl⟩
  suffices key : Gl p.tables e below s₁ (mkF m 0 #[.val (.int n1), .val (.int n2)] []) G by
    obtain ⟨s₂, k1, k2⟩ := key
    rw [hG] at k2
    obtain ⟨o, k3, k4, k5⟩ := k2
    exact ⟨s₂, o, castTop (ef_ar_chk m n1 n2) k1, k3, k4, k5⟩
  show Gl p.tables e below s₁ (mkF m 0 #[.val (.int n1), .val (.int n2)] []) G
  refine Gl.via (fun _ k => XS.iloadN X0.here hx rfl (hb hby d35_0) rfl k) ?_
  show Gl p.tables e below s₁ (mkF m 1 #[.val (.int n1), .val (.int n2)] [(.int n2)]) G
  refine Gl.via (fun _ k => XS.iloadN X0.here hx rfl (hb hby d35_1) rfl k) ?_
  show Gl p.tables e below s₁ (mkF m 2 #[.val (.int n1), .val (.int n2)] [(.int n1), (.int n2)]) G
  refine Gl.via (fun _ k => XS.icmpYes X0.here hx rfl (pc0 := 2) (pc' := 37) rfl (hb hby d35_2) rfl (flt hle).2.1 (by decide) (by decide) k) ?_
  show Gl p.tables e below s₁ (mkF m 37 #[.val (.int n1), .val (.int n2)] []) G
  obtain ⟨fs, hr, hrun, hended, hW, hsame⟩ := X0.leave (v := none) (fun _ => rfl)
  have hq : ∀ L, Fr n0 L → Q_ar_chk Z n1 n2 h0 n0 (none) s₁.heap L := by
    intro L hN
    rw [e0]
    exact ⟨rfl, hN, rfl⟩
  rw [hG]
  exact Gl.fin (X0.returnOut hx Bd.returns (hb hby d35_37) hr) ⟨_, hrun, hended, _, _, rfl, hq _ N0, ⟨_, rfl⟩, hW, hsame.mono (by decide) (by decide)⟩
theorem d36_0 : decode jdk_29_method_69_code 0 = .ok (.iload_n 0, 1) := by decide +kernel
theorem d36_1 : decode jdk_29_method_69_code 1 = .ok (.iload_n 1, 1) := by decide +kernel
theorem d36_2 : decode jdk_29_method_69_code 2 = .ok (.if_icmp .gt 7, 3) := by decide +kernel
theorem d36_9 : decode jdk_29_method_69_code 9 = .ok (.iload_n 1, 1) := by decide +kernel
theorem d36_10 : decode jdk_29_method_69_code 10 = .ok (.ireturn, 1) := by decide +kernel
theorem ef_m_min (m : MethodId) (x0 : Int32) (x1 : Int32) : entryFrame m #[(.int x0), (.int x1)] 2 = mkF m 0 #[.val (.int x0), .val (.int x1)] [] := by first | (simp [entryFrame, mkF, argsToLocals, Value.category]; done) | rfl | (simp [entryFrame, mkF, argsToLocals, own_catI, own_catR, *]; done)
def Q_m_min (Z : State) (n1 : Int32) (n2 : Int32) (h0 : Heap) (n0 : Nat) (v : Option Value) (h : Heap) (L : List Loc) : Prop := v = some (.int n2) ∧ Fr n0 L ∧ h = h0
set_option maxRecDepth 65536 in
set_option maxHeartbeats 40000000 in
theorem m_min (l : Launch) (Z : State) (a0 : Array Value) (hw : ∀ d ∈ tables_1, d.before a0 Z = true) (ws : List Jvm.Cond) (n1 : Int32) (n2 : Int32) (h0 : Heap) (n0 : Nat) (Z0 : n0 ≤ h0.size) (hle : n2 < n1) :
    MetFree l (⟨"java/lang/Math", "min", "(II)I"⟩ : MethodName) (head1 (Jvm.Cond.code (⟨"java/lang/Math", "min", "(II)I"⟩ : MethodName) jdk_29_method_69_code 2 (some .int) :: ws) ({ frames := 0, cells := 0, slots := 0, locals := 0 } : Room)) (fun a U => a = #[(.int n1), (.int n2)] ∧ Z.Warmed39 U.vm ∧ U.heap = h0) (fun _ _ _ _ _ => True) (fun _ U o U' => ∃ v L, o = .returned v ∧ Q_m_min Z n1 n2 h0 n0 v U'.heap L ∧ FrameEnd U o U' L ({ frames := 0, cells := 0, slots := 0, locals := 0 } : Room).cells ({ frames := 0, cells := 0, slots := 0, locals := 0 } : Room).slots) := by
  refine MetFree.of_bodySF (Jvm.Free.JP.mathPlain rfl (by decide +kernel)) hisR ?_
  intro p e s m args below meth c s₁ Bd hml0 hP hK
  obtain ⟨rfl, hZ, hh⟩ := hP
  have hx := Bd.exec
  have hby := Bd.bytes
  have hml : c.maxLocals = 2 := hml0
  have hown : s.vm.findClass "java/lang/Math" = some m.cls := findClass_of_methodNamed Bd.named
  have hnm := (name_of_methodNamed Bd.named Bd.method).1
  have X0 : Stand p l e ({ frames := 0, cells := 0, slots := 0, locals := 0 } : Room) s m #[(.int n1), (.int n2)] below meth c s₁ [] 0 0 := Stand.of_body Bd
  have e0 : s₁.heap = h0 := by rw [← hh, Bd.state]; rfl
  have N0 := Fr.nil n0
  obtain ⟨G, hG⟩ : ∃ G : State → Prop, G = (fun U' => ∃ o, U'.status = .running ∧ Ended U' below o ∧ ∃ v L, o = .returned v ∧ Q_m_min Z n1 n2 h0 n0 v U'.heap L ∧ FrameEnd s o U' L ({ frames := 0, cells := 0, slots := 0, locals := 0 } : Room).cells ({ frames := 0, cells := 0, slots := 0, locals := 0 } : Room).slots) := ⟨_, rfl⟩
  suffices key : Gl p.tables e below s₁ (mkF m 0 #[.val (.int n1), .val (.int n2)] []) G by
    obtain ⟨s₂, k1, k2⟩ := key
    rw [hG] at k2
    obtain ⟨o, k3, k4, k5⟩ := k2
    exact ⟨s₂, o, castTop (ef_m_min m n1 n2) k1, k3, k4, k5⟩
  show Gl p.tables e below s₁ (mkF m 0 #[.val (.int n1), .val (.int n2)] []) G
  refine Gl.via (fun _ k => XS.iloadN X0.here hx rfl (hb hby d36_0) rfl k) ?_
  show Gl p.tables e below s₁ (mkF m 1 #[.val (.int n1), .val (.int n2)] [(.int n1)]) G
  refine Gl.via (fun _ k => XS.iloadN X0.here hx rfl (hb hby d36_1) rfl k) ?_
  show Gl p.tables e below s₁ (mkF m 2 #[.val (.int n1), .val (.int n2)] [(.int n2), (.int n1)]) G
  refine Gl.via (fun _ k => XS.icmpYes X0.here hx rfl (pc0 := 2) (pc' := 9) rfl (hb hby d36_2) rfl (tlt hle).2.2.1 (by decide) (by decide) k) ?_
  show Gl p.tables e below s₁ (mkF m 9 #[.val (.int n1), .val (.int n2)] []) G
  refine Gl.via (fun _ k => XS.iloadN X0.here hx rfl (hb hby d36_9) rfl k) ?_
  show Gl p.tables e below s₁ (mkF m 10 #[.val (.int n1), .val (.int n2)] [(.int n2)]) G
  obtain ⟨fs, hr, hrun, hended, hW, hsame⟩ := X0.leave (v := some (.int n2)) (fun h => by rw [Bd.returns] at h; cases h)
  have hq : ∀ L, Fr n0 L → Q_m_min Z n1 n2 h0 n0 (some (.int n2)) s₁.heap L := by
    intro L hN
    rw [e0]
    exact ⟨rfl, hN, rfl⟩
  rw [hG]
  exact Gl.fin (retOut X0 hx Bd.returns rfl (Or.inl ⟨rfl, Or.inl rfl, _, rfl⟩) (hb hby d36_10) hr) ⟨_, hrun, hended, _, _, rfl, hq _ N0, ⟨_, rfl⟩, hW, hsame.mono (by decide) (by decide)⟩
theorem d34_0 : decode jdk_65_method_133_code 0 = .ok (.iload_n 1, 1) := by decide +kernel
theorem d34_1 : decode jdk_65_method_133_code 1 = .ok (.iload_n 2, 1) := by decide +kernel
theorem d34_2 : decode jdk_65_method_133_code 2 = .ok (.invokestatic 343, 3) := by decide +kernel
theorem d34_5 : decode jdk_65_method_133_code 5 = .ok (.iload_n 2, 1) := by decide +kernel
theorem d34_6 : decode jdk_65_method_133_code 6 = .ok (.iload_n 1, 1) := by decide +kernel
theorem d34_7 : decode jdk_65_method_133_code 7 = .ok (.isub, 1) := by decide +kernel
theorem d34_8 : decode jdk_65_method_133_code 8 = .ok (.istore_n 3, 1) := by decide +kernel
theorem d34_9 : decode jdk_65_method_133_code 9 = .ok (.iload_n 3, 1) := by decide +kernel
theorem d34_10 : decode jdk_65_method_133_code 10 = .ok (.newarray .byte, 2) := by decide +kernel
theorem d34_12 : decode jdk_65_method_133_code 12 = .ok (.astore 4, 2) := by decide +kernel
theorem d34_14 : decode jdk_65_method_133_code 14 = .ok (.aload_n 0, 1) := by decide +kernel
theorem d34_15 : decode jdk_65_method_133_code 15 = .ok (.iload_n 1, 1) := by decide +kernel
theorem d34_16 : decode jdk_65_method_133_code 16 = .ok (.aload 4, 2) := by decide +kernel
theorem d34_18 : decode jdk_65_method_133_code 18 = .ok (.iconst 0, 1) := by decide +kernel
theorem d34_19 : decode jdk_65_method_133_code 19 = .ok (.aload_n 0, 1) := by decide +kernel
theorem d34_20 : decode jdk_65_method_133_code 20 = .ok (.arraylength, 1) := by decide +kernel
theorem d34_21 : decode jdk_65_method_133_code 21 = .ok (.iload_n 1, 1) := by decide +kernel
theorem d34_22 : decode jdk_65_method_133_code 22 = .ok (.isub, 1) := by decide +kernel
theorem d34_23 : decode jdk_65_method_133_code 23 = .ok (.iload_n 3, 1) := by decide +kernel
theorem d34_24 : decode jdk_65_method_133_code 24 = .ok (.invokestatic 304, 3) := by decide +kernel
theorem pd_11 : parseMethodDescriptor "(II)I" = some ⟨[.int, .int], some .int⟩ := by decide +kernel
theorem d34_27 : decode jdk_65_method_133_code 27 = .ok (.invokestatic 150, 3) := by decide +kernel
theorem d34_30 : decode jdk_65_method_133_code 30 = .ok (.aload 4, 2) := by decide +kernel
theorem d34_32 : decode jdk_65_method_133_code 32 = .ok (.areturn, 1) := by decide +kernel
theorem ef_ar_crb (m : MethodId) (x0 : Addr) (x1 : Int32) (x2 : Int32) : entryFrame m #[(.ref x0), (.int x1), (.int x2)] 5 = mkF m 0 #[.val (.ref x0), .val (.int x1), .val (.int x2), .unset, .unset] [] := by first | (simp [entryFrame, mkF, argsToLocals, Value.category]; done) | rfl | (simp [entryFrame, mkF, argsToLocals, own_catI, own_catR, *]; done)
def Q_ar_crb (Z : State) (bv : Addr) (bk : ClassId) (bcs : List Int32) (h0 : Heap) (n0 : Nat) (v : Option Value) (h : Heap) (L : List Loc) : Prop := ∃ (b : Addr), ∃ (k : ClassId), v = some (.ref b) ∧ Fr n0 L ∧ Keep h0 h [] ∧ Arv Z h b k .byte (own_ln bcs) (bcs.map Value.int) (.int (0 : Int32)) ∧ (h0.size ≤ b)
set_option maxRecDepth 65536 in
set_option maxHeartbeats 40000000 in
theorem ar_crb (l : Launch) (Z : State) (a0 : Array Value) (hw : ∀ d ∈ tables_1, d.before a0 Z = true) (ws : List Jvm.Cond) (bv : Addr) (bk : ClassId) (bcs : List Int32) (h0 : Heap) (n0 : Nat) (Z0 : n0 ≤ h0.size) (F0_bv : Arv Z h0 bv bk .byte (16 : Int32) (bcs.map Value.int) (.int (0 : Int32))) (hln : bcs.length ≤ 15) :
    MetFree l (⟨"java/util/Arrays", "copyOfRangeByte", "([BII)[B"⟩ : MethodName) (head1 (Jvm.Cond.code (⟨"java/util/Arrays", "copyOfRangeByte", "([BII)[B"⟩ : MethodName) jdk_65_method_133_code 5 (some (.array .byte)) :: ws) ({ frames := 1, cells := 1, slots := 16, locals := 40 } : Room)) (fun a U => a = #[(.ref bv), (.int (0 : Int32)), (.int (own_ln bcs))] ∧ Z.Warmed39 U.vm ∧ U.heap = h0) (fun _ _ _ _ _ => True) (fun _ U o U' => ∃ v L, o = .returned v ∧ Q_ar_crb Z bv bk bcs h0 n0 v U'.heap L ∧ FrameEnd U o U' L ({ frames := 1, cells := 1, slots := 16, locals := 40 } : Room).cells ({ frames := 1, cells := 1, slots := 16, locals := 40 } : Room).slots) := by
  refine MetFree.of_bodySF (plainFor_of_name pn_5) hisR ?_
  intro p e s m args below meth c s₁ Bd hml0 hP hK
  obtain ⟨rfl, hZ, hh⟩ := hP
  have hx := Bd.exec
  have hby := Bd.bytes
  have hml : c.maxLocals = 5 := hml0
  have hown : s.vm.findClass "java/util/Arrays" = some m.cls := findClass_of_methodNamed Bd.named
  have hnm := (name_of_methodNamed Bd.named Bd.method).1
  have X0 : Stand p l e ({ frames := 1, cells := 1, slots := 16, locals := 40 } : Room) s m #[(.ref bv), (.int (0 : Int32)), (.int (own_ln bcs))] below meth c s₁ [] 0 0 := Stand.of_body Bd
  have e0 : s₁.heap = h0 := by rw [← hh, Bd.state]; rfl
  have N0 := Fr.nil n0
  obtain ⟨G, hG⟩ : ∃ G : State → Prop, G = (fun U' => ∃ o, U'.status = .running ∧ Ended U' below o ∧ ∃ v L, o = .returned v ∧ Q_ar_crb Z bv bk bcs h0 n0 v U'.heap L ∧ FrameEnd s o U' L ({ frames := 1, cells := 1, slots := 16, locals := 40 } : Room).cells ({ frames := 1, cells := 1, slots := 16, locals := 40 } : Room).slots) := ⟨_, rfl⟩
  suffices key : Gl p.tables e below s₁ (mkF m 0 #[.val (.ref bv), .val (.int (0 : Int32)), .val (.int (own_ln bcs)), .unset, .unset] []) G by
    obtain ⟨s₂, k1, k2⟩ := key
    rw [hG] at k2
    obtain ⟨o, k3, k4, k5⟩ := k2
    exact ⟨s₂, o, castTop (ef_ar_crb m bv (0 : Int32) (own_ln bcs)) k1, k3, k4, k5⟩
  show Gl p.tables e below s₁ (mkF m 0 #[.val (.ref bv), .val (.int (0 : Int32)), .val (.int (own_ln bcs)), .unset, .unset] []) G
  refine Gl.via (fun _ k => XS.iloadN X0.here hx rfl (hb hby d34_0) rfl k) ?_
  show Gl p.tables e below s₁ (mkF m 1 #[.val (.ref bv), .val (.int (0 : Int32)), .val (.int (own_ln bcs)), .unset, .unset] [(.int (0 : Int32))]) G
  refine Gl.via (fun _ k => XS.iloadN X0.here hx rfl (hb hby d34_1) rfl k) ?_
  show Gl p.tables e below s₁ (mkF m 2 #[.val (.ref bv), .val (.int (0 : Int32)), .val (.int (own_ln bcs)), .unset, .unset] [(.int (own_ln bcs)), (.int (0 : Int32))]) G
  obtain ⟨_, _, ⟨T1, L1, k1, n1⟩, -, X1, ⟨Lc1, hQ1, l1, y1, z1⟩, st1⟩ := Jvm.LawKit.callS X0 hx (y := (⟨"java/util/Arrays", "checkLength", "(II)V"⟩ : MethodName)) hown (mvT hZ (hw _ (List.mem_of_getElem? (i := 180) rfl))) (mvT hZ (hw _ (List.mem_of_getElem? (i := 181) rfl))) (mvT hZ (hw _ (List.mem_of_getElem? (i := 175) rfl))) (mvT hZ (hw _ (List.mem_of_getElem? (i := 182) rfl))) (by decide) (backOf (W := 0) (ar_chk l Z a0 hw [] (0 : Int32) (own_ln bcs) h0 n0 Z0 (own_ln0 (by omega))) hZ (hw _ (List.mem_of_getElem? (i := 182) rfl)) (hw _ (List.mem_of_getElem? (i := 175) rfl)) (by decide) (by decide)) (g := (mkF m 2 #[.val (.ref bv), .val (.int (0 : Int32)), .val (.int (own_ln bcs)), .unset, .unset] [(.int (own_ln bcs)), (.int (0 : Int32))])) rfl (by rw [hml]; rfl) (argsL := [(.int (0 : Int32)), (.int (own_ln bcs))]) (rest := []) (lenOf pd_2 rfl) rfl (by show 2 * 0 + _ ≤ _; exact Nat.le_of_eq rfl) (hb hby d34_2) (fun _ _ => ⟨rfl, e0, (by decide : 0 + 0 ≤ _), (by decide : 0 + 0 ≤ _)⟩)
  dsimp only [Pt.U, Pt.locs, Pt.cells, Pt.slots] at X1 l1 y1 z1 st1 hQ1
  subst l1 y1 z1
  obtain ⟨rfl, N1q, eh1⟩ := hQ1
  have N1_ := Fr.app N0 N1q
  refine Gl.via (fun _ k => st1 _ k) ?_
  show Gl p.tables e below T1 (mkF m 5 #[.val (.ref bv), .val (.int (0 : Int32)), .val (.int (own_ln bcs)), .unset, .unset] []) G
  refine Gl.via (fun _ k => XS.iloadN X1.here hx rfl (hb hby d34_5) rfl k) ?_
  show Gl p.tables e below T1 (mkF m 6 #[.val (.ref bv), .val (.int (0 : Int32)), .val (.int (own_ln bcs)), .unset, .unset] [(.int (own_ln bcs))]) G
  refine Gl.via (fun _ k => XS.iloadN X1.here hx rfl (hb hby d34_6) rfl k) ?_
  show Gl p.tables e below T1 (mkF m 7 #[.val (.ref bv), .val (.int (0 : Int32)), .val (.int (own_ln bcs)), .unset, .unset] [(.int (0 : Int32)), (.int (own_ln bcs))]) G
  refine Gl.via (fun _ k => XS.isub X1.here hx rfl (hb hby d34_7) rfl k) ?_
  show Gl p.tables e below T1 (mkF m 8 #[.val (.ref bv), .val (.int (0 : Int32)), .val (.int (own_ln bcs)), .unset, .unset] [(.int ((own_ln bcs) - (0 : Int32)))]) G
  rw [show ((own_ln bcs) - (0 : Int32)) = (own_ln bcs) from (own_sub0 _)]
  show Gl p.tables e below T1 (mkF m 8 #[.val (.ref bv), .val (.int (0 : Int32)), .val (.int (own_ln bcs)), .unset, .unset] [(.int (own_ln bcs))]) G
  refine Gl.via (fun _ k => XS.istoreN X1.here hx rfl (hb hby d34_8) rfl (l' := #[.val (.ref bv), .val (.int (0 : Int32)), .val (.int (own_ln bcs)), .val (.int (own_ln bcs)), .unset]) rfl k) ?_
  show Gl p.tables e below T1 (mkF m 9 #[.val (.ref bv), .val (.int (0 : Int32)), .val (.int (own_ln bcs)), .val (.int (own_ln bcs)), .unset] []) G
  refine Gl.via (fun _ k => XS.iloadN X1.here hx rfl (hb hby d34_9) rfl k) ?_
  show Gl p.tables e below T1 (mkF m 10 #[.val (.ref bv), .val (.int (0 : Int32)), .val (.int (own_ln bcs)), .val (.int (own_ln bcs)), .unset] [(.int (own_ln bcs))]) G
  obtain ⟨T2, h2, k2, X2, e2, E2, A2, st2⟩ := newP X1 hx hZ (hw _ (List.mem_of_getElem? (i := 23) rfl)) eh1 (g := (mkF m 10 #[.val (.ref bv), .val (.int (0 : Int32)), .val (.int (own_ln bcs)), .val (.int (own_ln bcs)), .unset] [(.int (own_ln bcs))])) rfl (hb hby d34_10) rfl (own_ln0 (by omega)) (cap := 16) (by rw [own_lnN (by omega)]; omega) (by decide) (by decide) (by decide)
  obtain ⟨b2, g2⟩ : ∃ z, z = h0.size := ⟨_, rfl⟩
  rw [← g2] at A2 st2
  have ne3 : bv ≠ b2 := Nat.ne_of_lt (Nat.lt_of_lt_of_le F0_bv.lt (Nat.le_of_eq g2.symm))
  have ge4 : n0 ≤ b2 := Nat.le_trans Z0 (Nat.le_of_eq g2.symm)
  have gz5 : h0.size ≤ b2 := Nat.le_trans (Nat.le_refl h0.size) (Nat.le_of_eq g2.symm)
  refine Gl.via st2 ?_
  have Z6 : n0 ≤ h2.size := Nat.le_trans Z0 E2.1
  have Y7 : h0.size ≤ h2.size := Nat.le_trans (Nat.le_refl h0.size) E2.1
  have V8 : Arv Z h2 b2 k2 .byte (own_ln bcs) [] (.int (0 : Int32)) := Arv.new A2 (own_ln0 (by omega))
  show Gl p.tables e below T2 (mkF m 12 #[.val (.ref bv), .val (.int (0 : Int32)), .val (.int (own_ln bcs)), .val (.int (own_ln bcs)), .unset] [(.ref b2)]) G
  refine Gl.via (fun _ k => XS.astore X2.here hx rfl (hb hby d34_12) rfl rfl (l' := #[.val (.ref bv), .val (.int (0 : Int32)), .val (.int (own_ln bcs)), .val (.int (own_ln bcs)), .val (.ref b2)]) rfl k) ?_
  show Gl p.tables e below T2 (mkF m 14 #[.val (.ref bv), .val (.int (0 : Int32)), .val (.int (own_ln bcs)), .val (.int (own_ln bcs)), .val (.ref b2)] []) G
  refine Gl.via (fun _ k => XS.aloadN X2.here hx rfl (hb hby d34_14) rfl rfl k) ?_
  show Gl p.tables e below T2 (mkF m 15 #[.val (.ref bv), .val (.int (0 : Int32)), .val (.int (own_ln bcs)), .val (.int (own_ln bcs)), .val (.ref b2)] [(.ref bv)]) G
  refine Gl.via (fun _ k => XS.iloadN X2.here hx rfl (hb hby d34_15) rfl k) ?_
  show Gl p.tables e below T2 (mkF m 16 #[.val (.ref bv), .val (.int (0 : Int32)), .val (.int (own_ln bcs)), .val (.int (own_ln bcs)), .val (.ref b2)] [(.int (0 : Int32)), (.ref bv)]) G
  refine Gl.via (fun _ k => XS.aload X2.here hx rfl (hb hby d34_16) rfl rfl k) ?_
  show Gl p.tables e below T2 (mkF m 18 #[.val (.ref bv), .val (.int (0 : Int32)), .val (.int (own_ln bcs)), .val (.int (own_ln bcs)), .val (.ref b2)] [(.ref b2), (.int (0 : Int32)), (.ref bv)]) G
  refine Gl.via (fun _ k => XS.iconst X2.here hx rfl (hb hby d34_18) k) ?_
  show Gl p.tables e below T2 (mkF m 19 #[.val (.ref bv), .val (.int (0 : Int32)), .val (.int (own_ln bcs)), .val (.int (own_ln bcs)), .val (.ref b2)] [(.int (0 : Int32)), (.ref b2), (.int (0 : Int32)), (.ref bv)]) G
  refine Gl.via (fun _ k => XS.aloadN X2.here hx rfl (hb hby d34_19) rfl rfl k) ?_
  show Gl p.tables e below T2 (mkF m 20 #[.val (.ref bv), .val (.int (0 : Int32)), .val (.int (own_ln bcs)), .val (.int (own_ln bcs)), .val (.ref b2)] [(.ref bv), (.int (0 : Int32)), (.ref b2), (.int (0 : Int32)), (.ref bv)]) G
  have G9 : Arv Z h2 bv bk .byte (16 : Int32) (bcs.map Value.int) (.int (0 : Int32)) := (F0_bv.ext E2)
  obtain ⟨cl10, Ar10, -, S10, N10, -, -⟩ := id G9
  refine Gl.via (fun _ k => X2.arraylength hx (by rw [e2]; exact Ar10.1) (State.isArrayOf_alike hZ.alike Ar10.2.1) (g := (mkF m 20 #[.val (.ref bv), .val (.int (0 : Int32)), .val (.int (own_ln bcs)), .val (.int (own_ln bcs)), .val (.ref b2)] [(.ref bv), (.int (0 : Int32)), (.ref b2), (.int (0 : Int32)), (.ref bv)])) rfl rfl (hb hby d34_20) _ k) ?_
  rw [len_of S10 N10]
  show Gl p.tables e below T2 (mkF m 21 #[.val (.ref bv), .val (.int (0 : Int32)), .val (.int (own_ln bcs)), .val (.int (own_ln bcs)), .val (.ref b2)] [(.int (16 : Int32)), (.int (0 : Int32)), (.ref b2), (.int (0 : Int32)), (.ref bv)]) G
  refine Gl.via (fun _ k => XS.iloadN X2.here hx rfl (hb hby d34_21) rfl k) ?_
  show Gl p.tables e below T2 (mkF m 22 #[.val (.ref bv), .val (.int (0 : Int32)), .val (.int (own_ln bcs)), .val (.int (own_ln bcs)), .val (.ref b2)] [(.int (0 : Int32)), (.int (16 : Int32)), (.int (0 : Int32)), (.ref b2), (.int (0 : Int32)), (.ref bv)]) G
  refine Gl.via (fun _ k => XS.isub X2.here hx rfl (hb hby d34_22) rfl k) ?_
  show Gl p.tables e below T2 (mkF m 23 #[.val (.ref bv), .val (.int (0 : Int32)), .val (.int (own_ln bcs)), .val (.int (own_ln bcs)), .val (.ref b2)] [(.int (16 : Int32)), (.int (0 : Int32)), (.ref b2), (.int (0 : Int32)), (.ref bv)]) G
  refine Gl.via (fun _ k => XS.iloadN X2.here hx rfl (hb hby d34_23) rfl k) ?_
  show Gl p.tables e below T2 (mkF m 24 #[.val (.ref bv), .val (.int (0 : Int32)), .val (.int (own_ln bcs)), .val (.int (own_ln bcs)), .val (.ref b2)] [(.int (own_ln bcs)), (.int (16 : Int32)), (.int (0 : Int32)), (.ref b2), (.int (0 : Int32)), (.ref bv)]) G
  obtain ⟨_, _, ⟨T11, L11, k11, n11⟩, -, X11, ⟨Lc11, hQ11, l11, y11, z11⟩, st11⟩ := Jvm.LawKit.callS X2 hx (y := (⟨"java/lang/Math", "min", "(II)I"⟩ : MethodName)) hown (mvT hZ (hw _ (List.mem_of_getElem? (i := 183) rfl))) (mvT hZ (hw _ (List.mem_of_getElem? (i := 184) rfl))) (mvT hZ (hw _ (List.mem_of_getElem? (i := 185) rfl))) (mvT hZ (hw _ (List.mem_of_getElem? (i := 186) rfl))) (by decide) (backOf (W := 4) (m_min l Z a0 hw [] (16 : Int32) (own_ln bcs) h2 n0 Z6 (own_lt16 (by omega))) hZ (hw _ (List.mem_of_getElem? (i := 186) rfl)) (hw _ (List.mem_of_getElem? (i := 185) rfl)) (by decide) (by decide)) (g := (mkF m 24 #[.val (.ref bv), .val (.int (0 : Int32)), .val (.int (own_ln bcs)), .val (.int (own_ln bcs)), .val (.ref b2)] [(.int (own_ln bcs)), (.int (16 : Int32)), (.int (0 : Int32)), (.ref b2), (.int (0 : Int32)), (.ref bv)])) rfl (by rw [hml]; rfl) (argsL := [(.int (16 : Int32)), (.int (own_ln bcs))]) (rest := [(.int (0 : Int32)), (.ref b2), (.int (0 : Int32)), (.ref bv)]) (lenOf pd_11 rfl) rfl (by show 2 * 0 + _ ≤ _; exact Nat.le_of_eq rfl) (hb hby d34_24) (fun _ _ => ⟨rfl, e2, (by decide : 1 + 0 ≤ _), (by decide : 16 + 0 ≤ _)⟩)
  dsimp only [Pt.U, Pt.locs, Pt.cells, Pt.slots] at X11 l11 y11 z11 st11 hQ11
  subst l11 y11 z11
  obtain ⟨rfl, N11q, eh11⟩ := hQ11
  have N11_ := Fr.app N1_ N11q
  refine Gl.via (fun _ k => st11 _ k) ?_
  show Gl p.tables e below T11 (mkF m 27 #[.val (.ref bv), .val (.int (0 : Int32)), .val (.int (own_ln bcs)), .val (.int (own_ln bcs)), .val (.ref b2)] [(.int (own_ln bcs)), (.int (0 : Int32)), (.ref b2), (.int (0 : Int32)), (.ref bv)]) G
  have V12 : Arv Z h2 b2 k2 .byte (own_ln bcs) ((([] : List Int32).map Value.int) ++ List.replicate 16 (Value.int (0 : Int32))) (.int (0 : Int32)) := Arv.pad (vs := ([] : List Int32).map Value.int) V8 (pad_rep _ _ 16)
  obtain ⟨T13, h13, L13, X13, e13, N13_, K13, V13, st13⟩ := cpA X11 hx hZ hown (hw _ (List.mem_of_getElem? (i := 187) rfl)) (hw _ (List.mem_of_getElem? (i := 141) rfl)) (hw _ (List.mem_of_getElem? (i := 139) rfl)) (hw _ (List.mem_of_getElem? (i := 140) rfl)) eh11 (us := (bcs.map Value.int)) G9 V12 (Or.inl ⟨rfl, rfl⟩) (by decide) (by decide) (own_ln0 (by omega)) (by rw [own_lnN (cs := bcs) (by omega)]; show 0 + _ ≤ 16; omega) (by rw [own_lnN (cs := bcs) (by omega)]; show 0 + _ ≤ _; omega) (own_us (by omega)) (by rw [own_lnN (cs := bcs) (by omega)]; show 0 + _ ≤ _; simp; omega) N11_ ge4 (g := (mkF m 27 #[.val (.ref bv), .val (.int (0 : Int32)), .val (.int (own_ln bcs)), .val (.int (own_ln bcs)), .val (.ref b2)] [(.int (own_ln bcs)), (.int (0 : Int32)), (.ref b2), (.int (0 : Int32)), (.ref bv)])) rfl (by rw [hml]; rfl) rfl (hb hby d34_27) (by decide) (W := 0) (by show 2 * 0 + _ ≤ _; exact Nat.le_of_eq rfl) (by decide)
  have V14 : Arv Z h13 b2 k2 .byte (own_ln bcs) (bcs.map Value.int) (.int (0 : Int32)) := own_cpy (bcs := []) (by decide) (by omega) V13
  refine Gl.via st13 ?_
  have Z15 : n0 ≤ h13.size := Nat.le_trans Z6 K13.1
  have Y16 : h0.size ≤ h13.size := Nat.le_trans Y7 K13.1
  show Gl p.tables e below T13 (mkF m 30 #[.val (.ref bv), .val (.int (0 : Int32)), .val (.int (own_ln bcs)), .val (.int (own_ln bcs)), .val (.ref b2)] []) G
  refine Gl.via (fun _ k => XS.aload X13.here hx rfl (hb hby d34_30) rfl rfl k) ?_
  show Gl p.tables e below T13 (mkF m 32 #[.val (.ref bv), .val (.int (0 : Int32)), .val (.int (own_ln bcs)), .val (.int (own_ln bcs)), .val (.ref b2)] [(.ref b2)]) G
  obtain ⟨fs, hr, hrun, hended, hW, hsame⟩ := X13.leave (v := some (.ref b2)) (fun h => by rw [Bd.returns] at h; cases h)
  have hq : ∀ L, Fr n0 L → Q_ar_crb Z bv bk bcs h0 n0 (some (.ref b2)) T13.heap L := by
    intro L hN
    rw [e13]
    exact ⟨b2, k2, rfl, hN, (((Keep.refl h0 []).ext E2).trans K13 (allS (Or.inr gz5) all0)), V14, gz5⟩
  rw [hG]
  exact Gl.fin (retOut X13 hx Bd.returns rfl (Or.inr (Or.inr (Or.inr (Or.inr ⟨rfl, rfl, rfl⟩)))) (hb hby d34_32) hr) ⟨_, hrun, hended, _, _, rfl, hq _ N13_, ⟨_, rfl⟩, hW, hsame.mono (by decide) (by decide)⟩
theorem d33_0 : decode jdk_65_method_132_code 0 = .ok (.iload_n 1, 1) := by decide +kernel
theorem d33_1 : decode jdk_65_method_132_code 1 = .ok (.ifCond .ne 9, 3) := by decide +kernel
theorem d33_4 : decode jdk_65_method_132_code 4 = .ok (.iload_n 2, 1) := by decide +kernel
theorem d33_5 : decode jdk_65_method_132_code 5 = .ok (.aload_n 0, 1) := by decide +kernel
theorem d33_6 : decode jdk_65_method_132_code 6 = .ok (.arraylength, 1) := by decide +kernel
theorem d33_7 : decode jdk_65_method_132_code 7 = .ok (.if_icmp .eq 10, 3) := by decide +kernel
theorem d33_10 : decode jdk_65_method_132_code 10 = .ok (.aload_n 0, 1) := by decide +kernel
theorem d33_11 : decode jdk_65_method_132_code 11 = .ok (.iload_n 1, 1) := by decide +kernel
theorem d33_12 : decode jdk_65_method_132_code 12 = .ok (.iload_n 2, 1) := by decide +kernel
theorem d33_13 : decode jdk_65_method_132_code 13 = .ok (.invokestatic 339, 3) := by decide +kernel
theorem pd_12 : parseMethodDescriptor "([BII)[B" = some ⟨[(.array .byte), .int, .int], some (.array .byte)⟩ := by decide +kernel
theorem d33_16 : decode jdk_65_method_132_code 16 = .ok (.areturn, 1) := by decide +kernel
theorem ef_ar_cr (m : MethodId) (x0 : Addr) (x1 : Int32) (x2 : Int32) : entryFrame m #[(.ref x0), (.int x1), (.int x2)] 3 = mkF m 0 #[.val (.ref x0), .val (.int x1), .val (.int x2)] [] := by first | (simp [entryFrame, mkF, argsToLocals, Value.category]; done) | rfl | (simp [entryFrame, mkF, argsToLocals, own_catI, own_catR, *]; done)
def Q_ar_cr (Z : State) (bv : Addr) (bk : ClassId) (bcs : List Int32) (h0 : Heap) (n0 : Nat) (v : Option Value) (h : Heap) (L : List Loc) : Prop := ∃ (b : Addr), ∃ (k : ClassId), v = some (.ref b) ∧ Fr n0 L ∧ Keep h0 h [] ∧ Arv Z h b k .byte (own_ln bcs) (bcs.map Value.int) (.int (0 : Int32)) ∧ (h0.size ≤ b)
set_option maxRecDepth 65536 in
set_option maxHeartbeats 40000000 in
theorem ar_cr (l : Launch) (Z : State) (a0 : Array Value) (hw : ∀ d ∈ tables_1, d.before a0 Z = true) (ws : List Jvm.Cond) (bv : Addr) (bk : ClassId) (bcs : List Int32) (h0 : Heap) (n0 : Nat) (Z0 : n0 ≤ h0.size) (F0_bv : Arv Z h0 bv bk .byte (16 : Int32) (bcs.map Value.int) (.int (0 : Int32))) (hln : bcs.length ≤ 15) :
    MetFree l (⟨"java/util/Arrays", "copyOfRange", "([BII)[B"⟩ : MethodName) (head1 (Jvm.Cond.code (⟨"java/util/Arrays", "copyOfRange", "([BII)[B"⟩ : MethodName) jdk_65_method_132_code 3 (some (.array .byte)) :: ws) ({ frames := 2, cells := 1, slots := 16, locals := 56 } : Room)) (fun a U => a = #[(.ref bv), (.int (0 : Int32)), (.int (own_ln bcs))] ∧ Z.Warmed39 U.vm ∧ U.heap = h0) (fun _ _ _ _ _ => True) (fun _ U o U' => ∃ v L, o = .returned v ∧ Q_ar_cr Z bv bk bcs h0 n0 v U'.heap L ∧ FrameEnd U o U' L ({ frames := 2, cells := 1, slots := 16, locals := 56 } : Room).cells ({ frames := 2, cells := 1, slots := 16, locals := 56 } : Room).slots) := by
  refine MetFree.of_bodySF (plainFor_of_name pn_5) hisR ?_
  intro p e s m args below meth c s₁ Bd hml0 hP hK
  obtain ⟨rfl, hZ, hh⟩ := hP
  have hx := Bd.exec
  have hby := Bd.bytes
  have hml : c.maxLocals = 3 := hml0
  have hown : s.vm.findClass "java/util/Arrays" = some m.cls := findClass_of_methodNamed Bd.named
  have hnm := (name_of_methodNamed Bd.named Bd.method).1
  have X0 : Stand p l e ({ frames := 2, cells := 1, slots := 16, locals := 56 } : Room) s m #[(.ref bv), (.int (0 : Int32)), (.int (own_ln bcs))] below meth c s₁ [] 0 0 := Stand.of_body Bd
  have e0 : s₁.heap = h0 := by rw [← hh, Bd.state]; rfl
  have N0 := Fr.nil n0
  obtain ⟨G, hG⟩ : ∃ G : State → Prop, G = (fun U' => ∃ o, U'.status = .running ∧ Ended U' below o ∧ ∃ v L, o = .returned v ∧ Q_ar_cr Z bv bk bcs h0 n0 v U'.heap L ∧ FrameEnd s o U' L ({ frames := 2, cells := 1, slots := 16, locals := 56 } : Room).cells ({ frames := 2, cells := 1, slots := 16, locals := 56 } : Room).slots) := ⟨_, rfl⟩
  suffices key : Gl p.tables e below s₁ (mkF m 0 #[.val (.ref bv), .val (.int (0 : Int32)), .val (.int (own_ln bcs))] []) G by
    obtain ⟨s₂, k1, k2⟩ := key
    rw [hG] at k2
    obtain ⟨o, k3, k4, k5⟩ := k2
    exact ⟨s₂, o, castTop (ef_ar_cr m bv (0 : Int32) (own_ln bcs)) k1, k3, k4, k5⟩
  show Gl p.tables e below s₁ (mkF m 0 #[.val (.ref bv), .val (.int (0 : Int32)), .val (.int (own_ln bcs))] []) G
  refine Gl.via (fun _ k => XS.iloadN X0.here hx rfl (hb hby d33_0) rfl k) ?_
  show Gl p.tables e below s₁ (mkF m 1 #[.val (.ref bv), .val (.int (0 : Int32)), .val (.int (own_ln bcs))] [(.int (0 : Int32))]) G
  refine Gl.via (fun _ k => XS.ifNo X0.here hx rfl (hb hby d33_1) rfl ((if0 _ _).trans (teq (by decide)).2) k) ?_
  show Gl p.tables e below s₁ (mkF m 4 #[.val (.ref bv), .val (.int (0 : Int32)), .val (.int (own_ln bcs))] []) G
  refine Gl.via (fun _ k => XS.iloadN X0.here hx rfl (hb hby d33_4) rfl k) ?_
  show Gl p.tables e below s₁ (mkF m 5 #[.val (.ref bv), .val (.int (0 : Int32)), .val (.int (own_ln bcs))] [(.int (own_ln bcs))]) G
  refine Gl.via (fun _ k => XS.aloadN X0.here hx rfl (hb hby d33_5) rfl rfl k) ?_
  show Gl p.tables e below s₁ (mkF m 6 #[.val (.ref bv), .val (.int (0 : Int32)), .val (.int (own_ln bcs))] [(.ref bv), (.int (own_ln bcs))]) G
  obtain ⟨cl1, Ar1, -, S1, N1, -, -⟩ := id F0_bv
  refine Gl.via (fun _ k => X0.arraylength hx (by rw [e0]; exact Ar1.1) (State.isArrayOf_alike hZ.alike Ar1.2.1) (g := (mkF m 6 #[.val (.ref bv), .val (.int (0 : Int32)), .val (.int (own_ln bcs))] [(.ref bv), (.int (own_ln bcs))])) rfl rfl (hb hby d33_6) _ k) ?_
  rw [len_of S1 N1]
  show Gl p.tables e below s₁ (mkF m 7 #[.val (.ref bv), .val (.int (0 : Int32)), .val (.int (own_ln bcs))] [(.int (16 : Int32)), (.int (own_ln bcs))]) G
  refine Gl.via (fun _ k => XS.icmpNo X0.here hx rfl (hb hby d33_7) rfl (feq (own_n16 (by omega))).1 k) ?_
  show Gl p.tables e below s₁ (mkF m 10 #[.val (.ref bv), .val (.int (0 : Int32)), .val (.int (own_ln bcs))] []) G
  refine Gl.via (fun _ k => XS.aloadN X0.here hx rfl (hb hby d33_10) rfl rfl k) ?_
  show Gl p.tables e below s₁ (mkF m 11 #[.val (.ref bv), .val (.int (0 : Int32)), .val (.int (own_ln bcs))] [(.ref bv)]) G
  refine Gl.via (fun _ k => XS.iloadN X0.here hx rfl (hb hby d33_11) rfl k) ?_
  show Gl p.tables e below s₁ (mkF m 12 #[.val (.ref bv), .val (.int (0 : Int32)), .val (.int (own_ln bcs))] [(.int (0 : Int32)), (.ref bv)]) G
  refine Gl.via (fun _ k => XS.iloadN X0.here hx rfl (hb hby d33_12) rfl k) ?_
  show Gl p.tables e below s₁ (mkF m 13 #[.val (.ref bv), .val (.int (0 : Int32)), .val (.int (own_ln bcs))] [(.int (own_ln bcs)), (.int (0 : Int32)), (.ref bv)]) G
  obtain ⟨_, _, ⟨T2, L2, k2, n2⟩, -, X2, ⟨Lc2, hQ2, l2, y2, z2⟩, st2⟩ := Jvm.LawKit.callS X0 hx (y := (⟨"java/util/Arrays", "copyOfRangeByte", "([BII)[B"⟩ : MethodName)) hown (mvT hZ (hw _ (List.mem_of_getElem? (i := 177) rfl))) (mvT hZ (hw _ (List.mem_of_getElem? (i := 178) rfl))) (mvT hZ (hw _ (List.mem_of_getElem? (i := 175) rfl))) (mvT hZ (hw _ (List.mem_of_getElem? (i := 179) rfl))) (by decide) (backOf (W := 0) (ar_crb l Z a0 hw [] bv bk bcs h0 n0 Z0 F0_bv hln) hZ (hw _ (List.mem_of_getElem? (i := 179) rfl)) (hw _ (List.mem_of_getElem? (i := 175) rfl)) (by decide) (by decide)) (g := (mkF m 13 #[.val (.ref bv), .val (.int (0 : Int32)), .val (.int (own_ln bcs))] [(.int (own_ln bcs)), (.int (0 : Int32)), (.ref bv)])) rfl (by rw [hml]; rfl) (argsL := [(.ref bv), (.int (0 : Int32)), (.int (own_ln bcs))]) (rest := []) (lenOf pd_12 rfl) rfl (by show 2 * 0 + _ ≤ _; exact Nat.le_of_eq rfl) (hb hby d33_13) (fun _ _ => ⟨rfl, e0, (by decide : 0 + 1 ≤ _), (by decide : 0 + 16 ≤ _)⟩)
  dsimp only [Pt.U, Pt.locs, Pt.cells, Pt.slots] at X2 l2 y2 z2 st2 hQ2
  subst l2 y2 z2
  obtain ⟨b_2, k_2, rfl, N2q, K2, P3, R4⟩ := hQ2
  have N2_ := Fr.app N0 N2q
  refine Gl.via (fun _ k => st2 _ k) ?_
  have ne5 : bv ≠ b_2 := Nat.ne_of_lt (Nat.lt_of_lt_of_le F0_bv.lt R4)
  have ge6 : n0 ≤ b_2 := Nat.le_trans Z0 R4
  have gz7 : h0.size ≤ b_2 := Nat.le_trans (Nat.le_refl h0.size) R4
  have Z8 : n0 ≤ T2.heap.size := Nat.le_trans Z0 K2.1
  have Y9 : h0.size ≤ T2.heap.size := Nat.le_trans (Nat.le_refl h0.size) K2.1
  show Gl p.tables e below T2 (mkF m 16 #[.val (.ref bv), .val (.int (0 : Int32)), .val (.int (own_ln bcs))] [(.ref b_2)]) G
  obtain ⟨fs, hr, hrun, hended, hW, hsame⟩ := X2.leave (v := some (.ref b_2)) (fun h => by rw [Bd.returns] at h; cases h)
  have hq : ∀ L, Fr n0 L → Q_ar_cr Z bv bk bcs h0 n0 (some (.ref b_2)) T2.heap L := by
    intro L hN
    exact ⟨b_2, k_2, rfl, hN, ((Keep.refl h0 []).trans K2 all0), P3, R4⟩
  rw [hG]
  exact Gl.fin (retOut X2 hx Bd.returns rfl (Or.inr (Or.inr (Or.inr (Or.inr ⟨rfl, rfl, rfl⟩)))) (hb hby d33_16) hr) ⟨_, hrun, hended, _, _, rfl, hq _ N2_, ⟨_, rfl⟩, hW, hsame.mono (by decide) (by decide)⟩
theorem d28_0 : decode jdk_42_method_150_code 0 = .ok (.aload_n 0, 1) := by decide +kernel
theorem d28_1 : decode jdk_42_method_150_code 1 = .ok (.invokespecial 1, 3) := by decide +kernel
theorem d28_4 : decode jdk_42_method_150_code 4 = .ok (.aload_n 1, 1) := by decide +kernel
theorem d28_5 : decode jdk_42_method_150_code 5 = .ok (.invokevirtual 552, 3) := by decide +kernel
theorem pd_13 : parseMethodDescriptor "()[B" = some ⟨[], some (.array .byte)⟩ := by decide +kernel
theorem d28_8 : decode jdk_42_method_150_code 8 = .ok (.astore_n 3, 1) := by decide +kernel
theorem d28_9 : decode jdk_42_method_150_code 9 = .ok (.aload_n 1, 1) := by decide +kernel
theorem d28_10 : decode jdk_42_method_150_code 10 = .ok (.invokevirtual 549, 3) := by decide +kernel
theorem d28_13 : decode jdk_42_method_150_code 13 = .ok (.istore 4, 2) := by decide +kernel
theorem d28_15 : decode jdk_42_method_150_code 15 = .ok (.aload_n 1, 1) := by decide +kernel
theorem d28_16 : decode jdk_42_method_150_code 16 = .ok (.invokevirtual 1047, 3) := by decide +kernel
theorem d28_19 : decode jdk_42_method_150_code 19 = .ok (.ifCond .eq 22, 3) := by decide +kernel
theorem d28_22 : decode jdk_42_method_150_code 22 = .ok (.aload_n 0, 1) := by decide +kernel
theorem d28_23 : decode jdk_42_method_150_code 23 = .ok (.iconst 0, 1) := by decide +kernel
theorem d28_24 : decode jdk_42_method_150_code 24 = .ok (.putfield 15, 3) := by decide +kernel
theorem d28_27 : decode jdk_42_method_150_code 27 = .ok (.aload_n 0, 1) := by decide +kernel
theorem d28_28 : decode jdk_42_method_150_code 28 = .ok (.aload_n 3, 1) := by decide +kernel
theorem d28_29 : decode jdk_42_method_150_code 29 = .ok (.iconst 0, 1) := by decide +kernel
theorem d28_30 : decode jdk_42_method_150_code 30 = .ok (.iload 4, 2) := by decide +kernel
theorem d28_32 : decode jdk_42_method_150_code 32 = .ok (.invokestatic 54, 3) := by decide +kernel
theorem d28_35 : decode jdk_42_method_150_code 35 = .ok (.putfield 9, 3) := by decide +kernel
theorem d28_38 : decode jdk_42_method_150_code 38 = .ok (.goto 59, 3) := by decide +kernel
theorem d28_97 : decode jdk_42_method_150_code 97 = .ok (.return_, 1) := by decide +kernel
theorem ef_s_ini2 (m : MethodId) (x0 : Addr) (x1 : Addr) : entryFrame m #[(.ref x0), (.ref x1), .null] 5 = mkF m 0 #[.val (.ref x0), .val (.ref x1), .val .null, .unset, .unset] [] := by first | (simp [entryFrame, mkF, argsToLocals, Value.category]; done) | rfl | (simp [entryFrame, mkF, argsToLocals, own_catI, own_catR, *]; done)
def Q_s_ini2 (Z : State) (sa : Addr) (u1 : Value) (u2 : Value) (ba : Addr) (bv : Addr) (bk : ClassId) (bcs : List Int32) (cps : Int32) (h0 : Heap) (n0 : Nat) (v : Option Value) (h : Heap) (L : List Loc) : Prop := ∃ (sb : Addr), ∃ (sk : ClassId), v = none ∧ Fr n0 L ∧ Keep h0 h [sa] ∧ Exa Z h sa "java/lang/String" ∧ Fld Z h sa "java/lang/String" "coder" "B" (.int (0 : Int32)) ∧ Fld Z h sa "java/lang/String" "value" "[B" (.ref sb) ∧ Arv Z h sb sk .byte (own_ln bcs) (bcs.map Value.int) (.int (0 : Int32)) ∧ (h0.size ≤ sb)
set_option maxRecDepth 65536 in
set_option maxHeartbeats 40000000 in
theorem s_ini2 (l : Launch) (Z : State) (a0 : Array Value) (hw : ∀ d ∈ tables_1, d.before a0 Z = true) (ws : List Jvm.Cond) (sa : Addr) (u1 : Value) (u2 : Value) (ba : Addr) (bv : Addr) (bk : ClassId) (bcs : List Int32) (cps : Int32) (h0 : Heap) (n0 : Nat) (Z0 : n0 ≤ h0.size) (F0_sa : Exa Z h0 sa "java/lang/String") (F1_sa_value : Fld Z h0 sa "java/lang/String" "value" "[B" u1) (F2_sa_coder : Fld Z h0 sa "java/lang/String" "coder" "B" u2) (F3_ba : Exa Z h0 ba "java/lang/StringBuilder") (F4_ba_value : Fld Z h0 ba "java/lang/AbstractStringBuilder" "value" "[B" (.ref bv)) (F5_ba_coder : Fld Z h0 ba "java/lang/AbstractStringBuilder" "coder" "B" (.int (0 : Int32))) (F6_ba_count : Fld Z h0 ba "java/lang/AbstractStringBuilder" "count" "I" (.int (own_ln bcs))) (F7_bv : Arv Z h0 bv bk .byte (16 : Int32) (bcs.map Value.int) (.int (0 : Int32))) (F8_java_lang_String : Sta Z Z.heap "java/lang/String" "COMPACT_STRINGS" "Z" (.int cps)) (F9_ : Old Z n0 h0) (hcps : ¬ (cps = (0 : Int32))) (hln : bcs.length ≤ 15) (hp2 : n0 ≤ sa) (hp3 : sa ≠ ba) (hp4 : sa ≠ bv) :
    MetFree l (⟨"java/lang/String", "<init>", "(Ljava/lang/AbstractStringBuilder;Ljava/lang/Void;)V"⟩ : MethodName) (head1 (Jvm.Cond.code (⟨"java/lang/String", "<init>", "(Ljava/lang/AbstractStringBuilder;Ljava/lang/Void;)V"⟩ : MethodName) jdk_42_method_150_code 5 none :: ws) ({ frames := 3, cells := 1, slots := 16, locals := 71 } : Room)) (fun a U => a = #[(.ref sa), (.ref ba), .null] ∧ Z.Warmed39 U.vm ∧ U.heap = h0) (fun _ _ _ _ _ => True) (fun _ U o U' => ∃ v L, o = .returned v ∧ Q_s_ini2 Z sa u1 u2 ba bv bk bcs cps h0 n0 v U'.heap L ∧ FrameEnd U o U' L ({ frames := 3, cells := 1, slots := 16, locals := 71 } : Room).cells ({ frames := 3, cells := 1, slots := 16, locals := 71 } : Room).slots) := by
  refine MetFree.of_bodySF (plainFor_of_name pn_0) hisR ?_
  intro p e s m args below meth c s₁ Bd hml0 hP hK
  obtain ⟨rfl, hZ, hh⟩ := hP
  have hx := Bd.exec
  have hby := Bd.bytes
  have hml : c.maxLocals = 5 := hml0
  have hown : s.vm.findClass "java/lang/String" = some m.cls := findClass_of_methodNamed Bd.named
  have hnm := (name_of_methodNamed Bd.named Bd.method).1
  have X0 : Stand p l e ({ frames := 3, cells := 1, slots := 16, locals := 71 } : Room) s m #[(.ref sa), (.ref ba), .null] below meth c s₁ [] 0 0 := Stand.of_body Bd
  have e0 : s₁.heap = h0 := by rw [← hh, Bd.state]; rfl
  have N0 := Fr.nil n0
  obtain ⟨G, hG⟩ : ∃ G : State → Prop, G = (fun U' => ∃ o, U'.status = .running ∧ Ended U' below o ∧ ∃ v L, o = .returned v ∧ Q_s_ini2 Z sa u1 u2 ba bv bk bcs cps h0 n0 v U'.heap L ∧ FrameEnd s o U' L ({ frames := 3, cells := 1, slots := 16, locals := 71 } : Room).cells ({ frames := 3, cells := 1, slots := 16, locals := 71 } : Room).slots) := ⟨_, rfl⟩
  suffices key : Gl p.tables e below s₁ (mkF m 0 #[.val (.ref sa), .val (.ref ba), .val .null, .unset, .unset] []) G by
    obtain ⟨s₂, k1, k2⟩ := key
    rw [hG] at k2
    obtain ⟨o, k3, k4, k5⟩ := k2
    exact ⟨s₂, o, castTop (ef_s_ini2 m sa ba) k1, k3, k4, k5⟩
  show Gl p.tables e below s₁ (mkF m 0 #[.val (.ref sa), .val (.ref ba), .val .null, .unset, .unset] []) G
  refine Gl.via (fun _ k => XS.aloadN X0.here hx rfl (hb hby d28_0) rfl rfl k) ?_
  show Gl p.tables e below s₁ (mkF m 1 #[.val (.ref sa), .val (.ref ba), .val .null, .unset, .unset] [(.ref sa)]) G
  obtain ⟨T1, X1, e1, st1⟩ := initO X0 hx hZ hown (hw _ (List.mem_of_getElem? (i := 15) rfl)) (hw _ (List.mem_of_getElem? (i := 16) rfl)) (hw _ (List.mem_of_getElem? (i := 17) rfl)) e0 (g := (mkF m 1 #[.val (.ref sa), .val (.ref ba), .val .null, .unset, .unset] [(.ref sa)])) rfl (by rw [hml]; rfl) rfl (hb hby d28_1) (by decide) (W := 0) (by show 2 * 0 + _ ≤ _; exact Nat.le_of_eq rfl) (by decide)
  refine Gl.via st1 ?_
  show Gl p.tables e below T1 (mkF m 4 #[.val (.ref sa), .val (.ref ba), .val .null, .unset, .unset] []) G
  refine Gl.via (fun _ k => XS.aloadN X1.here hx rfl (hb hby d28_4) rfl rfl k) ?_
  show Gl p.tables e below T1 (mkF m 5 #[.val (.ref sa), .val (.ref ba), .val .null, .unset, .unset] [(.ref ba)]) G
  obtain ⟨cq2, kq2, q2a, q2b, q2c⟩ := isOf hZ e1 F3_ba
  obtain ⟨_, _, ⟨T2, L2, k2, n2⟩, -, X2, ⟨Lc2, hQ2, l2, y2, z2⟩, st2⟩ := X1.virtualBack hx (y := (⟨"java/lang/AbstractStringBuilder", "getValue", "()[B"⟩ : MethodName)) (z := (⟨"java/lang/AbstractStringBuilder", "getValue", "()[B"⟩ : MethodName)) hown (mvT hZ (hw _ (List.mem_of_getElem? (i := 155) rfl))) (mvT hZ (hw _ (List.mem_of_getElem? (i := 156) rfl))) (notFace_of_selects (args := #[]) (mvT hZ (hw _ (List.mem_of_getElem? (i := 158) rfl)))) (mvT hZ (hw _ (List.mem_of_getElem? (i := 158) rfl))) (mvT hZ (hw _ (List.mem_of_getElem? (i := 157) rfl))) (by decide) (backOf (W := 0) (asb_val l Z a0 hw [] ba bv h0 n0 Z0 F4_ba_value) hZ (hw _ (List.mem_of_getElem? (i := 159) rfl)) (hw _ (List.mem_of_getElem? (i := 87) rfl)) (by decide) (by decide)) q2a q2c (g := (mkF m 5 #[.val (.ref sa), .val (.ref ba), .val .null, .unset, .unset] [(.ref ba)])) rfl (by rw [hml]; rfl) (Steps.refl _) (argsL := []) (rest := []) (lenOf pd_13 rfl) rfl (by show 2 * 0 + _ ≤ _; exact Nat.le_of_eq rfl) (hb hby d28_5) (fun _ _ => ⟨rfl, e1, (by decide : 0 + 0 ≤ _), (by decide : 0 + 0 ≤ _)⟩)
  dsimp only [Pt.U, Pt.locs, Pt.cells, Pt.slots] at X2 l2 y2 z2 st2 hQ2
  subst l2 y2 z2
  obtain ⟨rfl, N2q, eh2⟩ := hQ2
  have N2_ := Fr.app N0 N2q
  refine Gl.via (fun _ k => st2.trans k) ?_
  show Gl p.tables e below T2 (mkF m 8 #[.val (.ref sa), .val (.ref ba), .val .null, .unset, .unset] [(.ref bv)]) G
  refine Gl.via (fun _ k => XS.astoreN X2.here hx rfl (hb hby d28_8) rfl rfl (l' := #[.val (.ref sa), .val (.ref ba), .val .null, .val (.ref bv), .unset]) rfl k) ?_
  show Gl p.tables e below T2 (mkF m 9 #[.val (.ref sa), .val (.ref ba), .val .null, .val (.ref bv), .unset] []) G
  refine Gl.via (fun _ k => XS.aloadN X2.here hx rfl (hb hby d28_9) rfl rfl k) ?_
  show Gl p.tables e below T2 (mkF m 10 #[.val (.ref sa), .val (.ref ba), .val .null, .val (.ref bv), .unset] [(.ref ba)]) G
  obtain ⟨cq3, kq3, q3a, q3b, q3c⟩ := isOf hZ eh2 F3_ba
  obtain ⟨_, _, ⟨T3, L3, k3, n3⟩, -, X3, ⟨Lc3, hQ3, l3, y3, z3⟩, st3⟩ := X2.virtualBack hx (y := (⟨"java/lang/AbstractStringBuilder", "length", "()I"⟩ : MethodName)) (z := (⟨"java/lang/StringBuilder", "length", "()I"⟩ : MethodName)) hown (mvT hZ (hw _ (List.mem_of_getElem? (i := 160) rfl))) (mvT hZ (hw _ (List.mem_of_getElem? (i := 161) rfl))) (own_nfA hZ (y := (⟨"java/lang/AbstractStringBuilder", "length", "()I"⟩ : MethodName)) (own_nonface (y := (⟨"java/lang/AbstractStringBuilder", "isLatin1", "()Z"⟩ : MethodName)) (hw _ (List.mem_of_getElem? (i := 171) rfl)) (hw _ (List.mem_of_getElem? (i := 169) rfl)))) (mvT hZ (hw _ (List.mem_of_getElem? (i := 163) rfl))) (mvT hZ (hw _ (List.mem_of_getElem? (i := 164) rfl))) (by decide) (backOf (W := 0) (sb_len l Z a0 hw [] ba (own_ln bcs) h0 n0 Z0 F3_ba F6_ba_count) hZ (hw _ (List.mem_of_getElem? (i := 165) rfl)) (hw _ (List.mem_of_getElem? (i := 79) rfl)) (by decide) (by decide)) q3a q3c (g := (mkF m 10 #[.val (.ref sa), .val (.ref ba), .val .null, .val (.ref bv), .unset] [(.ref ba)])) rfl (by rw [hml]; rfl) (Steps.refl _) (argsL := []) (rest := []) (lenOf pd_8 rfl) rfl (by show 2 * 0 + _ ≤ _; exact Nat.le_of_eq rfl) (hb hby d28_10) (fun _ _ => ⟨rfl, eh2, (by decide : 0 + 0 ≤ _), (by decide : 0 + 0 ≤ _)⟩)
  dsimp only [Pt.U, Pt.locs, Pt.cells, Pt.slots] at X3 l3 y3 z3 st3 hQ3
  subst l3 y3 z3
  obtain ⟨rfl, N3q, eh3⟩ := hQ3
  have N3_ := Fr.app N2_ N3q
  refine Gl.via (fun _ k => st3.trans k) ?_
  show Gl p.tables e below T3 (mkF m 13 #[.val (.ref sa), .val (.ref ba), .val .null, .val (.ref bv), .unset] [(.int (own_ln bcs))]) G
  refine Gl.via (fun _ k => XS.istore X3.here hx rfl (hb hby d28_13) rfl (l' := #[.val (.ref sa), .val (.ref ba), .val .null, .val (.ref bv), .val (.int (own_ln bcs))]) rfl k) ?_
  show Gl p.tables e below T3 (mkF m 15 #[.val (.ref sa), .val (.ref ba), .val .null, .val (.ref bv), .val (.int (own_ln bcs))] []) G
  refine Gl.via (fun _ k => XS.aloadN X3.here hx rfl (hb hby d28_15) rfl rfl k) ?_
  show Gl p.tables e below T3 (mkF m 16 #[.val (.ref sa), .val (.ref ba), .val .null, .val (.ref bv), .val (.int (own_ln bcs))] [(.ref ba)]) G
  obtain ⟨cq4, kq4, q4a, q4b, q4c⟩ := isOf hZ eh3 F3_ba
  obtain ⟨_, _, ⟨T4, L4, k4, n4⟩, -, X4, ⟨Lc4, hQ4, l4, y4, z4⟩, st4⟩ := X3.virtualBack hx (y := (⟨"java/lang/AbstractStringBuilder", "isLatin1", "()Z"⟩ : MethodName)) (z := (⟨"java/lang/AbstractStringBuilder", "isLatin1", "()Z"⟩ : MethodName)) hown (mvT hZ (hw _ (List.mem_of_getElem? (i := 168) rfl))) (mvT hZ (hw _ (List.mem_of_getElem? (i := 169) rfl))) (notFace_of_selects (args := #[]) (mvT hZ (hw _ (List.mem_of_getElem? (i := 171) rfl)))) (mvT hZ (hw _ (List.mem_of_getElem? (i := 171) rfl))) (mvT hZ (hw _ (List.mem_of_getElem? (i := 170) rfl))) (by decide) (backOf (W := 0) (asb_lat l Z a0 hw [] ba cps h0 n0 Z0 F5_ba_coder F8_java_lang_String F9_ hcps) hZ (hw _ (List.mem_of_getElem? (i := 172) rfl)) (hw _ (List.mem_of_getElem? (i := 87) rfl)) (by decide) (by decide)) q4a q4c (g := (mkF m 16 #[.val (.ref sa), .val (.ref ba), .val .null, .val (.ref bv), .val (.int (own_ln bcs))] [(.ref ba)])) rfl (by rw [hml]; rfl) (Steps.refl _) (argsL := []) (rest := []) (lenOf pd_3 rfl) rfl (by show 2 * 0 + _ ≤ _; exact Nat.le_of_eq rfl) (hb hby d28_16) (fun _ _ => ⟨rfl, eh3, (by decide : 0 + 0 ≤ _), (by decide : 0 + 0 ≤ _)⟩)
  dsimp only [Pt.U, Pt.locs, Pt.cells, Pt.slots] at X4 l4 y4 z4 st4 hQ4
  subst l4 y4 z4
  obtain ⟨rfl, N4q, eh4⟩ := hQ4
  have N4_ := Fr.app N3_ N4q
  refine Gl.via (fun _ k => st4.trans k) ?_
  show Gl p.tables e below T4 (mkF m 19 #[.val (.ref sa), .val (.ref ba), .val .null, .val (.ref bv), .val (.int (own_ln bcs))] [(.int (1 : Int32))]) G
  refine Gl.via (fun _ k => XS.ifNo X4.here hx rfl (hb hby d28_19) rfl ((if0 _ _).trans (feq (by decide)).1) k) ?_
  show Gl p.tables e below T4 (mkF m 22 #[.val (.ref sa), .val (.ref ba), .val .null, .val (.ref bv), .val (.int (own_ln bcs))] []) G
  refine Gl.via (fun _ k => XS.aloadN X4.here hx rfl (hb hby d28_22) rfl rfl k) ?_
  show Gl p.tables e below T4 (mkF m 23 #[.val (.ref sa), .val (.ref ba), .val .null, .val (.ref bv), .val (.int (own_ln bcs))] [(.ref sa)]) G
  refine Gl.via (fun _ k => XS.iconst X4.here hx rfl (hb hby d28_23) k) ?_
  show Gl p.tables e below T4 (mkF m 24 #[.val (.ref sa), .val (.ref ba), .val .null, .val (.ref bv), .val (.int (own_ln bcs))] [(.int (0 : Int32)), (.ref sa)]) G
  obtain ⟨T5, h5, X5, e5, W5, st5⟩ := putFN X4 hx hZ hown (hw _ (List.mem_of_getElem? (i := 30) rfl)) Via.refl eh4 F2_sa_coder F0_sa (Or.inr ⟨(hw _ (List.mem_of_getElem? (i := 31) rfl)), rfl, hnm⟩) (hw _ (List.mem_of_getElem? (i := 5) rfl)) (ty := .byte) (v' := (.int (0 : Int32))) (by decide) rfl (by decide) (g := (mkF m 24 #[.val (.ref sa), .val (.ref ba), .val .null, .val (.ref bv), .val (.int (own_ln bcs))] [(.int (0 : Int32)), (.ref sa)])) rfl rfl (hb hby d28_24)
  refine Gl.via st5 ?_
  have N5_ := Fr.snoc X5 N4_ hp2
  have Z6 : n0 ≤ h5.size := Nat.le_trans Z0 (Keep.of_wr W5).1
  have Y7 : h0.size ≤ h5.size := Nat.le_trans (Nat.le_refl h0.size) (Keep.of_wr W5).1
  show Gl p.tables e below T5 (mkF m 27 #[.val (.ref sa), .val (.ref ba), .val .null, .val (.ref bv), .val (.int (own_ln bcs))] []) G
  refine Gl.via (fun _ k => XS.aloadN X5.here hx rfl (hb hby d28_27) rfl rfl k) ?_
  show Gl p.tables e below T5 (mkF m 28 #[.val (.ref sa), .val (.ref ba), .val .null, .val (.ref bv), .val (.int (own_ln bcs))] [(.ref sa)]) G
  refine Gl.via (fun _ k => XS.aloadN X5.here hx rfl (hb hby d28_28) rfl rfl k) ?_
  show Gl p.tables e below T5 (mkF m 29 #[.val (.ref sa), .val (.ref ba), .val .null, .val (.ref bv), .val (.int (own_ln bcs))] [(.ref bv), (.ref sa)]) G
  refine Gl.via (fun _ k => XS.iconst X5.here hx rfl (hb hby d28_29) k) ?_
  show Gl p.tables e below T5 (mkF m 30 #[.val (.ref sa), .val (.ref ba), .val .null, .val (.ref bv), .val (.int (own_ln bcs))] [(.int (0 : Int32)), (.ref bv), (.ref sa)]) G
  refine Gl.via (fun _ k => XS.iload X5.here hx rfl (hb hby d28_30) rfl k) ?_
  show Gl p.tables e below T5 (mkF m 32 #[.val (.ref sa), .val (.ref ba), .val .null, .val (.ref bv), .val (.int (own_ln bcs))] [(.int (own_ln bcs)), (.int (0 : Int32)), (.ref bv), (.ref sa)]) G
  have G9 : Arv Z h5 bv bk .byte (16 : Int32) (bcs.map Value.int) (.int (0 : Int32)) := (F7_bv.other W5 (Ne.symm hp4))
  obtain ⟨_, _, ⟨T8, L8, k8, n8⟩, -, X8, ⟨Lc8, hQ8, l8, y8, z8⟩, st8⟩ := Jvm.LawKit.callS X5 hx (y := (⟨"java/util/Arrays", "copyOfRange", "([BII)[B"⟩ : MethodName)) hown (mvT hZ (hw _ (List.mem_of_getElem? (i := 173) rfl))) (mvT hZ (hw _ (List.mem_of_getElem? (i := 174) rfl))) (mvT hZ (hw _ (List.mem_of_getElem? (i := 175) rfl))) (mvT hZ (hw _ (List.mem_of_getElem? (i := 176) rfl))) (by decide) (backOf (W := 1) (ar_cr l Z a0 hw [] bv bk bcs h5 n0 Z6 G9 hln) hZ (hw _ (List.mem_of_getElem? (i := 176) rfl)) (hw _ (List.mem_of_getElem? (i := 175) rfl)) (by decide) (by decide)) (g := (mkF m 32 #[.val (.ref sa), .val (.ref ba), .val .null, .val (.ref bv), .val (.int (own_ln bcs))] [(.int (own_ln bcs)), (.int (0 : Int32)), (.ref bv), (.ref sa)])) rfl (by rw [hml]; rfl) (argsL := [(.ref bv), (.int (0 : Int32)), (.int (own_ln bcs))]) (rest := [(.ref sa)]) (lenOf pd_12 rfl) rfl (by show 2 * 0 + _ ≤ _; exact Nat.le_of_eq rfl) (hb hby d28_32) (fun _ _ => ⟨rfl, e5, (by decide : 0 + 1 ≤ _), (by decide : 0 + 16 ≤ _)⟩)
  dsimp only [Pt.U, Pt.locs, Pt.cells, Pt.slots] at X8 l8 y8 z8 st8 hQ8
  subst l8 y8 z8
  obtain ⟨b_8, k_8, rfl, N8q, K8, P10, R11⟩ := hQ8
  have N8_ := Fr.app N5_ N8q
  refine Gl.via (fun _ k => st8 _ k) ?_
  have G12 : Exa Z h5 sa "java/lang/String" := (F0_sa.wr W5)
  have ne13 : sa ≠ b_8 := Nat.ne_of_lt (Nat.lt_of_lt_of_le G12.lt R11)
  have G14 : Exa Z h5 ba "java/lang/StringBuilder" := (F3_ba.wr W5)
  have ne15 : ba ≠ b_8 := Nat.ne_of_lt (Nat.lt_of_lt_of_le G14.lt R11)
  have ne16 : bv ≠ b_8 := Nat.ne_of_lt (Nat.lt_of_lt_of_le G9.lt R11)
  have ge17 : n0 ≤ b_8 := Nat.le_trans Z6 R11
  have gz18 : h0.size ≤ b_8 := Nat.le_trans Y7 R11
  have Z19 : n0 ≤ T8.heap.size := Nat.le_trans Z6 K8.1
  have Y20 : h0.size ≤ T8.heap.size := Nat.le_trans Y7 K8.1
  show Gl p.tables e below T8 (mkF m 35 #[.val (.ref sa), .val (.ref ba), .val .null, .val (.ref bv), .val (.int (own_ln bcs))] [(.ref b_8), (.ref sa)]) G
  have G21 : Fld Z T8.heap sa "java/lang/String" "value" "[B" u1 := ((F1_sa_value.other W5 (Or.inr (slot_ne (Or.inr (hw _ (List.mem_of_getElem? (i := 33) rfl))) (Or.inr (hw _ (List.mem_of_getElem? (i := 31) rfl))) (by decide) (t := (.array .byte)) (t' := .byte) (by decide) (by decide)))).keep K8 nin0)
  have G22 : Exa Z T8.heap sa "java/lang/String" := (G12.keep K8)
  obtain ⟨T23, h23, X23, e23, W23, st23⟩ := putF X8 hx hZ hown (host := "") (Or.inl (hw _ (List.mem_of_getElem? (i := 32) rfl))) Via.refl rfl G21 G22 (Or.inr ⟨(hw _ (List.mem_of_getElem? (i := 33) rfl)), rfl, hnm⟩) (hw _ (List.mem_of_getElem? (i := 5) rfl)) (ty := (.array .byte)) (by decide) rfl rfl (g := (mkF m 35 #[.val (.ref sa), .val (.ref ba), .val .null, .val (.ref bv), .val (.int (own_ln bcs))] [(.ref b_8), (.ref sa)])) rfl rfl (hb hby d28_35)
  refine Gl.via st23 ?_
  have N23_ := Fr.snoc X23 N8_ hp2
  have Z24 : n0 ≤ h23.size := Nat.le_trans Z19 (Keep.of_wr W23).1
  have Y25 : h0.size ≤ h23.size := Nat.le_trans Y20 (Keep.of_wr W23).1
  show Gl p.tables e below T23 (mkF m 38 #[.val (.ref sa), .val (.ref ba), .val .null, .val (.ref bv), .val (.int (own_ln bcs))] []) G
  refine Gl.via (fun _ k => XS.goto X23.here hx rfl (pc0 := 38) (pc' := 97) rfl (hb hby d28_38) (by decide) (by decide) k) ?_
  show Gl p.tables e below T23 (mkF m 97 #[.val (.ref sa), .val (.ref ba), .val .null, .val (.ref bv), .val (.int (own_ln bcs))] []) G
  obtain ⟨fs, hr, hrun, hended, hW, hsame⟩ := X23.leave (v := none) (fun _ => rfl)
  have G26 : Exa Z h23 sa "java/lang/String" := (G22.wr W23)
  have G27 : Fld Z h23 sa "java/lang/String" "coder" "B" (.int (0 : Int32)) := (((Fld.same W5 F2_sa_coder).keep K8 nin0).other W23 (Or.inr (slot_ne (Or.inr (hw _ (List.mem_of_getElem? (i := 31) rfl))) (Or.inr (hw _ (List.mem_of_getElem? (i := 33) rfl))) (by decide) (t := .byte) (t' := (.array .byte)) (by decide) (by decide))))
  have G28 : Arv Z h23 b_8 k_8 .byte (own_ln bcs) (bcs.map Value.int) (.int (0 : Int32)) := (P10.other W23 (Ne.symm ne13))
  have hq : ∀ L, Fr n0 L → Q_s_ini2 Z sa u1 u2 ba bv bk bcs cps h0 n0 (none) T23.heap L := by
    intro L hN
    rw [e23]
    exact ⟨b_8, k_8, rfl, hN, ((((Keep.refl h0 [sa]).wr W5 (Or.inl (List.mem_of_getElem? (i := 0) rfl))).trans K8 all0).wr W23 (Or.inl (List.mem_of_getElem? (i := 0) rfl))), G26, G27, (Fld.same W23 G21), G28, gz18⟩
  rw [hG]
  exact Gl.fin (X23.returnOut hx Bd.returns (hb hby d28_97) hr) ⟨_, hrun, hended, _, _, rfl, hq _ N23_, ⟨_, rfl⟩, hW, hsame.mono (by decide) (by decide)⟩
theorem d27_0 : decode jdk_42_method_53_code 0 = .ok (.aload_n 0, 1) := by decide +kernel
theorem d27_1 : decode jdk_42_method_53_code 1 = .ok (.aload_n 1, 1) := by decide +kernel
theorem d27_2 : decode jdk_42_method_53_code 2 = .ok (.aconst_null, 1) := by decide +kernel
theorem d27_3 : decode jdk_42_method_53_code 3 = .ok (.invokespecial 489, 3) := by decide +kernel
theorem pd_14 : parseMethodDescriptor "(Ljava/lang/AbstractStringBuilder;Ljava/lang/Void;)V" = some ⟨[(.object "java/lang/AbstractStringBuilder"), (.object "java/lang/Void")], none⟩ := by decide +kernel
theorem d27_6 : decode jdk_42_method_53_code 6 = .ok (.return_, 1) := by decide +kernel
theorem ef_s_ini1 (m : MethodId) (x0 : Addr) (x1 : Addr) : entryFrame m #[(.ref x0), (.ref x1)] 2 = mkF m 0 #[.val (.ref x0), .val (.ref x1)] [] := by first | (simp [entryFrame, mkF, argsToLocals, Value.category]; done) | rfl | (simp [entryFrame, mkF, argsToLocals, own_catI, own_catR, *]; done)
def Q_s_ini1 (Z : State) (sa : Addr) (u1 : Value) (u2 : Value) (ba : Addr) (bv : Addr) (bk : ClassId) (bcs : List Int32) (cps : Int32) (h0 : Heap) (n0 : Nat) (v : Option Value) (h : Heap) (L : List Loc) : Prop := ∃ (sb : Addr), ∃ (sk : ClassId), v = none ∧ Fr n0 L ∧ Keep h0 h [sa] ∧ Exa Z h sa "java/lang/String" ∧ Fld Z h sa "java/lang/String" "coder" "B" (.int (0 : Int32)) ∧ Fld Z h sa "java/lang/String" "value" "[B" (.ref sb) ∧ Arv Z h sb sk .byte (own_ln bcs) (bcs.map Value.int) (.int (0 : Int32)) ∧ (h0.size ≤ sb)
set_option maxRecDepth 65536 in
set_option maxHeartbeats 40000000 in
theorem s_ini1 (l : Launch) (Z : State) (a0 : Array Value) (hw : ∀ d ∈ tables_1, d.before a0 Z = true) (ws : List Jvm.Cond) (sa : Addr) (u1 : Value) (u2 : Value) (ba : Addr) (bv : Addr) (bk : ClassId) (bcs : List Int32) (cps : Int32) (h0 : Heap) (n0 : Nat) (Z0 : n0 ≤ h0.size) (F0_sa : Exa Z h0 sa "java/lang/String") (F1_sa_value : Fld Z h0 sa "java/lang/String" "value" "[B" u1) (F2_sa_coder : Fld Z h0 sa "java/lang/String" "coder" "B" u2) (F3_ba : Exa Z h0 ba "java/lang/StringBuilder") (F4_ba_value : Fld Z h0 ba "java/lang/AbstractStringBuilder" "value" "[B" (.ref bv)) (F5_ba_coder : Fld Z h0 ba "java/lang/AbstractStringBuilder" "coder" "B" (.int (0 : Int32))) (F6_ba_count : Fld Z h0 ba "java/lang/AbstractStringBuilder" "count" "I" (.int (own_ln bcs))) (F7_bv : Arv Z h0 bv bk .byte (16 : Int32) (bcs.map Value.int) (.int (0 : Int32))) (F8_java_lang_String : Sta Z Z.heap "java/lang/String" "COMPACT_STRINGS" "Z" (.int cps)) (F9_ : Old Z n0 h0) (hcps : ¬ (cps = (0 : Int32))) (hln : bcs.length ≤ 15) (hp2 : n0 ≤ sa) (hp3 : sa ≠ ba) (hp4 : sa ≠ bv) :
    MetFree l (⟨"java/lang/String", "<init>", "(Ljava/lang/StringBuilder;)V"⟩ : MethodName) (head1 (Jvm.Cond.code (⟨"java/lang/String", "<init>", "(Ljava/lang/StringBuilder;)V"⟩ : MethodName) jdk_42_method_53_code 2 none :: ws) ({ frames := 4, cells := 1, slots := 16, locals := 87 } : Room)) (fun a U => a = #[(.ref sa), (.ref ba)] ∧ Z.Warmed39 U.vm ∧ U.heap = h0) (fun _ _ _ _ _ => True) (fun _ U o U' => ∃ v L, o = .returned v ∧ Q_s_ini1 Z sa u1 u2 ba bv bk bcs cps h0 n0 v U'.heap L ∧ FrameEnd U o U' L ({ frames := 4, cells := 1, slots := 16, locals := 87 } : Room).cells ({ frames := 4, cells := 1, slots := 16, locals := 87 } : Room).slots) := by
  refine MetFree.of_bodySF (plainFor_of_name pn_0) hisR ?_
  intro p e s m args below meth c s₁ Bd hml0 hP hK
  obtain ⟨rfl, hZ, hh⟩ := hP
  have hx := Bd.exec
  have hby := Bd.bytes
  have hml : c.maxLocals = 2 := hml0
  have hown : s.vm.findClass "java/lang/String" = some m.cls := findClass_of_methodNamed Bd.named
  have hnm := (name_of_methodNamed Bd.named Bd.method).1
  have X0 : Stand p l e ({ frames := 4, cells := 1, slots := 16, locals := 87 } : Room) s m #[(.ref sa), (.ref ba)] below meth c s₁ [] 0 0 := Stand.of_body Bd
  have e0 : s₁.heap = h0 := by rw [← hh, Bd.state]; rfl
  have N0 := Fr.nil n0
  obtain ⟨G, hG⟩ : ∃ G : State → Prop, G = (fun U' => ∃ o, U'.status = .running ∧ Ended U' below o ∧ ∃ v L, o = .returned v ∧ Q_s_ini1 Z sa u1 u2 ba bv bk bcs cps h0 n0 v U'.heap L ∧ FrameEnd s o U' L ({ frames := 4, cells := 1, slots := 16, locals := 87 } : Room).cells ({ frames := 4, cells := 1, slots := 16, locals := 87 } : Room).slots) := ⟨_, rfl⟩
  suffices key : Gl p.tables e below s₁ (mkF m 0 #[.val (.ref sa), .val (.ref ba)] []) G by
    obtain ⟨s₂, k1, k2⟩ := key
    rw [hG] at k2
    obtain ⟨o, k3, k4, k5⟩ := k2
    exact ⟨s₂, o, castTop (ef_s_ini1 m sa ba) k1, k3, k4, k5⟩
  show Gl p.tables e below s₁ (mkF m 0 #[.val (.ref sa), .val (.ref ba)] []) G
  refine Gl.via (fun _ k => XS.aloadN X0.here hx rfl (hb hby d27_0) rfl rfl k) ?_
  show Gl p.tables e below s₁ (mkF m 1 #[.val (.ref sa), .val (.ref ba)] [(.ref sa)]) G
  refine Gl.via (fun _ k => XS.aloadN X0.here hx rfl (hb hby d27_1) rfl rfl k) ?_
  show Gl p.tables e below s₁ (mkF m 2 #[.val (.ref sa), .val (.ref ba)] [(.ref ba), (.ref sa)]) G
  refine Gl.via (fun _ k => XS.aconstNull X0.here hx rfl (hb hby d27_2) k) ?_
  show Gl p.tables e below s₁ (mkF m 3 #[.val (.ref sa), .val (.ref ba)] [.null, (.ref ba), (.ref sa)]) G
  obtain ⟨_, _, ⟨T1, L1, k1, n1⟩, -, X1, ⟨Lc1, hQ1, l1, y1, z1⟩, st1⟩ := X0.specialBack hx (y := (⟨"java/lang/String", "<init>", "(Ljava/lang/AbstractStringBuilder;Ljava/lang/Void;)V"⟩ : MethodName)) rfl hown (mvT hZ (hw _ (List.mem_of_getElem? (i := 152) rfl))) (mvT hZ (hw _ (List.mem_of_getElem? (i := 153) rfl))) (mvT hZ (hw _ (List.mem_of_getElem? (i := 154) rfl))) (by decide) (backOf (W := 0) (s_ini2 l Z a0 hw [] sa u1 u2 ba bv bk bcs cps h0 n0 Z0 F0_sa F1_sa_value F2_sa_coder F3_ba F4_ba_value F5_ba_coder F6_ba_count F7_bv F8_java_lang_String F9_ hcps hln hp2 hp3 hp4) hZ (hw _ (List.mem_of_getElem? (i := 154) rfl)) (hw _ (List.mem_of_getElem? (i := 6) rfl)) (by decide) (by decide)) (g := (mkF m 3 #[.val (.ref sa), .val (.ref ba)] [.null, (.ref ba), (.ref sa)])) rfl (by rw [hml]; rfl) (Steps.refl _) (a := sa) (argsL := [(.ref ba), .null]) (rest := []) (lenOf pd_14 rfl) rfl (by show 2 * 0 + _ ≤ _; exact Nat.le_of_eq rfl) (hb hby d27_3) (fun _ _ => ⟨rfl, e0, (by decide : 0 + 1 ≤ _), (by decide : 0 + 16 ≤ _)⟩)
  dsimp only [Pt.U, Pt.locs, Pt.cells, Pt.slots] at X1 l1 y1 z1 st1 hQ1
  subst l1 y1 z1
  obtain ⟨sb_1, sk_1, rfl, N1q, K1, P2, P3, P4, P5, R6⟩ := hQ1
  have N1_ := Fr.app N0 N1q
  refine Gl.via (fun _ k => st1.trans k) ?_
  have ne7 : sa ≠ sb_1 := Nat.ne_of_lt (Nat.lt_of_lt_of_le F0_sa.lt R6)
  have ne8 : ba ≠ sb_1 := Nat.ne_of_lt (Nat.lt_of_lt_of_le F3_ba.lt R6)
  have ne9 : bv ≠ sb_1 := Nat.ne_of_lt (Nat.lt_of_lt_of_le F7_bv.lt R6)
  have ge10 : n0 ≤ sb_1 := Nat.le_trans Z0 R6
  have gz11 : h0.size ≤ sb_1 := Nat.le_trans (Nat.le_refl h0.size) R6
  have Z12 : n0 ≤ T1.heap.size := Nat.le_trans Z0 K1.1
  have Y13 : h0.size ≤ T1.heap.size := Nat.le_trans (Nat.le_refl h0.size) K1.1
  show Gl p.tables e below T1 (mkF m 6 #[.val (.ref sa), .val (.ref ba)] []) G
  obtain ⟨fs, hr, hrun, hended, hW, hsame⟩ := X1.leave (v := none) (fun _ => rfl)
  have hq : ∀ L, Fr n0 L → Q_s_ini1 Z sa u1 u2 ba bv bk bcs cps h0 n0 (none) T1.heap L := by
    intro L hN
    exact ⟨sb_1, sk_1, rfl, hN, ((Keep.refl h0 [sa]).trans K1 (allS (Or.inl (List.mem_of_getElem? (i := 0) rfl)) all0)), P2, P3, P4, P5, R6⟩
  rw [hG]
  exact Gl.fin (X1.returnOut hx Bd.returns (hb hby d27_6) hr) ⟨_, hrun, hended, _, _, rfl, hq _ N1_, ⟨_, rfl⟩, hW, hsame.mono (by decide) (by decide)⟩
theorem d26_0 : decode jdk_67_method_42_code 0 = .ok (.new 18, 3) := by decide +kernel
theorem d26_3 : decode jdk_67_method_42_code 3 = .ok (.dup, 1) := by decide +kernel
theorem d26_4 : decode jdk_67_method_42_code 4 = .ok (.aload_n 0, 1) := by decide +kernel
theorem d26_5 : decode jdk_67_method_42_code 5 = .ok (.invokespecial 137, 3) := by decide +kernel
theorem pd_15 : parseMethodDescriptor "(Ljava/lang/StringBuilder;)V" = some ⟨[(.object "java/lang/StringBuilder")], none⟩ := by decide +kernel
theorem d26_8 : decode jdk_67_method_42_code 8 = .ok (.areturn, 1) := by decide +kernel
theorem ef_sb_str (m : MethodId) (x0 : Addr) : entryFrame m #[(.ref x0)] 1 = mkF m 0 #[.val (.ref x0)] [] := by first | (simp [entryFrame, mkF, argsToLocals, Value.category]; done) | rfl | (simp [entryFrame, mkF, argsToLocals, own_catI, own_catR, *]; done)
def Q_sb_str (Z : State) (ba : Addr) (bv : Addr) (bk : ClassId) (bcs : List Int32) (cps : Int32) (h0 : Heap) (n0 : Nat) (v : Option Value) (h : Heap) (L : List Loc) : Prop := ∃ (sa : Addr), ∃ (sb : Addr), ∃ (sk : ClassId), v = some (.ref sa) ∧ Fr n0 L ∧ Keep h0 h [] ∧ Exa Z h sa "java/lang/String" ∧ Fld Z h sa "java/lang/String" "coder" "B" (.int (0 : Int32)) ∧ Fld Z h sa "java/lang/String" "value" "[B" (.ref sb) ∧ Arv Z h sb sk .byte (own_ln bcs) (bcs.map Value.int) (.int (0 : Int32)) ∧ (h0.size ≤ sa)
set_option maxRecDepth 65536 in
set_option maxHeartbeats 40000000 in
theorem sb_str (l : Launch) (Z : State) (a0 : Array Value) (hw : ∀ d ∈ tables_1, d.before a0 Z = true) (ws : List Jvm.Cond) (ba : Addr) (bv : Addr) (bk : ClassId) (bcs : List Int32) (cps : Int32) (h0 : Heap) (n0 : Nat) (Z0 : n0 ≤ h0.size) (F0_ba : Exa Z h0 ba "java/lang/StringBuilder") (F1_ba_value : Fld Z h0 ba "java/lang/AbstractStringBuilder" "value" "[B" (.ref bv)) (F2_ba_coder : Fld Z h0 ba "java/lang/AbstractStringBuilder" "coder" "B" (.int (0 : Int32))) (F3_ba_count : Fld Z h0 ba "java/lang/AbstractStringBuilder" "count" "I" (.int (own_ln bcs))) (F4_bv : Arv Z h0 bv bk .byte (16 : Int32) (bcs.map Value.int) (.int (0 : Int32))) (F5_java_lang_String : Sta Z Z.heap "java/lang/String" "COMPACT_STRINGS" "Z" (.int cps)) (F6_ : Old Z n0 h0) (hcps : ¬ (cps = (0 : Int32))) (hln : bcs.length ≤ 15) :
    MetFree l (⟨"java/lang/StringBuilder", "toString", "()Ljava/lang/String;"⟩ : MethodName) (head1 (Jvm.Cond.code (⟨"java/lang/StringBuilder", "toString", "()Ljava/lang/String;"⟩ : MethodName) jdk_67_method_42_code 1 (some (.object "java/lang/String")) :: ws) ({ frames := 5, cells := 2, slots := 20, locals := 101 } : Room)) (fun a U => a = #[(.ref ba)] ∧ Z.Warmed39 U.vm ∧ U.heap = h0) (fun _ _ _ _ _ => True) (fun _ U o U' => ∃ v L, o = .returned v ∧ Q_sb_str Z ba bv bk bcs cps h0 n0 v U'.heap L ∧ FrameEnd U o U' L ({ frames := 5, cells := 2, slots := 20, locals := 101 } : Room).cells ({ frames := 5, cells := 2, slots := 20, locals := 101 } : Room).slots) := by
  refine MetFree.of_bodySF (plainFor_of_name pn_4) hisR ?_
  intro p e s m args below meth c s₁ Bd hml0 hP hK
  obtain ⟨rfl, hZ, hh⟩ := hP
  have hx := Bd.exec
  have hby := Bd.bytes
  have hml : c.maxLocals = 1 := hml0
  have hown : s.vm.findClass "java/lang/StringBuilder" = some m.cls := findClass_of_methodNamed Bd.named
  have hnm := (name_of_methodNamed Bd.named Bd.method).1
  have X0 : Stand p l e ({ frames := 5, cells := 2, slots := 20, locals := 101 } : Room) s m #[(.ref ba)] below meth c s₁ [] 0 0 := Stand.of_body Bd
  have e0 : s₁.heap = h0 := by rw [← hh, Bd.state]; rfl
  have N0 := Fr.nil n0
  obtain ⟨G, hG⟩ : ∃ G : State → Prop, G = (fun U' => ∃ o, U'.status = .running ∧ Ended U' below o ∧ ∃ v L, o = .returned v ∧ Q_sb_str Z ba bv bk bcs cps h0 n0 v U'.heap L ∧ FrameEnd s o U' L ({ frames := 5, cells := 2, slots := 20, locals := 101 } : Room).cells ({ frames := 5, cells := 2, slots := 20, locals := 101 } : Room).slots) := ⟨_, rfl⟩
  suffices key : Gl p.tables e below s₁ (mkF m 0 #[.val (.ref ba)] []) G by
    obtain ⟨s₂, k1, k2⟩ := key
    rw [hG] at k2
    obtain ⟨o, k3, k4, k5⟩ := k2
    exact ⟨s₂, o, castTop (ef_sb_str m ba) k1, k3, k4, k5⟩
  show Gl p.tables e below s₁ (mkF m 0 #[.val (.ref ba)] []) G
  obtain ⟨T1, h1, X1, e1, E1, A1, D1, -, st1⟩ := newO X0 hx hZ hown (hw _ (List.mem_of_getElem? (i := 148) rfl)) (hw _ (List.mem_of_getElem? (i := 5) rfl)) (hw _ (List.mem_of_getElem? (i := 6) rfl)) e0 (g := (mkF m 0 #[.val (.ref ba)] [])) rfl (hb hby d26_0) (by decide) (by decide)
  obtain ⟨b1, g1⟩ : ∃ z, z = h0.size := ⟨_, rfl⟩
  rw [← g1] at A1 D1 st1
  have ne2 : ba ≠ b1 := Nat.ne_of_lt (Nat.lt_of_lt_of_le F0_ba.lt (Nat.le_of_eq g1.symm))
  have ne3 : bv ≠ b1 := Nat.ne_of_lt (Nat.lt_of_lt_of_le F4_bv.lt (Nat.le_of_eq g1.symm))
  have ge4 : n0 ≤ b1 := Nat.le_trans Z0 (Nat.le_of_eq g1.symm)
  have gz5 : h0.size ≤ b1 := Nat.le_trans (Nat.le_refl h0.size) (Nat.le_of_eq g1.symm)
  refine Gl.via st1 ?_
  have Z6 : n0 ≤ h1.size := Nat.le_trans Z0 E1.1
  have Y7 : h0.size ≤ h1.size := Nat.le_trans (Nat.le_refl h0.size) E1.1
  have F8 : Fld Z h1 b1 "java/lang/String" "coder" "B" (.int (0 : Int32)) := D1 (Or.inr (hw _ (List.mem_of_getElem? (i := 31) rfl))) (ty := .byte) (by decide)
  have F9 : Fld Z h1 b1 "java/lang/String" "value" "[B" .null := D1 (Or.inr (hw _ (List.mem_of_getElem? (i := 33) rfl))) (ty := (.array .byte)) (by decide)
  show Gl p.tables e below T1 (mkF m 3 #[.val (.ref ba)] [(.ref b1)]) G
  refine Gl.via (fun _ k => XS.dup X1.here hx rfl (hb hby d26_3) rfl rfl k) ?_
  show Gl p.tables e below T1 (mkF m 4 #[.val (.ref ba)] [(.ref b1), (.ref b1)]) G
  refine Gl.via (fun _ k => XS.aloadN X1.here hx rfl (hb hby d26_4) rfl rfl k) ?_
  show Gl p.tables e below T1 (mkF m 5 #[.val (.ref ba)] [(.ref ba), (.ref b1), (.ref b1)]) G
  have G11 : Exa Z h1 ba "java/lang/StringBuilder" := (F0_ba.ext E1)
  have G12 : Fld Z h1 ba "java/lang/AbstractStringBuilder" "value" "[B" (.ref bv) := (F1_ba_value.ext E1)
  have G13 : Fld Z h1 ba "java/lang/AbstractStringBuilder" "coder" "B" (.int (0 : Int32)) := (F2_ba_coder.ext E1)
  have G14 : Fld Z h1 ba "java/lang/AbstractStringBuilder" "count" "I" (.int (own_ln bcs)) := (F3_ba_count.ext E1)
  have G15 : Arv Z h1 bv bk .byte (16 : Int32) (bcs.map Value.int) (.int (0 : Int32)) := (F4_bv.ext E1)
  have G16 : Old Z n0 h1 := (F6_.ext E1)
  obtain ⟨_, _, ⟨T10, L10, k10, n10⟩, -, X10, ⟨Lc10, hQ10, l10, y10, z10⟩, st10⟩ := X1.specialBack hx (y := (⟨"java/lang/String", "<init>", "(Ljava/lang/StringBuilder;)V"⟩ : MethodName)) rfl hown (mvT hZ (hw _ (List.mem_of_getElem? (i := 149) rfl))) (mvT hZ (hw _ (List.mem_of_getElem? (i := 150) rfl))) (mvT hZ (hw _ (List.mem_of_getElem? (i := 151) rfl))) (by decide) (backOf (W := 1) (s_ini1 l Z a0 hw [] b1 .null (.int (0 : Int32)) ba bv bk bcs cps h1 n0 Z6 A1 F9 F8 G11 G12 G13 G14 G15 F5_java_lang_String G16 hcps hln ge4 (Ne.symm ne2) (Ne.symm ne3)) hZ (hw _ (List.mem_of_getElem? (i := 151) rfl)) (hw _ (List.mem_of_getElem? (i := 6) rfl)) (by decide) (by decide)) (g := (mkF m 5 #[.val (.ref ba)] [(.ref ba), (.ref b1), (.ref b1)])) rfl (by rw [hml]; rfl) (Steps.refl _) (a := b1) (argsL := [(.ref ba)]) (rest := [(.ref b1)]) (lenOf pd_15 rfl) rfl (by show 2 * 0 + _ ≤ _; exact Nat.le_of_eq rfl) (hb hby d26_5) (fun _ _ => ⟨rfl, e1, (by decide : 1 + 1 ≤ _), (by decide : 4 + 16 ≤ _)⟩)
  dsimp only [Pt.U, Pt.locs, Pt.cells, Pt.slots] at X10 l10 y10 z10 st10 hQ10
  subst l10 y10 z10
  obtain ⟨sb_10, sk_10, rfl, N10q, K10, P17, P18, P19, P20, R21⟩ := hQ10
  have N10_ := Fr.app N0 N10q
  refine Gl.via (fun _ k => st10.trans k) ?_
  have ne22 : ba ≠ sb_10 := Nat.ne_of_lt (Nat.lt_of_lt_of_le G11.lt R21)
  have ne23 : bv ≠ sb_10 := Nat.ne_of_lt (Nat.lt_of_lt_of_le G15.lt R21)
  have ne24 : b1 ≠ sb_10 := Nat.ne_of_lt (Nat.lt_of_lt_of_le A1.lt R21)
  have ge25 : n0 ≤ sb_10 := Nat.le_trans Z6 R21
  have gz26 : h0.size ≤ sb_10 := Nat.le_trans Y7 R21
  have Z27 : n0 ≤ T10.heap.size := Nat.le_trans Z6 K10.1
  have Y28 : h0.size ≤ T10.heap.size := Nat.le_trans Y7 K10.1
  show Gl p.tables e below T10 (mkF m 8 #[.val (.ref ba)] [(.ref b1)]) G
  obtain ⟨fs, hr, hrun, hended, hW, hsame⟩ := X10.leave (v := some (.ref b1)) (fun h => by rw [Bd.returns] at h; cases h)
  have hq : ∀ L, Fr n0 L → Q_sb_str Z ba bv bk bcs cps h0 n0 (some (.ref b1)) T10.heap L := by
    intro L hN
    exact ⟨b1, sb_10, sk_10, rfl, hN, (((Keep.refl h0 []).ext E1).trans K10 (allS (Or.inr gz5) all0)), P17, P18, P19, P20, gz5⟩
  rw [hG]
  exact Gl.fin (retOut X10 hx Bd.returns rfl (Or.inr (Or.inr (Or.inr (Or.inr ⟨rfl, rfl, rfl⟩)))) (hb hby d26_8) hr) ⟨_, hrun, hended, _, _, rfl, hq _ N10_, ⟨_, rfl⟩, hW, hsame.mono (by decide) (by decide)⟩
def own_EL : List (String × Nat) := [("java/lang/String", 7), ("com/example/profile_to_target/profiletotarget/SfrId", 64)]
theorem own_sub : ∀ q ∈ own_EL, q ∈ consts_1 := by decide
theorem own_ew {Z : State} {a0 : Array Value} (hw : ∀ d ∈ tables_1, d.before a0 Z = true) : EW Z a0 own_EL := (EW.cons (hw _ (List.mem_of_getElem? (i := 60) rfl)) (by decide) (EW.cons (hw _ (List.mem_of_getElem? (i := 142) rfl)) (by decide) EW.nil))
theorem own_wS {Z : State} {a0 : Array Value} (hw : ∀ d ∈ tables_1, d.before a0 Z = true) : ∀ a ∈ Bundle.stringAtoms, a.before a0 Z = true := by
  intro d hd
  simp only [Bundle.stringAtoms, Bundle.sN, List.mem_cons, List.not_mem_nil, or_false] at hd
  rcases hd with rfl | rfl | rfl | rfl | rfl | rfl | rfl
  · exact (hw _ (List.mem_of_getElem? (i := 6) rfl))
  · exact (hw _ (List.mem_of_getElem? (i := 5) rfl))
  · exact (hw _ (List.mem_of_getElem? (i := 23) rfl))
  · exact (hw _ (List.mem_of_getElem? (i := 33) rfl))
  · exact (hw _ (List.mem_of_getElem? (i := 31) rfl))
  · exact (hw _ (List.mem_of_getElem? (i := 61) rfl))
  · exact (hw _ (List.mem_of_getElem? (i := 62) rfl))
theorem own_xs {x : Addr} {L : List Addr} {P : Addr → Prop} (h : P x) (r : ∀ y ∈ L, P y) : ∀ y ∈ x :: L, P y := fun y q => by
  rcases List.mem_cons.mp q with rfl | q
  · exact h
  · exact r y q
theorem own_back {p : Program} {l : Launch} {e : Env} {R : Room} {s : State} {args : Array Value} {below : List Frame} {Z : State} {a0 : Array Value} {h : Heap} {vm0 : Vm} {y : MethodName} {bytes : ByteArray} {maxL : Nat} {ret : Option FieldType} {rm : Room} {len W : Nat} {as' : Array Value} {Q : Option Value → Heap → List Loc → Prop} {xs : List Addr}
    (hM : MetFree l y (head1 [Jvm.Cond.code y bytes maxL ret] rm) (fun a U => a = as' ∧ Z.Warmed39 U.vm ∧ U.heap = h ∧ CHv Z own_EL U.vm h ∧ ∀ x ∈ xs, Safe Z own_EL U.vm h x) (fun _ _ _ _ _ => True) (fun _ U o U' => ∃ v L, o = .returned v ∧ Q v U'.heap L ∧ CHr Z own_EL U.vm U.heap U'.vm U'.heap ∧ ReturnedEndW U o U' L rm.cells rm.slots))
    (hZ : Z.Warmed39 vm0) (wc : (Jvm.Cond.code y bytes maxL ret).before a0 Z = true) (wz : (Jvm.Cond.initialized y.cls).before a0 Z = true) (hf : rm.frames + 1 ≤ R.frames) (hl : W + (maxL + 11) + rm.locals ≤ R.locals) (hEL : EW Z a0 own_EL) (H : CHv Z own_EL vm0 h) (hs : ∀ x ∈ xs, Safe Z own_EL vm0 h x ∧ x < h.size) :
    BackS l R p e below (s.setVm vm0) args y len W (fun A a => a = as' ∧ A.U.heap = h ∧ A.cells + rm.cells ≤ R.cells ∧ A.slots + rm.slots ≤ R.slots)
      (fun A _ v B => ∃ L, Q v B.U.heap L ∧ B.locs = A.locs ++ L ∧ B.cells = A.cells + rm.cells ∧ B.slots = A.slots + rm.slots ∧ CHr Z own_EL vm0 h B.U.vm B.U.heap) :=
  BackS.of_freeW (bytes := bytes) (maxL := maxL) (ret := ret) (E := fun _ first o t L k n => k = rm.cells ∧ n = rm.slots ∧ (∃ v, o = .returned v ∧ Q v t.heap L) ∧ CHr Z own_EL first.vm first.heap t.vm t.heap) hM hf hl
    (fun m meth c A a Y hp => have hU : Z.Warmed39 A.U.vm := wtrans (s := s.setVm vm0) hZ Y.warmed
      ⟨by show (Jvm.Cond.and _ .tt).before a A.U = true; rw [Cond.before_and, mv hU wc]; rfl, mv hU wc, mv hU wz, hp.2.2.1, hp.2.2.2⟩)
    (fun m meth c A a g mk Y hp => ⟨hp.1, wtrans (s := s.setVm vm0) hZ Y.warmed, hp.2.1, (CHv.at Y hZ hEL H).1, fun x hx => (CHv.at Y hZ hEL H).safe (hs x hx).2 (hs x hx).1⟩) (fun _ _ _ _ _ _ _ _ _ => trivial)
    (fun _ _ _ _ ⟨v, L, h1, h2, h3, h4⟩ => ⟨L, _, _, h4, rfl, rfl, ⟨v, h1, h2⟩, h3⟩)
    (fun m meth c A a g mk v t L k n Y hp _ _ ⟨e1, e2, ⟨v', e3, e4⟩, e5⟩ => by
      cases e3; subst e1 e2
      refine ⟨L, e4, rfl, rfl, rfl, (CHv.at Y hZ hEL H).trans ?_⟩
      rw [← hp.2.1]; exact e5)
theorem d3_0 : decode jdk_42_method_149_code 0 = .ok (.aload_n 0, 1) := by decide +kernel
theorem d3_1 : decode jdk_42_method_149_code 1 = .ok (.invokespecial 1, 3) := by decide +kernel
theorem d3_4 : decode jdk_42_method_149_code 4 = .ok (.iload_n 3, 1) := by decide +kernel
theorem d3_5 : decode jdk_42_method_149_code 5 = .ok (.ifCond .ne 22, 3) := by decide +kernel
theorem d3_8 : decode jdk_42_method_149_code 8 = .ok (.aload_n 0, 1) := by decide +kernel
theorem d3_9 : decode jdk_42_method_149_code 9 = .ok (.ldc 7, 2) := by decide +kernel
theorem d3_11 : decode jdk_42_method_149_code 11 = .ok (.getfield 9, 3) := by decide +kernel
theorem d3_14 : decode jdk_42_method_149_code 14 = .ok (.putfield 9, 3) := by decide +kernel
theorem d3_17 : decode jdk_42_method_149_code 17 = .ok (.aload_n 0, 1) := by decide +kernel
theorem d3_18 : decode jdk_42_method_149_code 18 = .ok (.ldc 7, 2) := by decide +kernel
theorem d3_20 : decode jdk_42_method_149_code 20 = .ok (.getfield 15, 3) := by decide +kernel
theorem d3_23 : decode jdk_42_method_149_code 23 = .ok (.putfield 15, 3) := by decide +kernel
theorem d3_26 : decode jdk_42_method_149_code 26 = .ok (.return_, 1) := by decide +kernel
theorem ef_si4_0 (m : MethodId) (x0 : Addr) (x1 : Addr) (x2 : Int32) (x3 : Int32) : entryFrame m #[(.ref x0), (.ref x1), (.int x2), (.int x3), .null] 6 = mkF m 0 #[.val (.ref x0), .val (.ref x1), .val (.int x2), .val (.int x3), .val .null, .unset] [] := by first | (simp [entryFrame, mkF, argsToLocals, Value.category]; done) | rfl | (simp [entryFrame, mkF, argsToLocals, own_catI, own_catR, *]; done)
def Q_si4_0 (Z : State) (sa : Addr) (u1 : Value) (u2 : Value) (ca : Addr) (ck : ClassId) (cps : Int32) (h0 : Heap) (n0 : Nat) (v : Option Value) (h : Heap) (L : List Loc) : Prop := ∃ (sb : Addr), ∃ (sk : ClassId), v = none ∧ Fr n0 L ∧ Keep h0 h [sa] ∧ Exa Z h sa "java/lang/String" ∧ Fld Z h sa "java/lang/String" "coder" "B" (.int (0 : Int32)) ∧ Fld Z h sa "java/lang/String" "value" "[B" (.ref sb) ∧ Arv Z h sb sk .byte (own_ln ([] : List Int32)) (([] : List Int32).map Value.int) (.int (0 : Int32))
set_option maxRecDepth 65536 in
set_option maxHeartbeats 40000000 in
theorem si4_0 (l : Launch) (Z : State) (a0 : Array Value) (hw : ∀ d ∈ tables_1, d.before a0 Z = true) (ws : List Jvm.Cond) (sa : Addr) (u1 : Value) (u2 : Value) (ca : Addr) (ck : ClassId) (cps : Int32) (h0 : Heap) (n0 : Nat) (Z0 : n0 ≤ h0.size) (F0_sa : Exa Z h0 sa "java/lang/String") (F1_sa_value : Fld Z h0 sa "java/lang/String" "value" "[B" u1) (F2_sa_coder : Fld Z h0 sa "java/lang/String" "coder" "B" u2) (F3_ca : Arv Z h0 ca ck .char (0 : Int32) [] (.int (0 : Int32))) (F4_java_lang_String : Sta Z Z.heap "java/lang/String" "COMPACT_STRINGS" "Z" (.int cps)) (F5_ : Old Z n0 h0) (hcps : ¬ (cps = (0 : Int32))) (hp1 : n0 ≤ sa) (hp2 : sa ≠ ca) :
    MetFree l (⟨"java/lang/String", "<init>", "([CIILjava/lang/Void;)V"⟩ : MethodName) (head1 (Jvm.Cond.code (⟨"java/lang/String", "<init>", "([CIILjava/lang/Void;)V"⟩ : MethodName) jdk_42_method_149_code 6 none :: ws) ({ frames := 1, cells := 4, slots := 8, locals := 12 } : Room)) (fun a U => a = #[(.ref sa), (.ref ca), (.int (0 : Int32)), (.int (0 : Int32)), .null] ∧ Z.Warmed39 U.vm ∧ U.heap = h0 ∧ CHv Z own_EL U.vm h0 ∧ ∀ x ∈ ([sa] : List Addr), Safe Z own_EL U.vm h0 x) (fun _ _ _ _ _ => True) (fun _ U o U' => ∃ v L, o = .returned v ∧ Q_si4_0 Z sa u1 u2 ca ck cps h0 n0 v U'.heap L ∧ CHr Z own_EL U.vm U.heap U'.vm U'.heap ∧ ReturnedEndW U o U' L ({ frames := 1, cells := 4, slots := 8, locals := 12 } : Room).cells ({ frames := 1, cells := 4, slots := 8, locals := 12 } : Room).slots) := by
  refine MetFree.of_bodySF (plainFor_of_name pn_0) hisR ?_
  intro p e s m args below meth c s₁ Bd hml0 hP hK
  obtain ⟨rfl, hZ, hh, hCH, hSF⟩ := hP
  have hx := Bd.exec
  have hby := Bd.bytes
  have hml : c.maxLocals = 6 := hml0
  have hown : s.vm.findClass "java/lang/String" = some m.cls := findClass_of_methodNamed Bd.named
  have hnm := (name_of_methodNamed Bd.named Bd.method).1
  have X0 : Stand p l e ({ frames := 1, cells := 4, slots := 8, locals := 12 } : Room) (s.setVm s.vm) m #[(.ref sa), (.ref ca), (.int (0 : Int32)), (.int (0 : Int32)), .null] below meth c s₁ [] 0 0 := Stand.of_body Bd
  have e0 : s₁.heap = h0 := by rw [← hh, Bd.state]; rfl
  have N0 := Fr.nil n0
  have hS0 : s.Since s.vm 0 := (State.WarmedH.refl s).since 0
  have hk0 : 0 ≤ h0.size := Nat.zero_le _
  have hEL := own_ew hw
  have CR0 : CHr Z own_EL s.vm h0 s.vm h0 := CHr.refl hCH
  obtain ⟨G, hG⟩ : ∃ G : State → Prop, G = (fun U' => ∃ o, U'.status = .running ∧ Ended U' below o ∧ ∃ v L, o = .returned v ∧ Q_si4_0 Z sa u1 u2 ca ck cps h0 n0 v U'.heap L ∧ CHr Z own_EL s.vm s.heap U'.vm U'.heap ∧ ReturnedEndW s o U' L ({ frames := 1, cells := 4, slots := 8, locals := 12 } : Room).cells ({ frames := 1, cells := 4, slots := 8, locals := 12 } : Room).slots) := ⟨_, rfl⟩
  suffices key : Gl p.tables e below s₁ (mkF m 0 #[.val (.ref sa), .val (.ref ca), .val (.int (0 : Int32)), .val (.int (0 : Int32)), .val .null, .unset] []) G by
    obtain ⟨s₂, k1, k2⟩ := key
    rw [hG] at k2
    obtain ⟨o, k3, k4, k5⟩ := k2
    exact ⟨s₂, o, castTop (ef_si4_0 m sa ca (0 : Int32) (0 : Int32)) k1, k3, k4, k5⟩
  show Gl p.tables e below s₁ (mkF m 0 #[.val (.ref sa), .val (.ref ca), .val (.int (0 : Int32)), .val (.int (0 : Int32)), .val .null, .unset] []) G
  refine Gl.via (fun _ k => XS.aloadN X0.here hx rfl (hb hby d3_0) rfl rfl k) ?_
  show Gl p.tables e below s₁ (mkF m 1 #[.val (.ref sa), .val (.ref ca), .val (.int (0 : Int32)), .val (.int (0 : Int32)), .val .null, .unset] [(.ref sa)]) G
  obtain ⟨T1, X1, e1, st1⟩ := initO X0 hx hZ hown (hw _ (List.mem_of_getElem? (i := 15) rfl)) (hw _ (List.mem_of_getElem? (i := 16) rfl)) (hw _ (List.mem_of_getElem? (i := 17) rfl)) e0 (g := (mkF m 1 #[.val (.ref sa), .val (.ref ca), .val (.int (0 : Int32)), .val (.int (0 : Int32)), .val .null, .unset] [(.ref sa)])) rfl (by rw [hml]; rfl) rfl (hb hby d3_1) (by decide) (W := 0) (by show 2 * 0 + _ ≤ _; exact Nat.le_of_eq rfl) (by decide)
  refine Gl.via st1 ?_
  show Gl p.tables e below T1 (mkF m 4 #[.val (.ref sa), .val (.ref ca), .val (.int (0 : Int32)), .val (.int (0 : Int32)), .val .null, .unset] []) G
  refine Gl.via (fun _ k => XS.iloadN X1.here hx rfl (hb hby d3_4) rfl k) ?_
  show Gl p.tables e below T1 (mkF m 5 #[.val (.ref sa), .val (.ref ca), .val (.int (0 : Int32)), .val (.int (0 : Int32)), .val .null, .unset] [(.int (0 : Int32))]) G
  refine Gl.via (fun _ k => XS.ifNo X1.here hx rfl (hb hby d3_5) rfl ((if0 _ _).trans (teq (by decide)).2) k) ?_
  show Gl p.tables e below T1 (mkF m 8 #[.val (.ref sa), .val (.ref ca), .val (.int (0 : Int32)), .val (.int (0 : Int32)), .val .null, .unset] []) G
  refine Gl.via (fun _ k => XS.aloadN X1.here hx rfl (hb hby d3_8) rfl rfl k) ?_
  show Gl p.tables e below T1 (mkF m 9 #[.val (.ref sa), .val (.ref ca), .val (.int (0 : Int32)), .val (.int (0 : Int32)), .val .null, .unset] [(.ref sa)]) G
  obtain ⟨a2, T2, h2, k2, b2, c2, X2, e2, E2, hS2, hk2, hZ2, hown2, P2a, P2c, P2v, P2r, la2, lb2, hC2, -, hsf2, st2⟩ := ldcCH X1 hx hZ hown (hw _ (List.mem_of_getElem? (i := 60) rfl)) (own_wS hw) e1 hS0 hk0 hEL (by decide) CR0.1 (vs := []) (z := (0 : Int32)) ⟨by decide, rfl⟩ (by decide) rfl (g := (mkF m 9 #[.val (.ref sa), .val (.ref ca), .val (.int (0 : Int32)), .val (.int (0 : Int32)), .val .null, .unset] [(.ref sa)])) rfl (hb hby d3_9) (n := 0) (by decide) (by decide) (by decide) (by decide)
  have CR3 : CHr Z own_EL s.vm h0 T2.vm h2 := CHr.trans CR0 hC2
  have SF4 : Safe Z own_EL T2.vm h2 sa := hC2.safe (by have q := F0_sa.lt; exact q) (hSF sa (List.mem_of_getElem? (i := 0) rfl))
  refine Gl.via st2 ?_
  have Z5 : n0 ≤ h2.size := Nat.le_trans Z0 E2.1
  have Y6 : h0.size ≤ h2.size := Nat.le_trans (Nat.le_refl h0.size) E2.1
  have hl7 := Nat.le_trans hk0 E2.1
  have ne8 : sa ≠ a2 ∧ sa ≠ b2 := hsf2 sa SF4
  have G9 : Arv Z h2 ca ck .char (0 : Int32) [] (.int (0 : Int32)) := (F3_ca.ext E2)
  have ne10 : ca ≠ a2 ∧ ca ≠ b2 := hsf2 ca (Safe.arv hZ2.alike G9 (by decide))
  show Gl p.tables e below T2 (mkF m 11 #[.val (.ref sa), .val (.ref ca), .val (.int (0 : Int32)), .val (.int (0 : Int32)), .val .null, .unset] [(.ref a2), (.ref sa)]) G
  obtain ⟨T11, X11, e11, st11⟩ := getF X2 hx hZ2 hown2 (host := "") (Or.inl (hw _ (List.mem_of_getElem? (i := 32) rfl))) Via.refl e2 P2v (g := (mkF m 11 #[.val (.ref sa), .val (.ref ca), .val (.int (0 : Int32)), .val (.int (0 : Int32)), .val .null, .unset] [(.ref a2), (.ref sa)])) rfl rfl (hb hby d3_11)
  refine Gl.via st11 ?_
  show Gl p.tables e below T11 (mkF m 14 #[.val (.ref sa), .val (.ref ca), .val (.int (0 : Int32)), .val (.int (0 : Int32)), .val .null, .unset] [(.ref b2), (.ref sa)]) G
  have G12 : Fld Z h2 sa "java/lang/String" "value" "[B" u1 := (F1_sa_value.ext E2)
  have G13 : Exa Z h2 sa "java/lang/String" := (F0_sa.ext E2)
  obtain ⟨T14, h14, X14, e14, W14, st14⟩ := putF X11 hx hZ2 hown2 (host := "") (Or.inl (hw _ (List.mem_of_getElem? (i := 32) rfl))) Via.refl e11 G12 G13 (Or.inr ⟨(hw _ (List.mem_of_getElem? (i := 33) rfl)), rfl, hnm⟩) (hw _ (List.mem_of_getElem? (i := 5) rfl)) (ty := (.array .byte)) (by decide) rfl rfl (g := (mkF m 14 #[.val (.ref sa), .val (.ref ca), .val (.int (0 : Int32)), .val (.int (0 : Int32)), .val .null, .unset] [(.ref b2), (.ref sa)])) rfl rfl (hb hby d3_14)
  have CR15 : CHr Z own_EL s.vm h0 T2.vm h14 := CHr.trans CR3 (CHr.wr W14 SF4 CR3.1)
  have SF16 : Safe Z own_EL T2.vm h14 sa := Safe.wr W14 SF4 CR3.1 SF4
  refine Gl.via st14 ?_
  have N14_ := Fr.snoc X14 N0 hp1
  have Z17 : n0 ≤ h14.size := Nat.le_trans Z5 (Keep.of_wr W14).1
  have Y18 : h0.size ≤ h14.size := Nat.le_trans Y6 (Keep.of_wr W14).1
  have hl19 := Nat.le_trans hk2 (Keep.of_wr W14).1
  show Gl p.tables e below T14 (mkF m 17 #[.val (.ref sa), .val (.ref ca), .val (.int (0 : Int32)), .val (.int (0 : Int32)), .val .null, .unset] []) G
  refine Gl.via (fun _ k => XS.aloadN X14.here hx rfl (hb hby d3_17) rfl rfl k) ?_
  show Gl p.tables e below T14 (mkF m 18 #[.val (.ref sa), .val (.ref ca), .val (.int (0 : Int32)), .val (.int (0 : Int32)), .val .null, .unset] [(.ref sa)]) G
  have G21 : Exa Z h14 sa "java/lang/String" := (G13.wr W14)
  obtain ⟨a20, T20, h20, k20, b20, c20, X20, e20, E20, hS20, hk20, hZ20, hown20, P20a, P20c, P20v, P20r, la20, lb20, hC20, -, hsf20, st20⟩ := ldcCH X14 hx hZ2 hown2 (hw _ (List.mem_of_getElem? (i := 60) rfl)) (own_wS hw) e14 hS2 hl19 hEL (by decide) CR15.1 (vs := []) (z := (0 : Int32)) ⟨by decide, rfl⟩ (by decide) rfl (g := (mkF m 18 #[.val (.ref sa), .val (.ref ca), .val (.int (0 : Int32)), .val (.int (0 : Int32)), .val .null, .unset] [(.ref sa)])) rfl (hb hby d3_18) (n := 0) (by decide) (by decide) (by decide) (by decide)
  have CR22 : CHr Z own_EL s.vm h0 T20.vm h20 := CHr.trans CR15 hC20
  have SF23 : Safe Z own_EL T20.vm h20 sa := hC20.safe (by have q := G21.lt; exact q) SF16
  refine Gl.via st20 ?_
  have Z24 : n0 ≤ h20.size := Nat.le_trans Z17 E20.1
  have Y25 : h0.size ≤ h20.size := Nat.le_trans Y18 E20.1
  have hl26 := Nat.le_trans hl19 E20.1
  have ne27 : sa ≠ a20 ∧ sa ≠ b20 := hsf20 sa SF23
  have G28 : Arv Z h20 ca ck .char (0 : Int32) [] (.int (0 : Int32)) := ((G9.other W14 (Ne.symm hp2)).ext E20)
  have ne29 : ca ≠ a20 ∧ ca ≠ b20 := hsf20 ca (Safe.arv hZ20.alike G28 (by decide))
  show Gl p.tables e below T20 (mkF m 20 #[.val (.ref sa), .val (.ref ca), .val (.int (0 : Int32)), .val (.int (0 : Int32)), .val .null, .unset] [(.ref a20), (.ref sa)]) G
  obtain ⟨T30, X30, e30, st30⟩ := getF X20 hx hZ20 hown20 (host := "") (Or.inl (hw _ (List.mem_of_getElem? (i := 30) rfl))) Via.refl e20 P20c (g := (mkF m 20 #[.val (.ref sa), .val (.ref ca), .val (.int (0 : Int32)), .val (.int (0 : Int32)), .val .null, .unset] [(.ref a20), (.ref sa)])) rfl rfl (hb hby d3_20)
  refine Gl.via st30 ?_
  show Gl p.tables e below T30 (mkF m 23 #[.val (.ref sa), .val (.ref ca), .val (.int (0 : Int32)), .val (.int (0 : Int32)), .val .null, .unset] [(.int (0 : Int32)), (.ref sa)]) G
  have G31 : Fld Z h20 sa "java/lang/String" "coder" "B" u2 := (((F2_sa_coder.ext E2).other W14 (Or.inr (slot_ne (Or.inr (hw _ (List.mem_of_getElem? (i := 31) rfl))) (Or.inr (hw _ (List.mem_of_getElem? (i := 33) rfl))) (by decide) (t := .byte) (t' := (.array .byte)) (by decide) (by decide)))).ext E20)
  have G32 : Exa Z h20 sa "java/lang/String" := (G21.ext E20)
  obtain ⟨T33, h33, X33, e33, W33, st33⟩ := putFN X30 hx hZ20 hown20 (hw _ (List.mem_of_getElem? (i := 30) rfl)) Via.refl e30 G31 G32 (Or.inr ⟨(hw _ (List.mem_of_getElem? (i := 31) rfl)), rfl, hnm⟩) (hw _ (List.mem_of_getElem? (i := 5) rfl)) (ty := .byte) (v' := (.int (0 : Int32))) (by decide) rfl (by decide) (g := (mkF m 23 #[.val (.ref sa), .val (.ref ca), .val (.int (0 : Int32)), .val (.int (0 : Int32)), .val .null, .unset] [(.int (0 : Int32)), (.ref sa)])) rfl rfl (hb hby d3_23)
  have CR34 : CHr Z own_EL s.vm h0 T20.vm h33 := CHr.trans CR22 (CHr.wr W33 SF23 CR22.1)
  have SF35 : Safe Z own_EL T20.vm h33 sa := Safe.wr W33 SF23 CR22.1 SF23
  refine Gl.via st33 ?_
  have N33_ := Fr.snoc X33 N14_ hp1
  have Z36 : n0 ≤ h33.size := Nat.le_trans Z24 (Keep.of_wr W33).1
  have Y37 : h0.size ≤ h33.size := Nat.le_trans Y25 (Keep.of_wr W33).1
  have hl38 := Nat.le_trans hk20 (Keep.of_wr W33).1
  show Gl p.tables e below T33 (mkF m 26 #[.val (.ref sa), .val (.ref ca), .val (.int (0 : Int32)), .val (.int (0 : Int32)), .val .null, .unset] []) G
  obtain ⟨fs, hr, hrun, hended, hRW⟩ := X33.leaveW hS20 (by rw [e33]; exact hl38) (v := none) (fun _ => rfl)
  have G39 : Exa Z h33 sa "java/lang/String" := (G32.wr W33)
  have G40 : Fld Z h33 sa "java/lang/String" "value" "[B" (.ref b2) := (((Fld.same W14 G12).ext E20).other W33 (Or.inr (slot_ne (Or.inr (hw _ (List.mem_of_getElem? (i := 33) rfl))) (Or.inr (hw _ (List.mem_of_getElem? (i := 31) rfl))) (by decide) (t := (.array .byte)) (t' := .byte) (by decide) (by decide))))
  have G41 : Arv Z h33 b2 c2 .byte (0 : Int32) [] (.int (0 : Int32)) := (((P2r.other W14 (Ne.symm ne8.2)).ext E20).other W33 (Ne.symm ne8.2))
  have hq : ∀ L, Fr n0 L → Q_si4_0 Z sa u1 u2 ca ck cps h0 n0 (none) T33.heap L := by
    intro L hN
    rw [e33]
    exact ⟨b2, c2, rfl, hN, (((((Keep.refl h0 [sa]).ext E2).wr W14 (Or.inl (List.mem_of_getElem? (i := 0) rfl))).ext E20).wr W33 (Or.inl (List.mem_of_getElem? (i := 0) rfl))), G39, (Fld.same W33 G31), G40, G41⟩
  have hc : CHr Z own_EL s.vm s.heap T33.vm T33.heap := by
    rw [hh, e33]
    exact CHr.trans CR34 (CHv.at X33 hZ20 hEL CR34.1)
  rw [hG]
  exact Gl.fin (X33.returnOut hx Bd.returns (hb hby d3_26) hr) ⟨_, hrun, hended, _, _, rfl, hq _ N33_, hc, ⟨hRW.1, hRW.2.1, hRW.2.2.1, hRW.2.2.2.mono (by decide) (by decide)⟩⟩
theorem d2_0 : decode jdk_42_method_3_code 0 = .ok (.aload_n 0, 1) := by decide +kernel
theorem d2_1 : decode jdk_42_method_3_code 1 = .ok (.aload_n 1, 1) := by decide +kernel
theorem d2_2 : decode jdk_42_method_3_code 2 = .ok (.iconst 0, 1) := by decide +kernel
theorem d2_3 : decode jdk_42_method_3_code 3 = .ok (.aload_n 1, 1) := by decide +kernel
theorem d2_4 : decode jdk_42_method_3_code 4 = .ok (.arraylength, 1) := by decide +kernel
theorem d2_5 : decode jdk_42_method_3_code 5 = .ok (.aconst_null, 1) := by decide +kernel
theorem d2_6 : decode jdk_42_method_3_code 6 = .ok (.invokespecial 27, 3) := by decide +kernel
theorem pd_16 : parseMethodDescriptor "([CIILjava/lang/Void;)V" = some ⟨[(.array .char), .int, .int, (.object "java/lang/Void")], none⟩ := by decide +kernel
theorem d2_9 : decode jdk_42_method_3_code 9 = .ok (.return_, 1) := by decide +kernel
theorem ef_si1_0 (m : MethodId) (x0 : Addr) (x1 : Addr) : entryFrame m #[(.ref x0), (.ref x1)] 2 = mkF m 0 #[.val (.ref x0), .val (.ref x1)] [] := by first | (simp [entryFrame, mkF, argsToLocals, Value.category]; done) | rfl | (simp [entryFrame, mkF, argsToLocals, own_catI, own_catR, *]; done)
def Q_si1_0 (Z : State) (sa : Addr) (u1 : Value) (u2 : Value) (ca : Addr) (ck : ClassId) (cps : Int32) (h0 : Heap) (n0 : Nat) (v : Option Value) (h : Heap) (L : List Loc) : Prop := ∃ (sb : Addr), ∃ (sk : ClassId), v = none ∧ Fr n0 L ∧ Keep h0 h [sa] ∧ Exa Z h sa "java/lang/String" ∧ Fld Z h sa "java/lang/String" "coder" "B" (.int (0 : Int32)) ∧ Fld Z h sa "java/lang/String" "value" "[B" (.ref sb) ∧ Arv Z h sb sk .byte (own_ln ([] : List Int32)) (([] : List Int32).map Value.int) (.int (0 : Int32))
set_option maxRecDepth 65536 in
set_option maxHeartbeats 40000000 in
theorem si1_0 (l : Launch) (Z : State) (a0 : Array Value) (hw : ∀ d ∈ tables_1, d.before a0 Z = true) (ws : List Jvm.Cond) (sa : Addr) (u1 : Value) (u2 : Value) (ca : Addr) (ck : ClassId) (cps : Int32) (h0 : Heap) (n0 : Nat) (Z0 : n0 ≤ h0.size) (F0_sa : Exa Z h0 sa "java/lang/String") (F1_sa_value : Fld Z h0 sa "java/lang/String" "value" "[B" u1) (F2_sa_coder : Fld Z h0 sa "java/lang/String" "coder" "B" u2) (F3_ca : Arv Z h0 ca ck .char (0 : Int32) [] (.int (0 : Int32))) (F4_java_lang_String : Sta Z Z.heap "java/lang/String" "COMPACT_STRINGS" "Z" (.int cps)) (F5_ : Old Z n0 h0) (hcps : ¬ (cps = (0 : Int32))) (hp1 : n0 ≤ sa) (hp2 : sa ≠ ca) :
    MetFree l (⟨"java/lang/String", "<init>", "([C)V"⟩ : MethodName) (head1 (Jvm.Cond.code (⟨"java/lang/String", "<init>", "([C)V"⟩ : MethodName) jdk_42_method_3_code 2 none :: ws) ({ frames := 2, cells := 4, slots := 8, locals := 29 } : Room)) (fun a U => a = #[(.ref sa), (.ref ca)] ∧ Z.Warmed39 U.vm ∧ U.heap = h0 ∧ CHv Z own_EL U.vm h0 ∧ ∀ x ∈ ([sa] : List Addr), Safe Z own_EL U.vm h0 x) (fun _ _ _ _ _ => True) (fun _ U o U' => ∃ v L, o = .returned v ∧ Q_si1_0 Z sa u1 u2 ca ck cps h0 n0 v U'.heap L ∧ CHr Z own_EL U.vm U.heap U'.vm U'.heap ∧ ReturnedEndW U o U' L ({ frames := 2, cells := 4, slots := 8, locals := 29 } : Room).cells ({ frames := 2, cells := 4, slots := 8, locals := 29 } : Room).slots) := by
  refine MetFree.of_bodySF (plainFor_of_name pn_0) hisR ?_
  intro p e s m args below meth c s₁ Bd hml0 hP hK
  obtain ⟨rfl, hZ, hh, hCH, hSF⟩ := hP
  have hx := Bd.exec
  have hby := Bd.bytes
  have hml : c.maxLocals = 2 := hml0
  have hown : s.vm.findClass "java/lang/String" = some m.cls := findClass_of_methodNamed Bd.named
  have hnm := (name_of_methodNamed Bd.named Bd.method).1
  have X0 : Stand p l e ({ frames := 2, cells := 4, slots := 8, locals := 29 } : Room) (s.setVm s.vm) m #[(.ref sa), (.ref ca)] below meth c s₁ [] 0 0 := Stand.of_body Bd
  have e0 : s₁.heap = h0 := by rw [← hh, Bd.state]; rfl
  have N0 := Fr.nil n0
  have hS0 : s.Since s.vm 0 := (State.WarmedH.refl s).since 0
  have hk0 : 0 ≤ h0.size := Nat.zero_le _
  have hEL := own_ew hw
  have CR0 : CHr Z own_EL s.vm h0 s.vm h0 := CHr.refl hCH
  obtain ⟨G, hG⟩ : ∃ G : State → Prop, G = (fun U' => ∃ o, U'.status = .running ∧ Ended U' below o ∧ ∃ v L, o = .returned v ∧ Q_si1_0 Z sa u1 u2 ca ck cps h0 n0 v U'.heap L ∧ CHr Z own_EL s.vm s.heap U'.vm U'.heap ∧ ReturnedEndW s o U' L ({ frames := 2, cells := 4, slots := 8, locals := 29 } : Room).cells ({ frames := 2, cells := 4, slots := 8, locals := 29 } : Room).slots) := ⟨_, rfl⟩
  suffices key : Gl p.tables e below s₁ (mkF m 0 #[.val (.ref sa), .val (.ref ca)] []) G by
    obtain ⟨s₂, k1, k2⟩ := key
    rw [hG] at k2
    obtain ⟨o, k3, k4, k5⟩ := k2
    exact ⟨s₂, o, castTop (ef_si1_0 m sa ca) k1, k3, k4, k5⟩
  show Gl p.tables e below s₁ (mkF m 0 #[.val (.ref sa), .val (.ref ca)] []) G
  refine Gl.via (fun _ k => XS.aloadN X0.here hx rfl (hb hby d2_0) rfl rfl k) ?_
  show Gl p.tables e below s₁ (mkF m 1 #[.val (.ref sa), .val (.ref ca)] [(.ref sa)]) G
  refine Gl.via (fun _ k => XS.aloadN X0.here hx rfl (hb hby d2_1) rfl rfl k) ?_
  show Gl p.tables e below s₁ (mkF m 2 #[.val (.ref sa), .val (.ref ca)] [(.ref ca), (.ref sa)]) G
  refine Gl.via (fun _ k => XS.iconst X0.here hx rfl (hb hby d2_2) k) ?_
  show Gl p.tables e below s₁ (mkF m 3 #[.val (.ref sa), .val (.ref ca)] [(.int (0 : Int32)), (.ref ca), (.ref sa)]) G
  refine Gl.via (fun _ k => XS.aloadN X0.here hx rfl (hb hby d2_3) rfl rfl k) ?_
  show Gl p.tables e below s₁ (mkF m 4 #[.val (.ref sa), .val (.ref ca)] [(.ref ca), (.int (0 : Int32)), (.ref ca), (.ref sa)]) G
  obtain ⟨cl1, Ar1, -, S1, N1, -, -⟩ := id F3_ca
  refine Gl.via (fun _ k => X0.arraylength hx (by rw [e0]; exact Ar1.1) (State.isArrayOf_alike hZ.alike Ar1.2.1) (g := (mkF m 4 #[.val (.ref sa), .val (.ref ca)] [(.ref ca), (.int (0 : Int32)), (.ref ca), (.ref sa)])) rfl rfl (hb hby d2_4) _ k) ?_
  rw [len_of S1 N1]
  show Gl p.tables e below s₁ (mkF m 5 #[.val (.ref sa), .val (.ref ca)] [(.int (0 : Int32)), (.int (0 : Int32)), (.ref ca), (.ref sa)]) G
  refine Gl.via (fun _ k => XS.aconstNull X0.here hx rfl (hb hby d2_5) k) ?_
  show Gl p.tables e below s₁ (mkF m 6 #[.val (.ref sa), .val (.ref ca)] [.null, (.int (0 : Int32)), (.int (0 : Int32)), (.ref ca), (.ref sa)]) G
  obtain ⟨_, _, ⟨T2, L2, k2, n2⟩, -, Xb2, hSb2, hgb2, ⟨Lc2, hQ2, l2, y2, z2, hC2⟩, st2⟩ := X0.specialBackS hx (y := (⟨"java/lang/String", "<init>", "([CIILjava/lang/Void;)V"⟩ : MethodName)) rfl hown (mvT hZ (hw _ (List.mem_of_getElem? (i := 11) rfl))) (mvT hZ (hw _ (List.mem_of_getElem? (i := 12) rfl))) (mvT hZ (hw _ (List.mem_of_getElem? (i := 14) rfl))) (by decide) (own_back (W := 0) (si4_0 l Z a0 hw [] sa u1 u2 ca ck cps h0 n0 Z0 F0_sa F1_sa_value F2_sa_coder F3_ca F4_java_lang_String F5_ hcps hp1 hp2) hZ (hw _ (List.mem_of_getElem? (i := 14) rfl)) (hw _ (List.mem_of_getElem? (i := 6) rfl)) (by decide) (by decide) hEL CR0.1 (own_xs ⟨(hSF sa (List.mem_of_getElem? (i := 0) rfl)), F0_sa.lt⟩ (fun _ z => nomatch z))) (g := (mkF m 6 #[.val (.ref sa), .val (.ref ca)] [.null, (.int (0 : Int32)), (.int (0 : Int32)), (.ref ca), (.ref sa)])) rfl (by rw [hml]; rfl) (Steps.refl _) (a := sa) (argsL := [(.ref ca), (.int (0 : Int32)), (.int (0 : Int32)), .null]) (rest := []) (lenOf pd_16 rfl) rfl (by show 2 * 0 + _ ≤ _; exact Nat.le_of_eq rfl) (hb hby d2_6) (fun _ _ => ⟨rfl, e0, (by decide : 0 + 4 ≤ _), (by decide : 0 + 8 ≤ _)⟩)
  dsimp only [Pt.U, Pt.locs, Pt.cells, Pt.slots] at Xb2 hSb2 hgb2 l2 y2 z2 st2 hQ2 hC2
  subst l2 y2 z2
  obtain ⟨X2, hS2, hZ2, hown2⟩ := rebS hS0 (by rw [e0]; exact hk0) Xb2 hSb2 hgb2 hZ hown
  have hk2 : T2.heap.size ≤ T2.heap.size := Nat.le_refl _
  obtain ⟨sb_2, sk_2, rfl, N2q, K2, P3, P4, P5, P6⟩ := hQ2
  have N2_ := Fr.app N0 N2q
  refine Gl.via (fun _ k => st2.trans k) ?_
  have CR7 : CHr Z own_EL s.vm h0 T2.vm T2.heap := CHr.trans CR0 hC2
  have SF8 : Safe Z own_EL T2.vm T2.heap sa := hC2.safe (by have q := F0_sa.lt; exact q) (hSF sa (List.mem_of_getElem? (i := 0) rfl))
  have Z9 : n0 ≤ T2.heap.size := Nat.le_trans Z0 K2.1
  have Y10 : h0.size ≤ T2.heap.size := Nat.le_trans (Nat.le_refl h0.size) K2.1
  have hl11 := Nat.le_trans hk0 K2.1
  show Gl p.tables e below T2 (mkF m 9 #[.val (.ref sa), .val (.ref ca)] []) G
  obtain ⟨fs, hr, hrun, hended, hRW⟩ := X2.leaveW hS2 hk2 (v := none) (fun _ => rfl)
  have hq : ∀ L, Fr n0 L → Q_si1_0 Z sa u1 u2 ca ck cps h0 n0 (none) T2.heap L := by
    intro L hN
    exact ⟨sb_2, sk_2, rfl, hN, ((Keep.refl h0 [sa]).trans K2 (allS (Or.inl (List.mem_of_getElem? (i := 0) rfl)) all0)), P3, P4, P5, P6⟩
  have hc : CHr Z own_EL s.vm s.heap T2.vm T2.heap := by
    rw [hh]
    exact CHr.trans CR7 (CHv.at X2 hZ2 hEL CR7.1)
  rw [hG]
  exact Gl.fin (X2.returnOut hx Bd.returns (hb hby d2_9) hr) ⟨_, hrun, hended, _, _, rfl, hq _ N2_, hc, ⟨hRW.1, hRW.2.1, hRW.2.2.1, hRW.2.2.2.mono (by decide) (by decide)⟩⟩
theorem pn_6 : plainName "java/lang/StringUTF16" = true := by first | (simp [plainName, overriddenIn]; done) | decide +kernel
theorem d6_0 : decode jdk_52_method_21_code 0 = .ok (.iconst 0, 1) := by decide +kernel
theorem d6_1 : decode jdk_52_method_21_code 1 = .ok (.istore 5, 2) := by decide +kernel
theorem d6_3 : decode jdk_52_method_21_code 3 = .ok (.iload 5, 2) := by decide +kernel
theorem d6_5 : decode jdk_52_method_21_code 5 = .ok (.iload 4, 2) := by decide +kernel
theorem d6_7 : decode jdk_52_method_21_code 7 = .ok (.if_icmp .ge 37, 3) := by decide +kernel
theorem d6_10 : decode jdk_52_method_21_code 10 = .ok (.aload_n 0, 1) := by decide +kernel
theorem d6_11 : decode jdk_52_method_21_code 11 = .ok (.iload_n 1, 1) := by decide +kernel
theorem d6_12 : decode jdk_52_method_21_code 12 = .ok (.caload, 1) := by decide +kernel
theorem d6_13 : decode jdk_52_method_21_code 13 = .ok (.istore 6, 2) := by decide +kernel
theorem d6_15 : decode jdk_52_method_21_code 15 = .ok (.iload 6, 2) := by decide +kernel
theorem d6_17 : decode jdk_52_method_21_code 17 = .ok (.sipush 255, 3) := by decide +kernel
theorem d6_20 : decode jdk_52_method_21_code 20 = .ok (.if_icmp .le 6, 3) := by decide +kernel
theorem d6_26 : decode jdk_52_method_21_code 26 = .ok (.aload_n 2, 1) := by decide +kernel
theorem d6_27 : decode jdk_52_method_21_code 27 = .ok (.iload_n 3, 1) := by decide +kernel
theorem d6_28 : decode jdk_52_method_21_code 28 = .ok (.iload 6, 2) := by decide +kernel
theorem d6_30 : decode jdk_52_method_21_code 30 = .ok (.i2b, 1) := by decide +kernel
theorem d6_31 : decode jdk_52_method_21_code 31 = .ok (.bastore, 1) := by decide +kernel
theorem d6_32 : decode jdk_52_method_21_code 32 = .ok (.iinc 1 1, 3) := by decide +kernel
theorem d6_35 : decode jdk_52_method_21_code 35 = .ok (.iinc 3 1, 3) := by decide +kernel
theorem d6_38 : decode jdk_52_method_21_code 38 = .ok (.iinc 5 1, 3) := by decide +kernel
theorem d6_41 : decode jdk_52_method_21_code 41 = .ok (.goto (-38), 3) := by decide +kernel
theorem d6_44 : decode jdk_52_method_21_code 44 = .ok (.iload 4, 2) := by decide +kernel
theorem d6_46 : decode jdk_52_method_21_code 46 = .ok (.ireturn, 1) := by decide +kernel
theorem ef_u5_2 (m : MethodId) (x0 : Addr) (x1 : Int32) (x2 : Addr) (x3 : Int32) (x4 : Int32) : entryFrame m #[(.ref x0), (.int x1), (.ref x2), (.int x3), (.int x4)] 7 = mkF m 0 #[.val (.ref x0), .val (.int x1), .val (.ref x2), .val (.int x3), .val (.int x4), .unset, .unset] [] := by first | (simp [entryFrame, mkF, argsToLocals, Value.category]; done) | rfl | (simp [entryFrame, mkF, argsToLocals, own_catI, own_catR, *]; done)
def Q_u5_2 (Z : State) (ca : Addr) (ck : ClassId) (db : Addr) (dk : ClassId) (c0 : Int32) (c1 : Int32) (h0 : Heap) (n0 : Nat) (v : Option Value) (h : Heap) (L : List Loc) : Prop := v = some (.int (2 : Int32)) ∧ Fr n0 L ∧ Keep h0 h [db] ∧ Arv Z h db dk .byte (2 : Int32) [(.int (c0.toInt8.toInt32)), (.int (c1.toInt8.toInt32))] (.int (0 : Int32))
set_option maxRecDepth 65536 in
set_option maxHeartbeats 40000000 in
theorem u5_2 (l : Launch) (Z : State) (a0 : Array Value) (hw : ∀ d ∈ tables_1, d.before a0 Z = true) (ws : List Jvm.Cond) (ca : Addr) (ck : ClassId) (db : Addr) (dk : ClassId) (c0 : Int32) (c1 : Int32) (h0 : Heap) (n0 : Nat) (Z0 : n0 ≤ h0.size) (F0_ca : Arv Z h0 ca ck .char (2 : Int32) [(.int c0), (.int c1)] (.int (0 : Int32))) (F1_db : Arv Z h0 db dk .byte (2 : Int32) [(.int (0 : Int32)), (.int (0 : Int32))] (.int (0 : Int32))) (hc0 : ¬ ((255 : Int32) < c0)) (hc1 : ¬ ((255 : Int32) < c1)) (hp2 : n0 ≤ db) (hp3 : ca ≠ db) :
    MetFree l (⟨"java/lang/StringUTF16", "compress", "([CI[BII)I"⟩ : MethodName) (head1 (Jvm.Cond.code (⟨"java/lang/StringUTF16", "compress", "([CI[BII)I"⟩ : MethodName) jdk_52_method_21_code 7 (some .int) :: ws) ({ frames := 0, cells := 0, slots := 0, locals := 0 } : Room)) (fun a U => a = #[(.ref ca), (.int (0 : Int32)), (.ref db), (.int (0 : Int32)), (.int (2 : Int32))] ∧ Z.Warmed39 U.vm ∧ U.heap = h0) (fun _ _ _ _ _ => True) (fun _ U o U' => ∃ v L, o = .returned v ∧ Q_u5_2 Z ca ck db dk c0 c1 h0 n0 v U'.heap L ∧ FrameEnd U o U' L ({ frames := 0, cells := 0, slots := 0, locals := 0 } : Room).cells ({ frames := 0, cells := 0, slots := 0, locals := 0 } : Room).slots) := by
  refine MetFree.of_bodySF (plainFor_of_name pn_6) hisR ?_
  intro p e s m args below meth c s₁ Bd hml0 hP hK
  obtain ⟨rfl, hZ, hh⟩ := hP
  have hx := Bd.exec
  have hby := Bd.bytes
  have hml : c.maxLocals = 7 := hml0
  have hown : s.vm.findClass "java/lang/StringUTF16" = some m.cls := findClass_of_methodNamed Bd.named
  have hnm := (name_of_methodNamed Bd.named Bd.method).1
  have X0 : Stand p l e ({ frames := 0, cells := 0, slots := 0, locals := 0 } : Room) s m #[(.ref ca), (.int (0 : Int32)), (.ref db), (.int (0 : Int32)), (.int (2 : Int32))] below meth c s₁ [] 0 0 := Stand.of_body Bd
  have e0 : s₁.heap = h0 := by rw [← hh, Bd.state]; rfl
  have N0 := Fr.nil n0
  obtain ⟨G, hG⟩ : ∃ G : State → Prop, G = (fun U' => ∃ o, U'.status = .running ∧ Ended U' below o ∧ ∃ v L, o = .returned v ∧ Q_u5_2 Z ca ck db dk c0 c1 h0 n0 v U'.heap L ∧ FrameEnd s o U' L ({ frames := 0, cells := 0, slots := 0, locals := 0 } : Room).cells ({ frames := 0, cells := 0, slots := 0, locals := 0 } : Room).slots) := ⟨_, rfl⟩
  suffices key : Gl p.tables e below s₁ (mkF m 0 #[.val (.ref ca), .val (.int (0 : Int32)), .val (.ref db), .val (.int (0 : Int32)), .val (.int (2 : Int32)), .unset, .unset] []) G by
    obtain ⟨s₂, k1, k2⟩ := key
    rw [hG] at k2
    obtain ⟨o, k3, k4, k5⟩ := k2
    exact ⟨s₂, o, castTop (ef_u5_2 m ca (0 : Int32) db (0 : Int32) (2 : Int32)) k1, k3, k4, k5⟩
  show Gl p.tables e below s₁ (mkF m 0 #[.val (.ref ca), .val (.int (0 : Int32)), .val (.ref db), .val (.int (0 : Int32)), .val (.int (2 : Int32)), .unset, .unset] []) G
  refine Gl.via (fun _ k => XS.iconst X0.here hx rfl (hb hby d6_0) k) ?_
  show Gl p.tables e below s₁ (mkF m 1 #[.val (.ref ca), .val (.int (0 : Int32)), .val (.ref db), .val (.int (0 : Int32)), .val (.int (2 : Int32)), .unset, .unset] [(.int (0 : Int32))]) G
  refine Gl.via (fun _ k => XS.istore X0.here hx rfl (hb hby d6_1) rfl (l' := #[.val (.ref ca), .val (.int (0 : Int32)), .val (.ref db), .val (.int (0 : Int32)), .val (.int (2 : Int32)), .val (.int (0 : Int32)), .unset]) rfl k) ?_
  show Gl p.tables e below s₁ (mkF m 3 #[.val (.ref ca), .val (.int (0 : Int32)), .val (.ref db), .val (.int (0 : Int32)), .val (.int (2 : Int32)), .val (.int (0 : Int32)), .unset] []) G
  refine Gl.via (fun _ k => XS.iload X0.here hx rfl (hb hby d6_3) rfl k) ?_
  show Gl p.tables e below s₁ (mkF m 5 #[.val (.ref ca), .val (.int (0 : Int32)), .val (.ref db), .val (.int (0 : Int32)), .val (.int (2 : Int32)), .val (.int (0 : Int32)), .unset] [(.int (0 : Int32))]) G
  refine Gl.via (fun _ k => XS.iload X0.here hx rfl (hb hby d6_5) rfl k) ?_
  show Gl p.tables e below s₁ (mkF m 7 #[.val (.ref ca), .val (.int (0 : Int32)), .val (.ref db), .val (.int (0 : Int32)), .val (.int (2 : Int32)), .val (.int (0 : Int32)), .unset] [(.int (2 : Int32)), (.int (0 : Int32))]) G
  refine Gl.via (fun _ k => XS.icmpNo X0.here hx rfl (hb hby d6_7) rfl (tlt (by decide)).2.1 k) ?_
  show Gl p.tables e below s₁ (mkF m 10 #[.val (.ref ca), .val (.int (0 : Int32)), .val (.ref db), .val (.int (0 : Int32)), .val (.int (2 : Int32)), .val (.int (0 : Int32)), .unset] []) G
  refine Gl.via (fun _ k => XS.aloadN X0.here hx rfl (hb hby d6_10) rfl rfl k) ?_
  show Gl p.tables e below s₁ (mkF m 11 #[.val (.ref ca), .val (.int (0 : Int32)), .val (.ref db), .val (.int (0 : Int32)), .val (.int (2 : Int32)), .val (.int (0 : Int32)), .unset] [(.ref ca)]) G
  refine Gl.via (fun _ k => XS.iloadN X0.here hx rfl (hb hby d6_11) rfl k) ?_
  show Gl p.tables e below s₁ (mkF m 12 #[.val (.ref ca), .val (.int (0 : Int32)), .val (.ref db), .val (.int (0 : Int32)), .val (.int (2 : Int32)), .val (.int (0 : Int32)), .unset] [(.int (0 : Int32)), (.ref ca)]) G
  obtain ⟨cl1, Ar1, q1, S1, N1, H1, G1⟩ := id F0_ca
  have hin1 : ¬ ((0 : Int32) < 0 ∨ cl1.slots.size ≤ ((0 : Int32)).toNatClampNeg) := inb_of S1 ⟨by decide, by decide⟩
  refine Gl.via (fun _ k => X0.caload hx (j := (0 : Int32)) (v := (.int c0)) (by rw [e0]; exact Ar1.1) (State.isArrayOf_alike hZ.alike Ar1.2.1) Ar1.2.2 hin1 (Has.at H1 hin1 rfl) (g := (mkF m 12 #[.val (.ref ca), .val (.int (0 : Int32)), .val (.ref db), .val (.int (0 : Int32)), .val (.int (2 : Int32)), .val (.int (0 : Int32)), .unset] [(.int (0 : Int32)), (.ref ca)])) rfl rfl (hb hby d6_12) _ k) ?_
  show Gl p.tables e below s₁ (mkF m 13 #[.val (.ref ca), .val (.int (0 : Int32)), .val (.ref db), .val (.int (0 : Int32)), .val (.int (2 : Int32)), .val (.int (0 : Int32)), .unset] [(.int c0)]) G
  refine Gl.via (fun _ k => XS.istore X0.here hx rfl (hb hby d6_13) rfl (l' := #[.val (.ref ca), .val (.int (0 : Int32)), .val (.ref db), .val (.int (0 : Int32)), .val (.int (2 : Int32)), .val (.int (0 : Int32)), .val (.int c0)]) rfl k) ?_
  show Gl p.tables e below s₁ (mkF m 15 #[.val (.ref ca), .val (.int (0 : Int32)), .val (.ref db), .val (.int (0 : Int32)), .val (.int (2 : Int32)), .val (.int (0 : Int32)), .val (.int c0)] []) G
  refine Gl.via (fun _ k => XS.iload X0.here hx rfl (hb hby d6_15) rfl k) ?_
  show Gl p.tables e below s₁ (mkF m 17 #[.val (.ref ca), .val (.int (0 : Int32)), .val (.ref db), .val (.int (0 : Int32)), .val (.int (2 : Int32)), .val (.int (0 : Int32)), .val (.int c0)] [(.int c0)]) G
  refine Gl.via (fun _ k => XS.sipush X0.here hx rfl (hb hby d6_17) k) ?_
  show Gl p.tables e below s₁ (mkF m 20 #[.val (.ref ca), .val (.int (0 : Int32)), .val (.ref db), .val (.int (0 : Int32)), .val (.int (2 : Int32)), .val (.int (0 : Int32)), .val (.int c0)] [(.int (255 : Int32)), (.int c0)]) G
  refine Gl.via (fun _ k => XS.icmpYes X0.here hx rfl (pc0 := 20) (pc' := 26) rfl (hb hby d6_20) rfl (flt hc0).2.2.2 (by decide) (by decide) k) ?_
  show Gl p.tables e below s₁ (mkF m 26 #[.val (.ref ca), .val (.int (0 : Int32)), .val (.ref db), .val (.int (0 : Int32)), .val (.int (2 : Int32)), .val (.int (0 : Int32)), .val (.int c0)] []) G
  refine Gl.via (fun _ k => XS.aloadN X0.here hx rfl (hb hby d6_26) rfl rfl k) ?_
  show Gl p.tables e below s₁ (mkF m 27 #[.val (.ref ca), .val (.int (0 : Int32)), .val (.ref db), .val (.int (0 : Int32)), .val (.int (2 : Int32)), .val (.int (0 : Int32)), .val (.int c0)] [(.ref db)]) G
  refine Gl.via (fun _ k => XS.iloadN X0.here hx rfl (hb hby d6_27) rfl k) ?_
  show Gl p.tables e below s₁ (mkF m 28 #[.val (.ref ca), .val (.int (0 : Int32)), .val (.ref db), .val (.int (0 : Int32)), .val (.int (2 : Int32)), .val (.int (0 : Int32)), .val (.int c0)] [(.int (0 : Int32)), (.ref db)]) G
  refine Gl.via (fun _ k => XS.iload X0.here hx rfl (hb hby d6_28) rfl k) ?_
  show Gl p.tables e below s₁ (mkF m 30 #[.val (.ref ca), .val (.int (0 : Int32)), .val (.ref db), .val (.int (0 : Int32)), .val (.int (2 : Int32)), .val (.int (0 : Int32)), .val (.int c0)] [(.int c0), (.int (0 : Int32)), (.ref db)]) G
  refine Gl.via (fun _ k => XS.i2b X0.here hx rfl (hb hby d6_30) rfl k) ?_
  show Gl p.tables e below s₁ (mkF m 31 #[.val (.ref ca), .val (.int (0 : Int32)), .val (.ref db), .val (.int (0 : Int32)), .val (.int (2 : Int32)), .val (.int (0 : Int32)), .val (.int c0)] [(.int (c0.toInt8.toInt32)), (.int (0 : Int32)), (.ref db)]) G
  obtain ⟨cl2, Ar2, q2, S2, N2, H2, G2⟩ := id F1_db
  have hin2 : ¬ ((0 : Int32) < 0 ∨ cl2.slots.size ≤ ((0 : Int32)).toNatClampNeg) := inb_of S2 ⟨by decide, by decide⟩
  obtain ⟨T2, h2, X2, e2, W2, st2⟩ := stB X0 hx hZ e0 Ar2 (j := (0 : Int32)) hin2 (g := (mkF m 31 #[.val (.ref ca), .val (.int (0 : Int32)), .val (.ref db), .val (.int (0 : Int32)), .val (.int (2 : Int32)), .val (.int (0 : Int32)), .val (.int c0)] [(.int (c0.toInt8.toInt32)), (.int (0 : Int32)), (.ref db)])) rfl rfl (hb hby d6_31)
  refine Gl.via st2 ?_
  have N2_ := Fr.snoc X2 N0 hp2
  have Z3 : n0 ≤ h2.size := Nat.le_trans Z0 (Keep.of_wr W2).1
  have Y4 : h0.size ≤ h2.size := Nat.le_trans (Nat.le_refl h0.size) (Keep.of_wr W2).1
  have V5 : Arv Z h2 db dk .byte (2 : Int32) [(.int (nar .byte (c0.toInt8.toInt32))), (.int (0 : Int32))] (.int (0 : Int32)) := Arv.set Ar2 q2 S2 N2 H2 G2 (fits_nar_byte _) W2 0 rfl (Nat.le_of_ble_eq_true rfl)
  have V6 : Arv Z h2 db dk .byte (2 : Int32) [(.int (c0.toInt8.toInt32)), (.int (0 : Int32))] (.int (0 : Int32)) := by rw [show ((.int (nar .byte (c0.toInt8.toInt32))) : Value) = (.int (c0.toInt8.toInt32)) from (congrArg Value.int (own_bb _))] at V5; exact V5
  show Gl p.tables e below T2 (mkF m 32 #[.val (.ref ca), .val (.int (0 : Int32)), .val (.ref db), .val (.int (0 : Int32)), .val (.int (2 : Int32)), .val (.int (0 : Int32)), .val (.int c0)] []) G
  refine Gl.via (fun _ k => XS.iinc X2.here hx rfl (hb hby d6_32) rfl (l' := #[.val (.ref ca), .val (.int (1 : Int32)), .val (.ref db), .val (.int (0 : Int32)), .val (.int (2 : Int32)), .val (.int (0 : Int32)), .val (.int c0)]) rfl k) ?_
  show Gl p.tables e below T2 (mkF m 35 #[.val (.ref ca), .val (.int (1 : Int32)), .val (.ref db), .val (.int (0 : Int32)), .val (.int (2 : Int32)), .val (.int (0 : Int32)), .val (.int c0)] []) G
  refine Gl.via (fun _ k => XS.iinc X2.here hx rfl (hb hby d6_35) rfl (l' := #[.val (.ref ca), .val (.int (1 : Int32)), .val (.ref db), .val (.int (1 : Int32)), .val (.int (2 : Int32)), .val (.int (0 : Int32)), .val (.int c0)]) rfl k) ?_
  show Gl p.tables e below T2 (mkF m 38 #[.val (.ref ca), .val (.int (1 : Int32)), .val (.ref db), .val (.int (1 : Int32)), .val (.int (2 : Int32)), .val (.int (0 : Int32)), .val (.int c0)] []) G
  refine Gl.via (fun _ k => XS.iinc X2.here hx rfl (hb hby d6_38) rfl (l' := #[.val (.ref ca), .val (.int (1 : Int32)), .val (.ref db), .val (.int (1 : Int32)), .val (.int (2 : Int32)), .val (.int (1 : Int32)), .val (.int c0)]) rfl k) ?_
  show Gl p.tables e below T2 (mkF m 41 #[.val (.ref ca), .val (.int (1 : Int32)), .val (.ref db), .val (.int (1 : Int32)), .val (.int (2 : Int32)), .val (.int (1 : Int32)), .val (.int c0)] []) G
  refine Gl.via (fun _ k => XS.goto X2.here hx rfl (pc0 := 41) (pc' := 3) rfl (hb hby d6_41) (by decide) (by decide) k) ?_
  show Gl p.tables e below T2 (mkF m 3 #[.val (.ref ca), .val (.int (1 : Int32)), .val (.ref db), .val (.int (1 : Int32)), .val (.int (2 : Int32)), .val (.int (1 : Int32)), .val (.int c0)] []) G
  refine Gl.via (fun _ k => XS.iload X2.here hx rfl (hb hby d6_3) rfl k) ?_
  show Gl p.tables e below T2 (mkF m 5 #[.val (.ref ca), .val (.int (1 : Int32)), .val (.ref db), .val (.int (1 : Int32)), .val (.int (2 : Int32)), .val (.int (1 : Int32)), .val (.int c0)] [(.int (1 : Int32))]) G
  refine Gl.via (fun _ k => XS.iload X2.here hx rfl (hb hby d6_5) rfl k) ?_
  show Gl p.tables e below T2 (mkF m 7 #[.val (.ref ca), .val (.int (1 : Int32)), .val (.ref db), .val (.int (1 : Int32)), .val (.int (2 : Int32)), .val (.int (1 : Int32)), .val (.int c0)] [(.int (2 : Int32)), (.int (1 : Int32))]) G
  refine Gl.via (fun _ k => XS.icmpNo X2.here hx rfl (hb hby d6_7) rfl (tlt (by decide)).2.1 k) ?_
  show Gl p.tables e below T2 (mkF m 10 #[.val (.ref ca), .val (.int (1 : Int32)), .val (.ref db), .val (.int (1 : Int32)), .val (.int (2 : Int32)), .val (.int (1 : Int32)), .val (.int c0)] []) G
  refine Gl.via (fun _ k => XS.aloadN X2.here hx rfl (hb hby d6_10) rfl rfl k) ?_
  show Gl p.tables e below T2 (mkF m 11 #[.val (.ref ca), .val (.int (1 : Int32)), .val (.ref db), .val (.int (1 : Int32)), .val (.int (2 : Int32)), .val (.int (1 : Int32)), .val (.int c0)] [(.ref ca)]) G
  refine Gl.via (fun _ k => XS.iloadN X2.here hx rfl (hb hby d6_11) rfl k) ?_
  show Gl p.tables e below T2 (mkF m 12 #[.val (.ref ca), .val (.int (1 : Int32)), .val (.ref db), .val (.int (1 : Int32)), .val (.int (2 : Int32)), .val (.int (1 : Int32)), .val (.int c0)] [(.int (1 : Int32)), (.ref ca)]) G
  have G7 : Arv Z h2 ca ck .char (2 : Int32) [(.int c0), (.int c1)] (.int (0 : Int32)) := (F0_ca.other W2 hp3)
  obtain ⟨cl8, Ar8, q8, S8, N8, H8, G8⟩ := id G7
  have hin8 : ¬ ((1 : Int32) < 0 ∨ cl8.slots.size ≤ ((1 : Int32)).toNatClampNeg) := inb_of S8 ⟨by decide, by decide⟩
  refine Gl.via (fun _ k => X2.caload hx (j := (1 : Int32)) (v := (.int c1)) (by rw [e2]; exact Ar8.1) (State.isArrayOf_alike hZ.alike Ar8.2.1) Ar8.2.2 hin8 (Has.at H8 hin8 rfl) (g := (mkF m 12 #[.val (.ref ca), .val (.int (1 : Int32)), .val (.ref db), .val (.int (1 : Int32)), .val (.int (2 : Int32)), .val (.int (1 : Int32)), .val (.int c0)] [(.int (1 : Int32)), (.ref ca)])) rfl rfl (hb hby d6_12) _ k) ?_
  show Gl p.tables e below T2 (mkF m 13 #[.val (.ref ca), .val (.int (1 : Int32)), .val (.ref db), .val (.int (1 : Int32)), .val (.int (2 : Int32)), .val (.int (1 : Int32)), .val (.int c0)] [(.int c1)]) G
  refine Gl.via (fun _ k => XS.istore X2.here hx rfl (hb hby d6_13) rfl (l' := #[.val (.ref ca), .val (.int (1 : Int32)), .val (.ref db), .val (.int (1 : Int32)), .val (.int (2 : Int32)), .val (.int (1 : Int32)), .val (.int c1)]) rfl k) ?_
  show Gl p.tables e below T2 (mkF m 15 #[.val (.ref ca), .val (.int (1 : Int32)), .val (.ref db), .val (.int (1 : Int32)), .val (.int (2 : Int32)), .val (.int (1 : Int32)), .val (.int c1)] []) G
  refine Gl.via (fun _ k => XS.iload X2.here hx rfl (hb hby d6_15) rfl k) ?_
  show Gl p.tables e below T2 (mkF m 17 #[.val (.ref ca), .val (.int (1 : Int32)), .val (.ref db), .val (.int (1 : Int32)), .val (.int (2 : Int32)), .val (.int (1 : Int32)), .val (.int c1)] [(.int c1)]) G
  refine Gl.via (fun _ k => XS.sipush X2.here hx rfl (hb hby d6_17) k) ?_
  show Gl p.tables e below T2 (mkF m 20 #[.val (.ref ca), .val (.int (1 : Int32)), .val (.ref db), .val (.int (1 : Int32)), .val (.int (2 : Int32)), .val (.int (1 : Int32)), .val (.int c1)] [(.int (255 : Int32)), (.int c1)]) G
  refine Gl.via (fun _ k => XS.icmpYes X2.here hx rfl (pc0 := 20) (pc' := 26) rfl (hb hby d6_20) rfl (flt hc1).2.2.2 (by decide) (by decide) k) ?_
  show Gl p.tables e below T2 (mkF m 26 #[.val (.ref ca), .val (.int (1 : Int32)), .val (.ref db), .val (.int (1 : Int32)), .val (.int (2 : Int32)), .val (.int (1 : Int32)), .val (.int c1)] []) G
  refine Gl.via (fun _ k => XS.aloadN X2.here hx rfl (hb hby d6_26) rfl rfl k) ?_
  show Gl p.tables e below T2 (mkF m 27 #[.val (.ref ca), .val (.int (1 : Int32)), .val (.ref db), .val (.int (1 : Int32)), .val (.int (2 : Int32)), .val (.int (1 : Int32)), .val (.int c1)] [(.ref db)]) G
  refine Gl.via (fun _ k => XS.iloadN X2.here hx rfl (hb hby d6_27) rfl k) ?_
  show Gl p.tables e below T2 (mkF m 28 #[.val (.ref ca), .val (.int (1 : Int32)), .val (.ref db), .val (.int (1 : Int32)), .val (.int (2 : Int32)), .val (.int (1 : Int32)), .val (.int c1)] [(.int (1 : Int32)), (.ref db)]) G
  refine Gl.via (fun _ k => XS.iload X2.here hx rfl (hb hby d6_28) rfl k) ?_
  show Gl p.tables e below T2 (mkF m 30 #[.val (.ref ca), .val (.int (1 : Int32)), .val (.ref db), .val (.int (1 : Int32)), .val (.int (2 : Int32)), .val (.int (1 : Int32)), .val (.int c1)] [(.int c1), (.int (1 : Int32)), (.ref db)]) G
  refine Gl.via (fun _ k => XS.i2b X2.here hx rfl (hb hby d6_30) rfl k) ?_
  show Gl p.tables e below T2 (mkF m 31 #[.val (.ref ca), .val (.int (1 : Int32)), .val (.ref db), .val (.int (1 : Int32)), .val (.int (2 : Int32)), .val (.int (1 : Int32)), .val (.int c1)] [(.int (c1.toInt8.toInt32)), (.int (1 : Int32)), (.ref db)]) G
  obtain ⟨cl9, Ar9, q9, S9, N9, H9, G9⟩ := id V6
  have hin9 : ¬ ((1 : Int32) < 0 ∨ cl9.slots.size ≤ ((1 : Int32)).toNatClampNeg) := inb_of S9 ⟨by decide, by decide⟩
  obtain ⟨T9, h9, X9, e9, W9, st9⟩ := stB X2 hx hZ e2 Ar9 (j := (1 : Int32)) hin9 (g := (mkF m 31 #[.val (.ref ca), .val (.int (1 : Int32)), .val (.ref db), .val (.int (1 : Int32)), .val (.int (2 : Int32)), .val (.int (1 : Int32)), .val (.int c1)] [(.int (c1.toInt8.toInt32)), (.int (1 : Int32)), (.ref db)])) rfl rfl (hb hby d6_31)
  refine Gl.via st9 ?_
  have N9_ := Fr.snoc X9 N2_ hp2
  have Z10 : n0 ≤ h9.size := Nat.le_trans Z3 (Keep.of_wr W9).1
  have Y11 : h0.size ≤ h9.size := Nat.le_trans Y4 (Keep.of_wr W9).1
  have V12 : Arv Z h9 db dk .byte (2 : Int32) [(.int (c0.toInt8.toInt32)), (.int (nar .byte (c1.toInt8.toInt32)))] (.int (0 : Int32)) := Arv.set Ar9 q9 S9 N9 H9 G9 (fits_nar_byte _) W9 1 rfl (Nat.le_of_ble_eq_true rfl)
  have V13 : Arv Z h9 db dk .byte (2 : Int32) [(.int (c0.toInt8.toInt32)), (.int (c1.toInt8.toInt32))] (.int (0 : Int32)) := by rw [show ((.int (nar .byte (c1.toInt8.toInt32))) : Value) = (.int (c1.toInt8.toInt32)) from (congrArg Value.int (own_bb _))] at V12; exact V12
  show Gl p.tables e below T9 (mkF m 32 #[.val (.ref ca), .val (.int (1 : Int32)), .val (.ref db), .val (.int (1 : Int32)), .val (.int (2 : Int32)), .val (.int (1 : Int32)), .val (.int c1)] []) G
  refine Gl.via (fun _ k => XS.iinc X9.here hx rfl (hb hby d6_32) rfl (l' := #[.val (.ref ca), .val (.int (2 : Int32)), .val (.ref db), .val (.int (1 : Int32)), .val (.int (2 : Int32)), .val (.int (1 : Int32)), .val (.int c1)]) rfl k) ?_
  show Gl p.tables e below T9 (mkF m 35 #[.val (.ref ca), .val (.int (2 : Int32)), .val (.ref db), .val (.int (1 : Int32)), .val (.int (2 : Int32)), .val (.int (1 : Int32)), .val (.int c1)] []) G
  refine Gl.via (fun _ k => XS.iinc X9.here hx rfl (hb hby d6_35) rfl (l' := #[.val (.ref ca), .val (.int (2 : Int32)), .val (.ref db), .val (.int (2 : Int32)), .val (.int (2 : Int32)), .val (.int (1 : Int32)), .val (.int c1)]) rfl k) ?_
  show Gl p.tables e below T9 (mkF m 38 #[.val (.ref ca), .val (.int (2 : Int32)), .val (.ref db), .val (.int (2 : Int32)), .val (.int (2 : Int32)), .val (.int (1 : Int32)), .val (.int c1)] []) G
  refine Gl.via (fun _ k => XS.iinc X9.here hx rfl (hb hby d6_38) rfl (l' := #[.val (.ref ca), .val (.int (2 : Int32)), .val (.ref db), .val (.int (2 : Int32)), .val (.int (2 : Int32)), .val (.int (2 : Int32)), .val (.int c1)]) rfl k) ?_
  show Gl p.tables e below T9 (mkF m 41 #[.val (.ref ca), .val (.int (2 : Int32)), .val (.ref db), .val (.int (2 : Int32)), .val (.int (2 : Int32)), .val (.int (2 : Int32)), .val (.int c1)] []) G
  refine Gl.via (fun _ k => XS.goto X9.here hx rfl (pc0 := 41) (pc' := 3) rfl (hb hby d6_41) (by decide) (by decide) k) ?_
  show Gl p.tables e below T9 (mkF m 3 #[.val (.ref ca), .val (.int (2 : Int32)), .val (.ref db), .val (.int (2 : Int32)), .val (.int (2 : Int32)), .val (.int (2 : Int32)), .val (.int c1)] []) G
  refine Gl.via (fun _ k => XS.iload X9.here hx rfl (hb hby d6_3) rfl k) ?_
  show Gl p.tables e below T9 (mkF m 5 #[.val (.ref ca), .val (.int (2 : Int32)), .val (.ref db), .val (.int (2 : Int32)), .val (.int (2 : Int32)), .val (.int (2 : Int32)), .val (.int c1)] [(.int (2 : Int32))]) G
  refine Gl.via (fun _ k => XS.iload X9.here hx rfl (hb hby d6_5) rfl k) ?_
  show Gl p.tables e below T9 (mkF m 7 #[.val (.ref ca), .val (.int (2 : Int32)), .val (.ref db), .val (.int (2 : Int32)), .val (.int (2 : Int32)), .val (.int (2 : Int32)), .val (.int c1)] [(.int (2 : Int32)), (.int (2 : Int32))]) G
  refine Gl.via (fun _ k => XS.icmpYes X9.here hx rfl (pc0 := 7) (pc' := 44) rfl (hb hby d6_7) rfl (flt (by decide)).2.1 (by decide) (by decide) k) ?_
  show Gl p.tables e below T9 (mkF m 44 #[.val (.ref ca), .val (.int (2 : Int32)), .val (.ref db), .val (.int (2 : Int32)), .val (.int (2 : Int32)), .val (.int (2 : Int32)), .val (.int c1)] []) G
  refine Gl.via (fun _ k => XS.iload X9.here hx rfl (hb hby d6_44) rfl k) ?_
  show Gl p.tables e below T9 (mkF m 46 #[.val (.ref ca), .val (.int (2 : Int32)), .val (.ref db), .val (.int (2 : Int32)), .val (.int (2 : Int32)), .val (.int (2 : Int32)), .val (.int c1)] [(.int (2 : Int32))]) G
  obtain ⟨fs, hr, hrun, hended, hW, hsame⟩ := X9.leave (v := some (.int (2 : Int32))) (fun h => by rw [Bd.returns] at h; cases h)
  have hq : ∀ L, Fr n0 L → Q_u5_2 Z ca ck db dk c0 c1 h0 n0 (some (.int (2 : Int32))) T9.heap L := by
    intro L hN
    rw [e9]
    exact ⟨rfl, hN, (((Keep.refl h0 [db]).wr W2 (Or.inl (List.mem_of_getElem? (i := 0) rfl))).wr W9 (Or.inl (List.mem_of_getElem? (i := 0) rfl))), V13⟩
  rw [hG]
  exact Gl.fin (retOut X9 hx Bd.returns rfl (Or.inl ⟨rfl, Or.inl rfl, _, rfl⟩) (hb hby d6_46) hr) ⟨_, hrun, hended, _, _, rfl, hq _ N9_, ⟨_, rfl⟩, hW, hsame.mono (by decide) (by decide)⟩
theorem d5_0 : decode jdk_52_method_16_code 0 = .ok (.iload_n 2, 1) := by decide +kernel
theorem d5_1 : decode jdk_52_method_16_code 1 = .ok (.newarray .byte, 2) := by decide +kernel
theorem d5_3 : decode jdk_52_method_16_code 3 = .ok (.astore_n 3, 1) := by decide +kernel
theorem d5_4 : decode jdk_52_method_16_code 4 = .ok (.aload_n 0, 1) := by decide +kernel
theorem d5_5 : decode jdk_52_method_16_code 5 = .ok (.iload_n 1, 1) := by decide +kernel
theorem d5_6 : decode jdk_52_method_16_code 6 = .ok (.aload_n 3, 1) := by decide +kernel
theorem d5_7 : decode jdk_52_method_16_code 7 = .ok (.iconst 0, 1) := by decide +kernel
theorem d5_8 : decode jdk_52_method_16_code 8 = .ok (.iload_n 2, 1) := by decide +kernel
theorem d5_9 : decode jdk_52_method_16_code 9 = .ok (.invokestatic 115, 3) := by decide +kernel
theorem pd_17 : parseMethodDescriptor "([CI[BII)I" = some ⟨[(.array .char), .int, (.array .byte), .int, .int], some .int⟩ := by decide +kernel
theorem d5_12 : decode jdk_52_method_16_code 12 = .ok (.istore 4, 2) := by decide +kernel
theorem d5_14 : decode jdk_52_method_16_code 14 = .ok (.iload 4, 2) := by decide +kernel
theorem d5_16 : decode jdk_52_method_16_code 16 = .ok (.iload_n 2, 1) := by decide +kernel
theorem d5_17 : decode jdk_52_method_16_code 17 = .ok (.if_icmp .eq 40, 3) := by decide +kernel
theorem d5_57 : decode jdk_52_method_16_code 57 = .ok (.aload_n 3, 1) := by decide +kernel
theorem d5_58 : decode jdk_52_method_16_code 58 = .ok (.areturn, 1) := by decide +kernel
theorem ef_u3_2 (m : MethodId) (x0 : Addr) (x1 : Int32) (x2 : Int32) : entryFrame m #[(.ref x0), (.int x1), (.int x2)] 6 = mkF m 0 #[.val (.ref x0), .val (.int x1), .val (.int x2), .unset, .unset, .unset] [] := by first | (simp [entryFrame, mkF, argsToLocals, Value.category]; done) | rfl | (simp [entryFrame, mkF, argsToLocals, own_catI, own_catR, *]; done)
def Q_u3_2 (Z : State) (ca : Addr) (ck : ClassId) (c0 : Int32) (c1 : Int32) (h0 : Heap) (n0 : Nat) (v : Option Value) (h : Heap) (L : List Loc) : Prop := ∃ (b : Addr), ∃ (k : ClassId), v = some (.ref b) ∧ Fr n0 L ∧ Keep h0 h [] ∧ Arv Z h b k .byte (2 : Int32) [(.int (c0.toInt8.toInt32)), (.int (c1.toInt8.toInt32))] (.int (0 : Int32)) ∧ (h0.size ≤ b)
set_option maxRecDepth 65536 in
set_option maxHeartbeats 40000000 in
theorem u3_2 (l : Launch) (Z : State) (a0 : Array Value) (hw : ∀ d ∈ tables_1, d.before a0 Z = true) (ws : List Jvm.Cond) (ca : Addr) (ck : ClassId) (c0 : Int32) (c1 : Int32) (h0 : Heap) (n0 : Nat) (Z0 : n0 ≤ h0.size) (F0_ca : Arv Z h0 ca ck .char (2 : Int32) [(.int c0), (.int c1)] (.int (0 : Int32))) (hc0 : ¬ ((255 : Int32) < c0)) (hc1 : ¬ ((255 : Int32) < c1)) :
    MetFree l (⟨"java/lang/StringUTF16", "compress", "([CII)[B"⟩ : MethodName) (head1 (Jvm.Cond.code (⟨"java/lang/StringUTF16", "compress", "([CII)[B"⟩ : MethodName) jdk_52_method_16_code 6 (some (.array .byte)) :: ws) ({ frames := 1, cells := 1, slots := 2, locals := 18 } : Room)) (fun a U => a = #[(.ref ca), (.int (0 : Int32)), (.int (2 : Int32))] ∧ Z.Warmed39 U.vm ∧ U.heap = h0) (fun _ _ _ _ _ => True) (fun _ U o U' => ∃ v L, o = .returned v ∧ Q_u3_2 Z ca ck c0 c1 h0 n0 v U'.heap L ∧ FrameEnd U o U' L ({ frames := 1, cells := 1, slots := 2, locals := 18 } : Room).cells ({ frames := 1, cells := 1, slots := 2, locals := 18 } : Room).slots) := by
  refine MetFree.of_bodySF (plainFor_of_name pn_6) hisR ?_
  intro p e s m args below meth c s₁ Bd hml0 hP hK
  obtain ⟨rfl, hZ, hh⟩ := hP
  have hx := Bd.exec
  have hby := Bd.bytes
  have hml : c.maxLocals = 6 := hml0
  have hown : s.vm.findClass "java/lang/StringUTF16" = some m.cls := findClass_of_methodNamed Bd.named
  have hnm := (name_of_methodNamed Bd.named Bd.method).1
  have X0 : Stand p l e ({ frames := 1, cells := 1, slots := 2, locals := 18 } : Room) s m #[(.ref ca), (.int (0 : Int32)), (.int (2 : Int32))] below meth c s₁ [] 0 0 := Stand.of_body Bd
  have e0 : s₁.heap = h0 := by rw [← hh, Bd.state]; rfl
  have N0 := Fr.nil n0
  obtain ⟨G, hG⟩ : ∃ G : State → Prop, G = (fun U' => ∃ o, U'.status = .running ∧ Ended U' below o ∧ ∃ v L, o = .returned v ∧ Q_u3_2 Z ca ck c0 c1 h0 n0 v U'.heap L ∧ FrameEnd s o U' L ({ frames := 1, cells := 1, slots := 2, locals := 18 } : Room).cells ({ frames := 1, cells := 1, slots := 2, locals := 18 } : Room).slots) := ⟨_, rfl⟩
  suffices key : Gl p.tables e below s₁ (mkF m 0 #[.val (.ref ca), .val (.int (0 : Int32)), .val (.int (2 : Int32)), .unset, .unset, .unset] []) G by
    obtain ⟨s₂, k1, k2⟩ := key
    rw [hG] at k2
    obtain ⟨o, k3, k4, k5⟩ := k2
    exact ⟨s₂, o, castTop (ef_u3_2 m ca (0 : Int32) (2 : Int32)) k1, k3, k4, k5⟩
  show Gl p.tables e below s₁ (mkF m 0 #[.val (.ref ca), .val (.int (0 : Int32)), .val (.int (2 : Int32)), .unset, .unset, .unset] []) G
  refine Gl.via (fun _ k => XS.iloadN X0.here hx rfl (hb hby d5_0) rfl k) ?_
  show Gl p.tables e below s₁ (mkF m 1 #[.val (.ref ca), .val (.int (0 : Int32)), .val (.int (2 : Int32)), .unset, .unset, .unset] [(.int (2 : Int32))]) G
  obtain ⟨T1, h1, k1, X1, e1, E1, A1, st1⟩ := newP X0 hx hZ (hw _ (List.mem_of_getElem? (i := 23) rfl)) e0 (g := (mkF m 1 #[.val (.ref ca), .val (.int (0 : Int32)), .val (.int (2 : Int32)), .unset, .unset, .unset] [(.int (2 : Int32))])) rfl (hb hby d5_1) rfl (by decide) (cap := 2) (by decide) (by decide) (by decide) (by decide)
  obtain ⟨b1, g1⟩ : ∃ z, z = h0.size := ⟨_, rfl⟩
  rw [← g1] at A1 st1
  have ne2 : ca ≠ b1 := Nat.ne_of_lt (Nat.lt_of_lt_of_le F0_ca.lt (Nat.le_of_eq g1.symm))
  have ge3 : n0 ≤ b1 := Nat.le_trans Z0 (Nat.le_of_eq g1.symm)
  have gz4 : h0.size ≤ b1 := Nat.le_trans (Nat.le_refl h0.size) (Nat.le_of_eq g1.symm)
  refine Gl.via st1 ?_
  have Z5 : n0 ≤ h1.size := Nat.le_trans Z0 E1.1
  have Y6 : h0.size ≤ h1.size := Nat.le_trans (Nat.le_refl h0.size) E1.1
  have V7 : Arv Z h1 b1 k1 .byte (2 : Int32) [(.int (0 : Int32)), (.int (0 : Int32))] (.int (0 : Int32)) := (Arv.new A1 (by decide)).pad (pad_rep [] (.int (0 : Int32)) 2)
  show Gl p.tables e below T1 (mkF m 3 #[.val (.ref ca), .val (.int (0 : Int32)), .val (.int (2 : Int32)), .unset, .unset, .unset] [(.ref b1)]) G
  refine Gl.via (fun _ k => XS.astoreN X1.here hx rfl (hb hby d5_3) rfl rfl (l' := #[.val (.ref ca), .val (.int (0 : Int32)), .val (.int (2 : Int32)), .val (.ref b1), .unset, .unset]) rfl k) ?_
  show Gl p.tables e below T1 (mkF m 4 #[.val (.ref ca), .val (.int (0 : Int32)), .val (.int (2 : Int32)), .val (.ref b1), .unset, .unset] []) G
  refine Gl.via (fun _ k => XS.aloadN X1.here hx rfl (hb hby d5_4) rfl rfl k) ?_
  show Gl p.tables e below T1 (mkF m 5 #[.val (.ref ca), .val (.int (0 : Int32)), .val (.int (2 : Int32)), .val (.ref b1), .unset, .unset] [(.ref ca)]) G
  refine Gl.via (fun _ k => XS.iloadN X1.here hx rfl (hb hby d5_5) rfl k) ?_
  show Gl p.tables e below T1 (mkF m 6 #[.val (.ref ca), .val (.int (0 : Int32)), .val (.int (2 : Int32)), .val (.ref b1), .unset, .unset] [(.int (0 : Int32)), (.ref ca)]) G
  refine Gl.via (fun _ k => XS.aloadN X1.here hx rfl (hb hby d5_6) rfl rfl k) ?_
  show Gl p.tables e below T1 (mkF m 7 #[.val (.ref ca), .val (.int (0 : Int32)), .val (.int (2 : Int32)), .val (.ref b1), .unset, .unset] [(.ref b1), (.int (0 : Int32)), (.ref ca)]) G
  refine Gl.via (fun _ k => XS.iconst X1.here hx rfl (hb hby d5_7) k) ?_
  show Gl p.tables e below T1 (mkF m 8 #[.val (.ref ca), .val (.int (0 : Int32)), .val (.int (2 : Int32)), .val (.ref b1), .unset, .unset] [(.int (0 : Int32)), (.ref b1), (.int (0 : Int32)), (.ref ca)]) G
  refine Gl.via (fun _ k => XS.iloadN X1.here hx rfl (hb hby d5_8) rfl k) ?_
  show Gl p.tables e below T1 (mkF m 9 #[.val (.ref ca), .val (.int (0 : Int32)), .val (.int (2 : Int32)), .val (.ref b1), .unset, .unset] [(.int (2 : Int32)), (.int (0 : Int32)), (.ref b1), (.int (0 : Int32)), (.ref ca)]) G
  have G9 : Arv Z h1 ca ck .char (2 : Int32) [(.int c0), (.int c1)] (.int (0 : Int32)) := (F0_ca.ext E1)
  obtain ⟨_, _, ⟨T8, L8, k8, n8⟩, -, X8, ⟨Lc8, hQ8, l8, y8, z8⟩, st8⟩ := Jvm.LawKit.callS X1 hx (y := (⟨"java/lang/StringUTF16", "compress", "([CI[BII)I"⟩ : MethodName)) hown (mvT hZ (hw _ (List.mem_of_getElem? (i := 24) rfl))) (mvT hZ (hw _ (List.mem_of_getElem? (i := 25) rfl))) (mvT hZ (hw _ (List.mem_of_getElem? (i := 21) rfl))) (mvT hZ (hw _ (List.mem_of_getElem? (i := 26) rfl))) (by decide) (backOf (W := 0) (u5_2 l Z a0 hw [] ca ck b1 k1 c0 c1 h1 n0 Z5 G9 V7 hc0 hc1 ge3 ne2) hZ (hw _ (List.mem_of_getElem? (i := 26) rfl)) (hw _ (List.mem_of_getElem? (i := 21) rfl)) (by decide) (by decide)) (g := (mkF m 9 #[.val (.ref ca), .val (.int (0 : Int32)), .val (.int (2 : Int32)), .val (.ref b1), .unset, .unset] [(.int (2 : Int32)), (.int (0 : Int32)), (.ref b1), (.int (0 : Int32)), (.ref ca)])) rfl (by rw [hml]; rfl) (argsL := [(.ref ca), (.int (0 : Int32)), (.ref b1), (.int (0 : Int32)), (.int (2 : Int32))]) (rest := []) (lenOf pd_17 rfl) rfl (by show 2 * 0 + _ ≤ _; exact Nat.le_of_eq rfl) (hb hby d5_9) (fun _ _ => ⟨rfl, e1, (by decide : 1 + 0 ≤ _), (by decide : 2 + 0 ≤ _)⟩)
  dsimp only [Pt.U, Pt.locs, Pt.cells, Pt.slots] at X8 l8 y8 z8 st8 hQ8
  subst l8 y8 z8
  obtain ⟨rfl, N8q, K8, P10⟩ := hQ8
  have N8_ := Fr.app N0 N8q
  refine Gl.via (fun _ k => st8 _ k) ?_
  have Z11 : n0 ≤ T8.heap.size := Nat.le_trans Z5 K8.1
  have Y12 : h0.size ≤ T8.heap.size := Nat.le_trans Y6 K8.1
  show Gl p.tables e below T8 (mkF m 12 #[.val (.ref ca), .val (.int (0 : Int32)), .val (.int (2 : Int32)), .val (.ref b1), .unset, .unset] [(.int (2 : Int32))]) G
  refine Gl.via (fun _ k => XS.istore X8.here hx rfl (hb hby d5_12) rfl (l' := #[.val (.ref ca), .val (.int (0 : Int32)), .val (.int (2 : Int32)), .val (.ref b1), .val (.int (2 : Int32)), .unset]) rfl k) ?_
  show Gl p.tables e below T8 (mkF m 14 #[.val (.ref ca), .val (.int (0 : Int32)), .val (.int (2 : Int32)), .val (.ref b1), .val (.int (2 : Int32)), .unset] []) G
  refine Gl.via (fun _ k => XS.iload X8.here hx rfl (hb hby d5_14) rfl k) ?_
  show Gl p.tables e below T8 (mkF m 16 #[.val (.ref ca), .val (.int (0 : Int32)), .val (.int (2 : Int32)), .val (.ref b1), .val (.int (2 : Int32)), .unset] [(.int (2 : Int32))]) G
  refine Gl.via (fun _ k => XS.iloadN X8.here hx rfl (hb hby d5_16) rfl k) ?_
  show Gl p.tables e below T8 (mkF m 17 #[.val (.ref ca), .val (.int (0 : Int32)), .val (.int (2 : Int32)), .val (.ref b1), .val (.int (2 : Int32)), .unset] [(.int (2 : Int32)), (.int (2 : Int32))]) G
  refine Gl.via (fun _ k => XS.icmpYes X8.here hx rfl (pc0 := 17) (pc' := 57) rfl (hb hby d5_17) rfl (teq (by decide)).1 (by decide) (by decide) k) ?_
  show Gl p.tables e below T8 (mkF m 57 #[.val (.ref ca), .val (.int (0 : Int32)), .val (.int (2 : Int32)), .val (.ref b1), .val (.int (2 : Int32)), .unset] []) G
  refine Gl.via (fun _ k => XS.aloadN X8.here hx rfl (hb hby d5_57) rfl rfl k) ?_
  show Gl p.tables e below T8 (mkF m 58 #[.val (.ref ca), .val (.int (0 : Int32)), .val (.int (2 : Int32)), .val (.ref b1), .val (.int (2 : Int32)), .unset] [(.ref b1)]) G
  obtain ⟨fs, hr, hrun, hended, hW, hsame⟩ := X8.leave (v := some (.ref b1)) (fun h => by rw [Bd.returns] at h; cases h)
  have hq : ∀ L, Fr n0 L → Q_u3_2 Z ca ck c0 c1 h0 n0 (some (.ref b1)) T8.heap L := by
    intro L hN
    exact ⟨b1, k1, rfl, hN, (((Keep.refl h0 []).ext E1).trans K8 (allS (Or.inr gz4) all0)), P10, gz4⟩
  rw [hG]
  exact Gl.fin (retOut X8 hx Bd.returns rfl (Or.inr (Or.inr (Or.inr (Or.inr ⟨rfl, rfl, rfl⟩)))) (hb hby d5_58) hr) ⟨_, hrun, hended, _, _, rfl, hq _ N8_, ⟨_, rfl⟩, hW, hsame.mono (by decide) (by decide)⟩
theorem d7_0 : decode jdk_52_method_15_code 0 = .ok (.iload_n 1, 1) := by decide +kernel
theorem d7_1 : decode jdk_52_method_15_code 1 = .ok (.aload_n 0, 1) := by decide +kernel
theorem d7_2 : decode jdk_52_method_15_code 2 = .ok (.arraylength, 1) := by decide +kernel
theorem d7_3 : decode jdk_52_method_15_code 3 = .ok (.isub, 1) := by decide +kernel
theorem d7_4 : decode jdk_52_method_15_code 4 = .ok (.bipush 31, 2) := by decide +kernel
theorem d7_6 : decode jdk_52_method_15_code 6 = .ok (.iushr, 1) := by decide +kernel
theorem d7_7 : decode jdk_52_method_15_code 7 = .ok (.i2b, 1) := by decide +kernel
theorem d7_8 : decode jdk_52_method_15_code 8 = .ok (.ireturn, 1) := by decide +kernel
theorem ef_u_cl_2 (m : MethodId) (x0 : Addr) (x1 : Int32) : entryFrame m #[(.ref x0), (.int x1)] 2 = mkF m 0 #[.val (.ref x0), .val (.int x1)] [] := by first | (simp [entryFrame, mkF, argsToLocals, Value.category]; done) | rfl | (simp [entryFrame, mkF, argsToLocals, own_catI, own_catR, *]; done)
def Q_u_cl_2 (Z : State) (b : Addr) (kc : ClassId) (y0 : Int32) (y1 : Int32) (h0 : Heap) (n0 : Nat) (v : Option Value) (h : Heap) (L : List Loc) : Prop := v = some (.int (0 : Int32)) ∧ Fr n0 L ∧ h = h0
set_option maxRecDepth 65536 in
set_option maxHeartbeats 40000000 in
theorem u_cl_2 (l : Launch) (Z : State) (a0 : Array Value) (hw : ∀ d ∈ tables_1, d.before a0 Z = true) (ws : List Jvm.Cond) (b : Addr) (kc : ClassId) (y0 : Int32) (y1 : Int32) (h0 : Heap) (n0 : Nat) (Z0 : n0 ≤ h0.size) (F0_b : Arv Z h0 b kc .byte (2 : Int32) [(.int y0), (.int y1)] (.int (0 : Int32))) :
    MetFree l (⟨"java/lang/StringUTF16", "coderFromArrayLen", "([BI)B"⟩ : MethodName) (head1 (Jvm.Cond.code (⟨"java/lang/StringUTF16", "coderFromArrayLen", "([BI)B"⟩ : MethodName) jdk_52_method_15_code 2 (some .byte) :: ws) ({ frames := 0, cells := 0, slots := 0, locals := 0 } : Room)) (fun a U => a = #[(.ref b), (.int (2 : Int32))] ∧ Z.Warmed39 U.vm ∧ U.heap = h0) (fun _ _ _ _ _ => True) (fun _ U o U' => ∃ v L, o = .returned v ∧ Q_u_cl_2 Z b kc y0 y1 h0 n0 v U'.heap L ∧ FrameEnd U o U' L ({ frames := 0, cells := 0, slots := 0, locals := 0 } : Room).cells ({ frames := 0, cells := 0, slots := 0, locals := 0 } : Room).slots) := by
  refine MetFree.of_bodySF (plainFor_of_name pn_6) hisR ?_
  intro p e s m args below meth c s₁ Bd hml0 hP hK
  obtain ⟨rfl, hZ, hh⟩ := hP
  have hx := Bd.exec
  have hby := Bd.bytes
  have hml : c.maxLocals = 2 := hml0
  have hown : s.vm.findClass "java/lang/StringUTF16" = some m.cls := findClass_of_methodNamed Bd.named
  have hnm := (name_of_methodNamed Bd.named Bd.method).1
  have X0 : Stand p l e ({ frames := 0, cells := 0, slots := 0, locals := 0 } : Room) s m #[(.ref b), (.int (2 : Int32))] below meth c s₁ [] 0 0 := Stand.of_body Bd
  have e0 : s₁.heap = h0 := by rw [← hh, Bd.state]; rfl
  have N0 := Fr.nil n0
  obtain ⟨G, hG⟩ : ∃ G : State → Prop, G = (fun U' => ∃ o, U'.status = .running ∧ Ended U' below o ∧ ∃ v L, o = .returned v ∧ Q_u_cl_2 Z b kc y0 y1 h0 n0 v U'.heap L ∧ FrameEnd s o U' L ({ frames := 0, cells := 0, slots := 0, locals := 0 } : Room).cells ({ frames := 0, cells := 0, slots := 0, locals := 0 } : Room).slots) := ⟨_, rfl⟩
  suffices key : Gl p.tables e below s₁ (mkF m 0 #[.val (.ref b), .val (.int (2 : Int32))] []) G by
    obtain ⟨s₂, k1, k2⟩ := key
    rw [hG] at k2
    obtain ⟨o, k3, k4, k5⟩ := k2
    exact ⟨s₂, o, castTop (ef_u_cl_2 m b (2 : Int32)) k1, k3, k4, k5⟩
  show Gl p.tables e below s₁ (mkF m 0 #[.val (.ref b), .val (.int (2 : Int32))] []) G
  refine Gl.via (fun _ k => XS.iloadN X0.here hx rfl (hb hby d7_0) rfl k) ?_
  show Gl p.tables e below s₁ (mkF m 1 #[.val (.ref b), .val (.int (2 : Int32))] [(.int (2 : Int32))]) G
  refine Gl.via (fun _ k => XS.aloadN X0.here hx rfl (hb hby d7_1) rfl rfl k) ?_
  show Gl p.tables e below s₁ (mkF m 2 #[.val (.ref b), .val (.int (2 : Int32))] [(.ref b), (.int (2 : Int32))]) G
  obtain ⟨cl1, Ar1, -, S1, N1, -, -⟩ := id F0_b
  refine Gl.via (fun _ k => X0.arraylength hx (by rw [e0]; exact Ar1.1) (State.isArrayOf_alike hZ.alike Ar1.2.1) (g := (mkF m 2 #[.val (.ref b), .val (.int (2 : Int32))] [(.ref b), (.int (2 : Int32))])) rfl rfl (hb hby d7_2) _ k) ?_
  rw [len_of S1 N1]
  show Gl p.tables e below s₁ (mkF m 3 #[.val (.ref b), .val (.int (2 : Int32))] [(.int (2 : Int32)), (.int (2 : Int32))]) G
  refine Gl.via (fun _ k => XS.isub X0.here hx rfl (hb hby d7_3) rfl k) ?_
  show Gl p.tables e below s₁ (mkF m 4 #[.val (.ref b), .val (.int (2 : Int32))] [(.int (0 : Int32))]) G
  refine Gl.via (fun _ k => XS.bipush X0.here hx rfl (hb hby d7_4) k) ?_
  show Gl p.tables e below s₁ (mkF m 6 #[.val (.ref b), .val (.int (2 : Int32))] [(.int (31 : Int32)), (.int (0 : Int32))]) G
  refine Gl.via (fun _ k => XS.iushr X0.here hx rfl (hb hby d7_6) rfl k) ?_
  show Gl p.tables e below s₁ (mkF m 7 #[.val (.ref b), .val (.int (2 : Int32))] [(.int (0 : Int32))]) G
  refine Gl.via (fun _ k => XS.i2b X0.here hx rfl (hb hby d7_7) rfl k) ?_
  show Gl p.tables e below s₁ (mkF m 8 #[.val (.ref b), .val (.int (2 : Int32))] [(.int (0 : Int32))]) G
  obtain ⟨fs, hr, hrun, hended, hW, hsame⟩ := X0.leave (v := some (.int (0 : Int32))) (fun h => by rw [Bd.returns] at h; cases h)
  have hq : ∀ L, Fr n0 L → Q_u_cl_2 Z b kc y0 y1 h0 n0 (some (.int (0 : Int32))) s₁.heap L := by
    intro L hN
    rw [e0]
    exact ⟨rfl, hN, rfl⟩
  rw [hG]
  exact Gl.fin (retN X0 hx (t := .byte) Bd.returns (by simp) (hb hby d7_8) hr) ⟨_, hrun, hended, _, _, rfl, hq _ N0, ⟨_, rfl⟩, hW, hsame.mono (by decide) (by decide)⟩
theorem d3_27 : decode jdk_42_method_149_code 27 = .ok (.getstatic 38, 3) := by decide +kernel
theorem d3_30 : decode jdk_42_method_149_code 30 = .ok (.ifCond .eq 28, 3) := by decide +kernel
theorem d3_33 : decode jdk_42_method_149_code 33 = .ok (.aload_n 1, 1) := by decide +kernel
theorem d3_34 : decode jdk_42_method_149_code 34 = .ok (.iload_n 2, 1) := by decide +kernel
theorem d3_35 : decode jdk_42_method_149_code 35 = .ok (.iload_n 3, 1) := by decide +kernel
theorem d3_36 : decode jdk_42_method_149_code 36 = .ok (.invokestatic 177, 3) := by decide +kernel
theorem pd_18 : parseMethodDescriptor "([CII)[B" = some ⟨[(.array .char), .int, .int], some (.array .byte)⟩ := by decide +kernel
theorem d3_39 : decode jdk_42_method_149_code 39 = .ok (.astore 5, 2) := by decide +kernel
theorem d3_41 : decode jdk_42_method_149_code 41 = .ok (.aload_n 0, 1) := by decide +kernel
theorem d3_42 : decode jdk_42_method_149_code 42 = .ok (.aload 5, 2) := by decide +kernel
theorem d3_44 : decode jdk_42_method_149_code 44 = .ok (.iload_n 3, 1) := by decide +kernel
theorem d3_45 : decode jdk_42_method_149_code 45 = .ok (.invokestatic 47, 3) := by decide +kernel
theorem pd_19 : parseMethodDescriptor "([BI)B" = some ⟨[(.array .byte), .int], some .byte⟩ := by decide +kernel
theorem d3_48 : decode jdk_42_method_149_code 48 = .ok (.putfield 15, 3) := by decide +kernel
theorem d3_51 : decode jdk_42_method_149_code 51 = .ok (.aload_n 0, 1) := by decide +kernel
theorem d3_52 : decode jdk_42_method_149_code 52 = .ok (.aload 5, 2) := by decide +kernel
theorem d3_54 : decode jdk_42_method_149_code 54 = .ok (.putfield 9, 3) := by decide +kernel
theorem d3_57 : decode jdk_42_method_149_code 57 = .ok (.return_, 1) := by decide +kernel
theorem ef_si4_2 (m : MethodId) (x0 : Addr) (x1 : Addr) (x2 : Int32) (x3 : Int32) : entryFrame m #[(.ref x0), (.ref x1), (.int x2), (.int x3), .null] 6 = mkF m 0 #[.val (.ref x0), .val (.ref x1), .val (.int x2), .val (.int x3), .val .null, .unset] [] := by first | (simp [entryFrame, mkF, argsToLocals, Value.category]; done) | rfl | (simp [entryFrame, mkF, argsToLocals, own_catI, own_catR, *]; done)
def Q_si4_2 (Z : State) (sa : Addr) (u1 : Value) (u2 : Value) (ca : Addr) (ck : ClassId) (c0 : Int32) (c1 : Int32) (cps : Int32) (h0 : Heap) (n0 : Nat) (v : Option Value) (h : Heap) (L : List Loc) : Prop := ∃ (sb : Addr), ∃ (sk : ClassId), v = none ∧ Fr n0 L ∧ Keep h0 h [sa] ∧ Exa Z h sa "java/lang/String" ∧ Fld Z h sa "java/lang/String" "coder" "B" (.int (0 : Int32)) ∧ Fld Z h sa "java/lang/String" "value" "[B" (.ref sb) ∧ Arv Z h sb sk .byte (own_ln ([(c0.toInt8.toInt32), (c1.toInt8.toInt32)] : List Int32)) (([(c0.toInt8.toInt32), (c1.toInt8.toInt32)] : List Int32).map Value.int) (.int (0 : Int32))
set_option maxRecDepth 65536 in
set_option maxHeartbeats 40000000 in
theorem si4_2 (l : Launch) (Z : State) (a0 : Array Value) (hw : ∀ d ∈ tables_1, d.before a0 Z = true) (ws : List Jvm.Cond) (sa : Addr) (u1 : Value) (u2 : Value) (ca : Addr) (ck : ClassId) (c0 : Int32) (c1 : Int32) (cps : Int32) (h0 : Heap) (n0 : Nat) (Z0 : n0 ≤ h0.size) (F0_sa : Exa Z h0 sa "java/lang/String") (F1_sa_value : Fld Z h0 sa "java/lang/String" "value" "[B" u1) (F2_sa_coder : Fld Z h0 sa "java/lang/String" "coder" "B" u2) (F3_ca : Arv Z h0 ca ck .char (2 : Int32) [(.int c0), (.int c1)] (.int (0 : Int32))) (F4_java_lang_String : Sta Z Z.heap "java/lang/String" "COMPACT_STRINGS" "Z" (.int cps)) (F5_ : Old Z n0 h0) (hc0 : ¬ ((255 : Int32) < c0)) (hc1 : ¬ ((255 : Int32) < c1)) (hcps : ¬ (cps = (0 : Int32))) (hp3 : n0 ≤ sa) (hp4 : sa ≠ ca) :
    MetFree l (⟨"java/lang/String", "<init>", "([CIILjava/lang/Void;)V"⟩ : MethodName) (head1 (Jvm.Cond.code (⟨"java/lang/String", "<init>", "([CIILjava/lang/Void;)V"⟩ : MethodName) jdk_42_method_149_code 6 none :: ws) ({ frames := 2, cells := 1, slots := 2, locals := 35 } : Room)) (fun a U => a = #[(.ref sa), (.ref ca), (.int (0 : Int32)), (.int (2 : Int32)), .null] ∧ Z.Warmed39 U.vm ∧ U.heap = h0 ∧ CHv Z own_EL U.vm h0 ∧ ∀ x ∈ ([sa] : List Addr), Safe Z own_EL U.vm h0 x) (fun _ _ _ _ _ => True) (fun _ U o U' => ∃ v L, o = .returned v ∧ Q_si4_2 Z sa u1 u2 ca ck c0 c1 cps h0 n0 v U'.heap L ∧ CHr Z own_EL U.vm U.heap U'.vm U'.heap ∧ ReturnedEndW U o U' L ({ frames := 2, cells := 1, slots := 2, locals := 35 } : Room).cells ({ frames := 2, cells := 1, slots := 2, locals := 35 } : Room).slots) := by
  refine MetFree.of_bodySF (plainFor_of_name pn_0) hisR ?_
  intro p e s m args below meth c s₁ Bd hml0 hP hK
  obtain ⟨rfl, hZ, hh, hCH, hSF⟩ := hP
  have hx := Bd.exec
  have hby := Bd.bytes
  have hml : c.maxLocals = 6 := hml0
  have hown : s.vm.findClass "java/lang/String" = some m.cls := findClass_of_methodNamed Bd.named
  have hnm := (name_of_methodNamed Bd.named Bd.method).1
  have X0 : Stand p l e ({ frames := 2, cells := 1, slots := 2, locals := 35 } : Room) (s.setVm s.vm) m #[(.ref sa), (.ref ca), (.int (0 : Int32)), (.int (2 : Int32)), .null] below meth c s₁ [] 0 0 := Stand.of_body Bd
  have e0 : s₁.heap = h0 := by rw [← hh, Bd.state]; rfl
  have N0 := Fr.nil n0
  have hS0 : s.Since s.vm 0 := (State.WarmedH.refl s).since 0
  have hk0 : 0 ≤ h0.size := Nat.zero_le _
  have hEL := own_ew hw
  have CR0 : CHr Z own_EL s.vm h0 s.vm h0 := CHr.refl hCH
  obtain ⟨G, hG⟩ : ∃ G : State → Prop, G = (fun U' => ∃ o, U'.status = .running ∧ Ended U' below o ∧ ∃ v L, o = .returned v ∧ Q_si4_2 Z sa u1 u2 ca ck c0 c1 cps h0 n0 v U'.heap L ∧ CHr Z own_EL s.vm s.heap U'.vm U'.heap ∧ ReturnedEndW s o U' L ({ frames := 2, cells := 1, slots := 2, locals := 35 } : Room).cells ({ frames := 2, cells := 1, slots := 2, locals := 35 } : Room).slots) := ⟨_, rfl⟩
  suffices key : Gl p.tables e below s₁ (mkF m 0 #[.val (.ref sa), .val (.ref ca), .val (.int (0 : Int32)), .val (.int (2 : Int32)), .val .null, .unset] []) G by
    obtain ⟨s₂, k1, k2⟩ := key
    rw [hG] at k2
    obtain ⟨o, k3, k4, k5⟩ := k2
    exact ⟨s₂, o, castTop (ef_si4_2 m sa ca (0 : Int32) (2 : Int32)) k1, k3, k4, k5⟩
  show Gl p.tables e below s₁ (mkF m 0 #[.val (.ref sa), .val (.ref ca), .val (.int (0 : Int32)), .val (.int (2 : Int32)), .val .null, .unset] []) G
  refine Gl.via (fun _ k => XS.aloadN X0.here hx rfl (hb hby d3_0) rfl rfl k) ?_
  show Gl p.tables e below s₁ (mkF m 1 #[.val (.ref sa), .val (.ref ca), .val (.int (0 : Int32)), .val (.int (2 : Int32)), .val .null, .unset] [(.ref sa)]) G
  obtain ⟨T1, X1, e1, st1⟩ := initO X0 hx hZ hown (hw _ (List.mem_of_getElem? (i := 15) rfl)) (hw _ (List.mem_of_getElem? (i := 16) rfl)) (hw _ (List.mem_of_getElem? (i := 17) rfl)) e0 (g := (mkF m 1 #[.val (.ref sa), .val (.ref ca), .val (.int (0 : Int32)), .val (.int (2 : Int32)), .val .null, .unset] [(.ref sa)])) rfl (by rw [hml]; rfl) rfl (hb hby d3_1) (by decide) (W := 0) (by show 2 * 0 + _ ≤ _; exact Nat.le_of_eq rfl) (by decide)
  refine Gl.via st1 ?_
  show Gl p.tables e below T1 (mkF m 4 #[.val (.ref sa), .val (.ref ca), .val (.int (0 : Int32)), .val (.int (2 : Int32)), .val .null, .unset] []) G
  refine Gl.via (fun _ k => XS.iloadN X1.here hx rfl (hb hby d3_4) rfl k) ?_
  show Gl p.tables e below T1 (mkF m 5 #[.val (.ref sa), .val (.ref ca), .val (.int (0 : Int32)), .val (.int (2 : Int32)), .val .null, .unset] [(.int (2 : Int32))]) G
  refine Gl.via (fun _ k => XS.ifYes X1.here hx rfl (pc0 := 5) (pc' := 27) rfl (hb hby d3_5) rfl ((if0 _ _).trans (feq (by decide)).2) (by decide) (by decide) k) ?_
  show Gl p.tables e below T1 (mkF m 27 #[.val (.ref sa), .val (.ref ca), .val (.int (0 : Int32)), .val (.int (2 : Int32)), .val .null, .unset] []) G
  have G2 : Sta Z h0 "java/lang/String" "COMPACT_STRINGS" "Z" (.int cps) := F4_java_lang_String.ext F5_.2
  obtain ⟨T3, X3, e3, st3⟩ := getS2 X1 hx hZ hown (host := "") (Or.inl (hw _ (List.mem_of_getElem? (i := 18) rfl))) Via.refl e1 G2 (g := (mkF m 27 #[.val (.ref sa), .val (.ref ca), .val (.int (0 : Int32)), .val (.int (2 : Int32)), .val .null, .unset] [])) rfl (hb hby d3_27)
  refine Gl.via st3 ?_
  show Gl p.tables e below T3 (mkF m 30 #[.val (.ref sa), .val (.ref ca), .val (.int (0 : Int32)), .val (.int (2 : Int32)), .val .null, .unset] [(.int cps)]) G
  refine Gl.via (fun _ k => XS.ifNo X3.here hx rfl (hb hby d3_30) rfl ((if0 _ _).trans (feq hcps).1) k) ?_
  show Gl p.tables e below T3 (mkF m 33 #[.val (.ref sa), .val (.ref ca), .val (.int (0 : Int32)), .val (.int (2 : Int32)), .val .null, .unset] []) G
  refine Gl.via (fun _ k => XS.aloadN X3.here hx rfl (hb hby d3_33) rfl rfl k) ?_
  show Gl p.tables e below T3 (mkF m 34 #[.val (.ref sa), .val (.ref ca), .val (.int (0 : Int32)), .val (.int (2 : Int32)), .val .null, .unset] [(.ref ca)]) G
  refine Gl.via (fun _ k => XS.iloadN X3.here hx rfl (hb hby d3_34) rfl k) ?_
  show Gl p.tables e below T3 (mkF m 35 #[.val (.ref sa), .val (.ref ca), .val (.int (0 : Int32)), .val (.int (2 : Int32)), .val .null, .unset] [(.int (0 : Int32)), (.ref ca)]) G
  refine Gl.via (fun _ k => XS.iloadN X3.here hx rfl (hb hby d3_35) rfl k) ?_
  show Gl p.tables e below T3 (mkF m 36 #[.val (.ref sa), .val (.ref ca), .val (.int (0 : Int32)), .val (.int (2 : Int32)), .val .null, .unset] [(.int (2 : Int32)), (.int (0 : Int32)), (.ref ca)]) G
  obtain ⟨_, _, ⟨T4, L4, k4, n4⟩, -, X4, ⟨Lc4, hQ4, l4, y4, z4⟩, st4⟩ := Jvm.LawKit.callS X3 hx (y := (⟨"java/lang/StringUTF16", "compress", "([CII)[B"⟩ : MethodName)) hown (mvT hZ (hw _ (List.mem_of_getElem? (i := 19) rfl))) (mvT hZ (hw _ (List.mem_of_getElem? (i := 20) rfl))) (mvT hZ (hw _ (List.mem_of_getElem? (i := 21) rfl))) (mvT hZ (hw _ (List.mem_of_getElem? (i := 22) rfl))) (by decide) (backOf (W := 0) (u3_2 l Z a0 hw [] ca ck c0 c1 h0 n0 Z0 F3_ca hc0 hc1) hZ (hw _ (List.mem_of_getElem? (i := 22) rfl)) (hw _ (List.mem_of_getElem? (i := 21) rfl)) (by decide) (by decide)) (g := (mkF m 36 #[.val (.ref sa), .val (.ref ca), .val (.int (0 : Int32)), .val (.int (2 : Int32)), .val .null, .unset] [(.int (2 : Int32)), (.int (0 : Int32)), (.ref ca)])) rfl (by rw [hml]; rfl) (argsL := [(.ref ca), (.int (0 : Int32)), (.int (2 : Int32))]) (rest := []) (lenOf pd_18 rfl) rfl (by show 2 * 0 + _ ≤ _; exact Nat.le_of_eq rfl) (hb hby d3_36) (fun _ _ => ⟨rfl, e3, (by decide : 0 + 1 ≤ _), (by decide : 0 + 2 ≤ _)⟩)
  dsimp only [Pt.U, Pt.locs, Pt.cells, Pt.slots] at X4 l4 y4 z4 st4 hQ4
  subst l4 y4 z4
  obtain ⟨b_4, k_4, rfl, N4q, K4, P5, R6⟩ := hQ4
  have N4_ := Fr.app N0 N4q
  refine Gl.via (fun _ k => st4 _ k) ?_
  have ne7 : sa ≠ b_4 := Nat.ne_of_lt (Nat.lt_of_lt_of_le F0_sa.lt R6)
  have ne8 : ca ≠ b_4 := Nat.ne_of_lt (Nat.lt_of_lt_of_le F3_ca.lt R6)
  have ge9 : n0 ≤ b_4 := Nat.le_trans Z0 R6
  have gz10 : h0.size ≤ b_4 := Nat.le_trans (Nat.le_refl h0.size) R6
  have CR11 : CHr Z own_EL s.vm h0 s.vm T4.heap := CHr.trans CR0 (CHr.keep K4 sf0 CR0.1)
  have SF12 : Safe Z own_EL s.vm T4.heap sa := Safe.keep K4 sf0 CR0.1 (hSF sa (List.mem_of_getElem? (i := 0) rfl))
  have SF13 : Safe Z own_EL s.vm T4.heap b_4 := Safe.keep K4 sf0 CR0.1 (Safe.new R6)
  have Z14 : n0 ≤ T4.heap.size := Nat.le_trans Z0 K4.1
  have Y15 : h0.size ≤ T4.heap.size := Nat.le_trans (Nat.le_refl h0.size) K4.1
  have hl16 := Nat.le_trans hk0 K4.1
  show Gl p.tables e below T4 (mkF m 39 #[.val (.ref sa), .val (.ref ca), .val (.int (0 : Int32)), .val (.int (2 : Int32)), .val .null, .unset] [(.ref b_4)]) G
  refine Gl.via (fun _ k => XS.astore X4.here hx rfl (hb hby d3_39) rfl rfl (l' := #[.val (.ref sa), .val (.ref ca), .val (.int (0 : Int32)), .val (.int (2 : Int32)), .val .null, .val (.ref b_4)]) rfl k) ?_
  show Gl p.tables e below T4 (mkF m 41 #[.val (.ref sa), .val (.ref ca), .val (.int (0 : Int32)), .val (.int (2 : Int32)), .val .null, .val (.ref b_4)] []) G
  refine Gl.via (fun _ k => XS.aloadN X4.here hx rfl (hb hby d3_41) rfl rfl k) ?_
  show Gl p.tables e below T4 (mkF m 42 #[.val (.ref sa), .val (.ref ca), .val (.int (0 : Int32)), .val (.int (2 : Int32)), .val .null, .val (.ref b_4)] [(.ref sa)]) G
  refine Gl.via (fun _ k => XS.aload X4.here hx rfl (hb hby d3_42) rfl rfl k) ?_
  show Gl p.tables e below T4 (mkF m 44 #[.val (.ref sa), .val (.ref ca), .val (.int (0 : Int32)), .val (.int (2 : Int32)), .val .null, .val (.ref b_4)] [(.ref b_4), (.ref sa)]) G
  refine Gl.via (fun _ k => XS.iloadN X4.here hx rfl (hb hby d3_44) rfl k) ?_
  show Gl p.tables e below T4 (mkF m 45 #[.val (.ref sa), .val (.ref ca), .val (.int (0 : Int32)), .val (.int (2 : Int32)), .val .null, .val (.ref b_4)] [(.int (2 : Int32)), (.ref b_4), (.ref sa)]) G
  obtain ⟨_, _, ⟨T17, L17, k17, n17⟩, -, X17, ⟨Lc17, hQ17, l17, y17, z17⟩, st17⟩ := Jvm.LawKit.callS X4 hx (y := (⟨"java/lang/StringUTF16", "coderFromArrayLen", "([BI)B"⟩ : MethodName)) hown (mvT hZ (hw _ (List.mem_of_getElem? (i := 27) rfl))) (mvT hZ (hw _ (List.mem_of_getElem? (i := 28) rfl))) (mvT hZ (hw _ (List.mem_of_getElem? (i := 21) rfl))) (mvT hZ (hw _ (List.mem_of_getElem? (i := 29) rfl))) (by decide) (backOf (W := 1) (u_cl_2 l Z a0 hw [] b_4 k_4 (c0.toInt8.toInt32) (c1.toInt8.toInt32) T4.heap n0 Z14 P5) hZ (hw _ (List.mem_of_getElem? (i := 29) rfl)) (hw _ (List.mem_of_getElem? (i := 21) rfl)) (by decide) (by decide)) (g := (mkF m 45 #[.val (.ref sa), .val (.ref ca), .val (.int (0 : Int32)), .val (.int (2 : Int32)), .val .null, .val (.ref b_4)] [(.int (2 : Int32)), (.ref b_4), (.ref sa)])) rfl (by rw [hml]; rfl) (argsL := [(.ref b_4), (.int (2 : Int32))]) (rest := [(.ref sa)]) (lenOf pd_19 rfl) rfl (by show 2 * 0 + _ ≤ _; exact Nat.le_of_eq rfl) (hb hby d3_45) (fun _ _ => ⟨rfl, rfl, (by decide : 1 + 0 ≤ _), (by decide : 2 + 0 ≤ _)⟩)
  dsimp only [Pt.U, Pt.locs, Pt.cells, Pt.slots] at X17 l17 y17 z17 st17 hQ17
  subst l17 y17 z17
  obtain ⟨rfl, N17q, eh17⟩ := hQ17
  have N17_ := Fr.app N4_ N17q
  refine Gl.via (fun _ k => st17 _ k) ?_
  show Gl p.tables e below T17 (mkF m 48 #[.val (.ref sa), .val (.ref ca), .val (.int (0 : Int32)), .val (.int (2 : Int32)), .val .null, .val (.ref b_4)] [(.int (0 : Int32)), (.ref sa)]) G
  have G18 : Fld Z T4.heap sa "java/lang/String" "coder" "B" u2 := (F2_sa_coder.keep K4 nin0)
  have G19 : Exa Z T4.heap sa "java/lang/String" := (F0_sa.keep K4)
  obtain ⟨T20, h20, X20, e20, W20, st20⟩ := putFN X17 hx hZ hown (hw _ (List.mem_of_getElem? (i := 30) rfl)) Via.refl eh17 G18 G19 (Or.inr ⟨(hw _ (List.mem_of_getElem? (i := 31) rfl)), rfl, hnm⟩) (hw _ (List.mem_of_getElem? (i := 5) rfl)) (ty := .byte) (v' := (.int (0 : Int32))) (by decide) rfl (by decide) (g := (mkF m 48 #[.val (.ref sa), .val (.ref ca), .val (.int (0 : Int32)), .val (.int (2 : Int32)), .val .null, .val (.ref b_4)] [(.int (0 : Int32)), (.ref sa)])) rfl rfl (hb hby d3_48)
  have CR21 : CHr Z own_EL s.vm h0 s.vm h20 := CHr.trans CR11 (CHr.wr W20 SF12 CR11.1)
  have SF22 : Safe Z own_EL s.vm h20 sa := Safe.wr W20 SF12 CR11.1 SF12
  have SF23 : Safe Z own_EL s.vm h20 b_4 := Safe.wr W20 SF12 CR11.1 SF13
  refine Gl.via st20 ?_
  have N20_ := Fr.snoc X20 N17_ hp3
  have Z24 : n0 ≤ h20.size := Nat.le_trans Z14 (Keep.of_wr W20).1
  have Y25 : h0.size ≤ h20.size := Nat.le_trans Y15 (Keep.of_wr W20).1
  have hl26 := Nat.le_trans hl16 (Keep.of_wr W20).1
  show Gl p.tables e below T20 (mkF m 51 #[.val (.ref sa), .val (.ref ca), .val (.int (0 : Int32)), .val (.int (2 : Int32)), .val .null, .val (.ref b_4)] []) G
  refine Gl.via (fun _ k => XS.aloadN X20.here hx rfl (hb hby d3_51) rfl rfl k) ?_
  show Gl p.tables e below T20 (mkF m 52 #[.val (.ref sa), .val (.ref ca), .val (.int (0 : Int32)), .val (.int (2 : Int32)), .val .null, .val (.ref b_4)] [(.ref sa)]) G
  refine Gl.via (fun _ k => XS.aload X20.here hx rfl (hb hby d3_52) rfl rfl k) ?_
  show Gl p.tables e below T20 (mkF m 54 #[.val (.ref sa), .val (.ref ca), .val (.int (0 : Int32)), .val (.int (2 : Int32)), .val .null, .val (.ref b_4)] [(.ref b_4), (.ref sa)]) G
  have G27 : Fld Z h20 sa "java/lang/String" "value" "[B" u1 := ((F1_sa_value.keep K4 nin0).other W20 (Or.inr (slot_ne (Or.inr (hw _ (List.mem_of_getElem? (i := 33) rfl))) (Or.inr (hw _ (List.mem_of_getElem? (i := 31) rfl))) (by decide) (t := (.array .byte)) (t' := .byte) (by decide) (by decide))))
  have G28 : Exa Z h20 sa "java/lang/String" := (G19.wr W20)
  obtain ⟨T29, h29, X29, e29, W29, st29⟩ := putF X20 hx hZ hown (host := "") (Or.inl (hw _ (List.mem_of_getElem? (i := 32) rfl))) Via.refl e20 G27 G28 (Or.inr ⟨(hw _ (List.mem_of_getElem? (i := 33) rfl)), rfl, hnm⟩) (hw _ (List.mem_of_getElem? (i := 5) rfl)) (ty := (.array .byte)) (by decide) rfl rfl (g := (mkF m 54 #[.val (.ref sa), .val (.ref ca), .val (.int (0 : Int32)), .val (.int (2 : Int32)), .val .null, .val (.ref b_4)] [(.ref b_4), (.ref sa)])) rfl rfl (hb hby d3_54)
  have CR30 : CHr Z own_EL s.vm h0 s.vm h29 := CHr.trans CR21 (CHr.wr W29 SF22 CR21.1)
  have SF31 : Safe Z own_EL s.vm h29 sa := Safe.wr W29 SF22 CR21.1 SF22
  have SF32 : Safe Z own_EL s.vm h29 b_4 := Safe.wr W29 SF22 CR21.1 SF23
  refine Gl.via st29 ?_
  have N29_ := Fr.snoc X29 N20_ hp3
  have Z33 : n0 ≤ h29.size := Nat.le_trans Z24 (Keep.of_wr W29).1
  have Y34 : h0.size ≤ h29.size := Nat.le_trans Y25 (Keep.of_wr W29).1
  have hl35 := Nat.le_trans hl26 (Keep.of_wr W29).1
  show Gl p.tables e below T29 (mkF m 57 #[.val (.ref sa), .val (.ref ca), .val (.int (0 : Int32)), .val (.int (2 : Int32)), .val .null, .val (.ref b_4)] []) G
  obtain ⟨fs, hr, hrun, hended, hRW⟩ := X29.leaveW hS0 (by rw [e29]; exact hl35) (v := none) (fun _ => rfl)
  have G36 : Exa Z h29 sa "java/lang/String" := (G28.wr W29)
  have G37 : Fld Z h29 sa "java/lang/String" "coder" "B" (.int (0 : Int32)) := ((Fld.same W20 G18).other W29 (Or.inr (slot_ne (Or.inr (hw _ (List.mem_of_getElem? (i := 31) rfl))) (Or.inr (hw _ (List.mem_of_getElem? (i := 33) rfl))) (by decide) (t := .byte) (t' := (.array .byte)) (by decide) (by decide))))
  have G38 : Arv Z h29 b_4 k_4 .byte (2 : Int32) [(.int (c0.toInt8.toInt32)), (.int (c1.toInt8.toInt32))] (.int (0 : Int32)) := ((P5.other W20 (Ne.symm ne7)).other W29 (Ne.symm ne7))
  have hq : ∀ L, Fr n0 L → Q_si4_2 Z sa u1 u2 ca ck c0 c1 cps h0 n0 (none) T29.heap L := by
    intro L hN
    rw [e29]
    exact ⟨b_4, k_4, rfl, hN, ((((Keep.refl h0 [sa]).trans K4 all0).wr W20 (Or.inl (List.mem_of_getElem? (i := 0) rfl))).wr W29 (Or.inl (List.mem_of_getElem? (i := 0) rfl))), G36, G37, (Fld.same W29 G27), G38⟩
  have hc : CHr Z own_EL s.vm s.heap T29.vm T29.heap := by
    rw [hh, e29]
    exact CHr.trans CR30 (CHv.at X29 hZ hEL CR30.1)
  rw [hG]
  exact Gl.fin (X29.returnOut hx Bd.returns (hb hby d3_57) hr) ⟨_, hrun, hended, _, _, rfl, hq _ N29_, hc, ⟨hRW.1, hRW.2.1, hRW.2.2.1, hRW.2.2.2.mono (by decide) (by decide)⟩⟩
theorem ef_si1_2 (m : MethodId) (x0 : Addr) (x1 : Addr) : entryFrame m #[(.ref x0), (.ref x1)] 2 = mkF m 0 #[.val (.ref x0), .val (.ref x1)] [] := by first | (simp [entryFrame, mkF, argsToLocals, Value.category]; done) | rfl | (simp [entryFrame, mkF, argsToLocals, own_catI, own_catR, *]; done)
def Q_si1_2 (Z : State) (sa : Addr) (u1 : Value) (u2 : Value) (ca : Addr) (ck : ClassId) (c0 : Int32) (c1 : Int32) (cps : Int32) (h0 : Heap) (n0 : Nat) (v : Option Value) (h : Heap) (L : List Loc) : Prop := ∃ (sb : Addr), ∃ (sk : ClassId), v = none ∧ Fr n0 L ∧ Keep h0 h [sa] ∧ Exa Z h sa "java/lang/String" ∧ Fld Z h sa "java/lang/String" "coder" "B" (.int (0 : Int32)) ∧ Fld Z h sa "java/lang/String" "value" "[B" (.ref sb) ∧ Arv Z h sb sk .byte (own_ln ([(c0.toInt8.toInt32), (c1.toInt8.toInt32)] : List Int32)) (([(c0.toInt8.toInt32), (c1.toInt8.toInt32)] : List Int32).map Value.int) (.int (0 : Int32))
set_option maxRecDepth 65536 in
set_option maxHeartbeats 40000000 in
theorem si1_2 (l : Launch) (Z : State) (a0 : Array Value) (hw : ∀ d ∈ tables_1, d.before a0 Z = true) (ws : List Jvm.Cond) (sa : Addr) (u1 : Value) (u2 : Value) (ca : Addr) (ck : ClassId) (c0 : Int32) (c1 : Int32) (cps : Int32) (h0 : Heap) (n0 : Nat) (Z0 : n0 ≤ h0.size) (F0_sa : Exa Z h0 sa "java/lang/String") (F1_sa_value : Fld Z h0 sa "java/lang/String" "value" "[B" u1) (F2_sa_coder : Fld Z h0 sa "java/lang/String" "coder" "B" u2) (F3_ca : Arv Z h0 ca ck .char (2 : Int32) [(.int c0), (.int c1)] (.int (0 : Int32))) (F4_java_lang_String : Sta Z Z.heap "java/lang/String" "COMPACT_STRINGS" "Z" (.int cps)) (F5_ : Old Z n0 h0) (hc0 : ¬ ((255 : Int32) < c0)) (hc1 : ¬ ((255 : Int32) < c1)) (hcps : ¬ (cps = (0 : Int32))) (hp3 : n0 ≤ sa) (hp4 : sa ≠ ca) :
    MetFree l (⟨"java/lang/String", "<init>", "([C)V"⟩ : MethodName) (head1 (Jvm.Cond.code (⟨"java/lang/String", "<init>", "([C)V"⟩ : MethodName) jdk_42_method_3_code 2 none :: ws) ({ frames := 3, cells := 1, slots := 2, locals := 52 } : Room)) (fun a U => a = #[(.ref sa), (.ref ca)] ∧ Z.Warmed39 U.vm ∧ U.heap = h0 ∧ CHv Z own_EL U.vm h0 ∧ ∀ x ∈ ([sa] : List Addr), Safe Z own_EL U.vm h0 x) (fun _ _ _ _ _ => True) (fun _ U o U' => ∃ v L, o = .returned v ∧ Q_si1_2 Z sa u1 u2 ca ck c0 c1 cps h0 n0 v U'.heap L ∧ CHr Z own_EL U.vm U.heap U'.vm U'.heap ∧ ReturnedEndW U o U' L ({ frames := 3, cells := 1, slots := 2, locals := 52 } : Room).cells ({ frames := 3, cells := 1, slots := 2, locals := 52 } : Room).slots) := by
  refine MetFree.of_bodySF (plainFor_of_name pn_0) hisR ?_
  intro p e s m args below meth c s₁ Bd hml0 hP hK
  obtain ⟨rfl, hZ, hh, hCH, hSF⟩ := hP
  have hx := Bd.exec
  have hby := Bd.bytes
  have hml : c.maxLocals = 2 := hml0
  have hown : s.vm.findClass "java/lang/String" = some m.cls := findClass_of_methodNamed Bd.named
  have hnm := (name_of_methodNamed Bd.named Bd.method).1
  have X0 : Stand p l e ({ frames := 3, cells := 1, slots := 2, locals := 52 } : Room) (s.setVm s.vm) m #[(.ref sa), (.ref ca)] below meth c s₁ [] 0 0 := Stand.of_body Bd
  have e0 : s₁.heap = h0 := by rw [← hh, Bd.state]; rfl
  have N0 := Fr.nil n0
  have hS0 : s.Since s.vm 0 := (State.WarmedH.refl s).since 0
  have hk0 : 0 ≤ h0.size := Nat.zero_le _
  have hEL := own_ew hw
  have CR0 : CHr Z own_EL s.vm h0 s.vm h0 := CHr.refl hCH
  obtain ⟨G, hG⟩ : ∃ G : State → Prop, G = (fun U' => ∃ o, U'.status = .running ∧ Ended U' below o ∧ ∃ v L, o = .returned v ∧ Q_si1_2 Z sa u1 u2 ca ck c0 c1 cps h0 n0 v U'.heap L ∧ CHr Z own_EL s.vm s.heap U'.vm U'.heap ∧ ReturnedEndW s o U' L ({ frames := 3, cells := 1, slots := 2, locals := 52 } : Room).cells ({ frames := 3, cells := 1, slots := 2, locals := 52 } : Room).slots) := ⟨_, rfl⟩
  suffices key : Gl p.tables e below s₁ (mkF m 0 #[.val (.ref sa), .val (.ref ca)] []) G by
    obtain ⟨s₂, k1, k2⟩ := key
    rw [hG] at k2
    obtain ⟨o, k3, k4, k5⟩ := k2
    exact ⟨s₂, o, castTop (ef_si1_2 m sa ca) k1, k3, k4, k5⟩
  show Gl p.tables e below s₁ (mkF m 0 #[.val (.ref sa), .val (.ref ca)] []) G
  refine Gl.via (fun _ k => XS.aloadN X0.here hx rfl (hb hby d2_0) rfl rfl k) ?_
  show Gl p.tables e below s₁ (mkF m 1 #[.val (.ref sa), .val (.ref ca)] [(.ref sa)]) G
  refine Gl.via (fun _ k => XS.aloadN X0.here hx rfl (hb hby d2_1) rfl rfl k) ?_
  show Gl p.tables e below s₁ (mkF m 2 #[.val (.ref sa), .val (.ref ca)] [(.ref ca), (.ref sa)]) G
  refine Gl.via (fun _ k => XS.iconst X0.here hx rfl (hb hby d2_2) k) ?_
  show Gl p.tables e below s₁ (mkF m 3 #[.val (.ref sa), .val (.ref ca)] [(.int (0 : Int32)), (.ref ca), (.ref sa)]) G
  refine Gl.via (fun _ k => XS.aloadN X0.here hx rfl (hb hby d2_3) rfl rfl k) ?_
  show Gl p.tables e below s₁ (mkF m 4 #[.val (.ref sa), .val (.ref ca)] [(.ref ca), (.int (0 : Int32)), (.ref ca), (.ref sa)]) G
  obtain ⟨cl1, Ar1, -, S1, N1, -, -⟩ := id F3_ca
  refine Gl.via (fun _ k => X0.arraylength hx (by rw [e0]; exact Ar1.1) (State.isArrayOf_alike hZ.alike Ar1.2.1) (g := (mkF m 4 #[.val (.ref sa), .val (.ref ca)] [(.ref ca), (.int (0 : Int32)), (.ref ca), (.ref sa)])) rfl rfl (hb hby d2_4) _ k) ?_
  rw [len_of S1 N1]
  show Gl p.tables e below s₁ (mkF m 5 #[.val (.ref sa), .val (.ref ca)] [(.int (2 : Int32)), (.int (0 : Int32)), (.ref ca), (.ref sa)]) G
  refine Gl.via (fun _ k => XS.aconstNull X0.here hx rfl (hb hby d2_5) k) ?_
  show Gl p.tables e below s₁ (mkF m 6 #[.val (.ref sa), .val (.ref ca)] [.null, (.int (2 : Int32)), (.int (0 : Int32)), (.ref ca), (.ref sa)]) G
  obtain ⟨_, _, ⟨T2, L2, k2, n2⟩, -, Xb2, hSb2, hgb2, ⟨Lc2, hQ2, l2, y2, z2, hC2⟩, st2⟩ := X0.specialBackS hx (y := (⟨"java/lang/String", "<init>", "([CIILjava/lang/Void;)V"⟩ : MethodName)) rfl hown (mvT hZ (hw _ (List.mem_of_getElem? (i := 11) rfl))) (mvT hZ (hw _ (List.mem_of_getElem? (i := 12) rfl))) (mvT hZ (hw _ (List.mem_of_getElem? (i := 14) rfl))) (by decide) (own_back (W := 0) (si4_2 l Z a0 hw [] sa u1 u2 ca ck c0 c1 cps h0 n0 Z0 F0_sa F1_sa_value F2_sa_coder F3_ca F4_java_lang_String F5_ hc0 hc1 hcps hp3 hp4) hZ (hw _ (List.mem_of_getElem? (i := 14) rfl)) (hw _ (List.mem_of_getElem? (i := 6) rfl)) (by decide) (by decide) hEL CR0.1 (own_xs ⟨(hSF sa (List.mem_of_getElem? (i := 0) rfl)), F0_sa.lt⟩ (fun _ z => nomatch z))) (g := (mkF m 6 #[.val (.ref sa), .val (.ref ca)] [.null, (.int (2 : Int32)), (.int (0 : Int32)), (.ref ca), (.ref sa)])) rfl (by rw [hml]; rfl) (Steps.refl _) (a := sa) (argsL := [(.ref ca), (.int (0 : Int32)), (.int (2 : Int32)), .null]) (rest := []) (lenOf pd_16 rfl) rfl (by show 2 * 0 + _ ≤ _; exact Nat.le_of_eq rfl) (hb hby d2_6) (fun _ _ => ⟨rfl, e0, (by decide : 0 + 1 ≤ _), (by decide : 0 + 2 ≤ _)⟩)
  dsimp only [Pt.U, Pt.locs, Pt.cells, Pt.slots] at Xb2 hSb2 hgb2 l2 y2 z2 st2 hQ2 hC2
  subst l2 y2 z2
  obtain ⟨X2, hS2, hZ2, hown2⟩ := rebS hS0 (by rw [e0]; exact hk0) Xb2 hSb2 hgb2 hZ hown
  have hk2 : T2.heap.size ≤ T2.heap.size := Nat.le_refl _
  obtain ⟨sb_2, sk_2, rfl, N2q, K2, P3, P4, P5, P6⟩ := hQ2
  have N2_ := Fr.app N0 N2q
  refine Gl.via (fun _ k => st2.trans k) ?_
  have CR7 : CHr Z own_EL s.vm h0 T2.vm T2.heap := CHr.trans CR0 hC2
  have SF8 : Safe Z own_EL T2.vm T2.heap sa := hC2.safe (by have q := F0_sa.lt; exact q) (hSF sa (List.mem_of_getElem? (i := 0) rfl))
  have Z9 : n0 ≤ T2.heap.size := Nat.le_trans Z0 K2.1
  have Y10 : h0.size ≤ T2.heap.size := Nat.le_trans (Nat.le_refl h0.size) K2.1
  have hl11 := Nat.le_trans hk0 K2.1
  show Gl p.tables e below T2 (mkF m 9 #[.val (.ref sa), .val (.ref ca)] []) G
  obtain ⟨fs, hr, hrun, hended, hRW⟩ := X2.leaveW hS2 hk2 (v := none) (fun _ => rfl)
  have hq : ∀ L, Fr n0 L → Q_si1_2 Z sa u1 u2 ca ck c0 c1 cps h0 n0 (none) T2.heap L := by
    intro L hN
    exact ⟨sb_2, sk_2, rfl, hN, ((Keep.refl h0 [sa]).trans K2 (allS (Or.inl (List.mem_of_getElem? (i := 0) rfl)) all0)), P3, P4, P5, P6⟩
  have hc : CHr Z own_EL s.vm s.heap T2.vm T2.heap := by
    rw [hh]
    exact CHr.trans CR7 (CHv.at X2 hZ2 hEL CR7.1)
  rw [hG]
  exact Gl.fin (X2.returnOut hx Bd.returns (hb hby d2_9) hr) ⟨_, hrun, hended, _, _, rfl, hq _ N2_, hc, ⟨hRW.1, hRW.2.1, hRW.2.2.1, hRW.2.2.2.mono (by decide) (by decide)⟩⟩
def own_mk (n c0 c1 c2 : Int32) : List Int32 := if n = 0 then [] else if n = 1 then [c0.toInt8.toInt32] else if n = 2 then [c0.toInt8.toInt32, c1.toInt8.toInt32] else [c0.toInt8.toInt32, c1.toInt8.toInt32, c2.toInt8.toInt32]
theorem own_mk0 {n c0 c1 c2 : Int32} (h : n = 0) : own_mk n c0 c1 c2 = [] := if_pos h
theorem own_mk1 {n c0 c1 c2 : Int32} (h0 : ¬ n = 0) (h : n = 1) : own_mk n c0 c1 c2 = [c0.toInt8.toInt32] := (if_neg h0).trans (if_pos h)
theorem own_mk2 {n c0 c1 c2 : Int32} (h0 : ¬ n = 0) (h1 : ¬ n = 1) (h : n = 2) : own_mk n c0 c1 c2 = [c0.toInt8.toInt32, c1.toInt8.toInt32] := (if_neg h0).trans ((if_neg h1).trans (if_pos h))
theorem own_mk3 {n c0 c1 c2 : Int32} (h0 : ¬ n = 0) (h1 : ¬ n = 1) (h : ¬ n = 2) : own_mk n c0 c1 c2 = [c0.toInt8.toInt32, c1.toInt8.toInt32, c2.toInt8.toInt32] := (if_neg h0).trans ((if_neg h1).trans (if_neg h))
def own_scat (sep n c0 c1 c2 m d0 d1 d2 : Int32) : List Int32 := ((([] : List Int32) ++ own_mk n c0 c1 c2) ++ ([sep] : List Int32)) ++ own_mk m d0 d1 d2
def own_sm (n : Int32) : Prop := n = 0 ∨ n = 1 ∨ n = 2 ∨ n = 3
theorem own_and3 (x : Int32) : own_sm (x &&& 3) := by
  have e : (x &&& 3).toBitVec = x.toBitVec &&& 3#32 := rfl
  have h : ∀ b : BitVec 32, b &&& 3#32 = 0#32 ∨ b &&& 3#32 = 1#32 ∨ b &&& 3#32 = 2#32 ∨ b &&& 3#32 = 3#32 := fun b => by
    have q : (b &&& 3#32).toNat = b.toNat % 4 := by rw [BitVec.toNat_and]; exact Nat.and_two_pow_sub_one_eq_mod b.toNat 2
    have r : b.toNat % 4 < 4 := Nat.mod_lt _ (by decide)
    have r2 : b.toNat % 4 = 0 ∨ b.toNat % 4 = 1 ∨ b.toNat % 4 = 2 ∨ b.toNat % 4 = 3 := by omega
    rcases r2 with r2 | r2 | r2 | r2 <;> rw [r2] at q
    · exact Or.inl (BitVec.eq_of_toNat_eq q)
    · exact Or.inr (Or.inl (BitVec.eq_of_toNat_eq q))
    · exact Or.inr (Or.inr (Or.inl (BitVec.eq_of_toNat_eq q)))
    · exact Or.inr (Or.inr (Or.inr (BitVec.eq_of_toNat_eq q)))
  rcases h x.toBitVec with h | h | h | h <;> rw [← e] at h
  · exact Or.inl (Int32.toBitVec_inj.mp h)
  · exact Or.inr (Or.inl (Int32.toBitVec_inj.mp h))
  · exact Or.inr (Or.inr (Or.inl (Int32.toBitVec_inj.mp h)))
  · exact Or.inr (Or.inr (Or.inr (Int32.toBitVec_inj.mp h)))
theorem own_scln {sep n c0 c1 c2 m d0 d1 d2 : Int32} (hn : own_sm n) (hm : own_sm m) : own_ln (own_scat sep n c0 c1 c2 m d0 d1 d2) = n + 1 + m := by
  rcases hn with rfl | rfl | rfl | rfl <;> rcases hm with rfl | rfl | rfl | rfl <;> rfl
theorem own_mklen {n c0 c1 c2 : Int32} : (own_mk n c0 c1 c2).length ≤ 3 := by
  by_cases h0 : n = 0
  · rw [own_mk0 h0]; exact Nat.zero_le _
  · by_cases h1 : n = 1
    · rw [own_mk1 h0 h1]; exact Nat.le_of_ble_eq_true rfl
    · by_cases h2 : n = 2
      · rw [own_mk2 h0 h1 h2]; exact Nat.le_of_ble_eq_true rfl
      · rw [own_mk3 h0 h1 h2]; exact Nat.le_refl _
theorem own_l1 {n c0 c1 c2 : Int32} {k : Nat} (h : 3 ≤ k) : (([] : List Int32)).length + (own_mk n c0 c1 c2).length ≤ k := by
  have q := own_mklen (n := n) (c0 := c0) (c1 := c1) (c2 := c2)
  show 0 + _ ≤ k
  omega
theorem own_l2 {n c0 c1 c2 : Int32} : (([] : List Int32) ++ own_mk n c0 c1 c2).length + 1 ≤ 16 := by
  have q := own_mklen (n := n) (c0 := c0) (c1 := c1) (c2 := c2)
  show (own_mk n c0 c1 c2).length + 1 ≤ 16
  omega
theorem own_l3 {sep n c0 c1 c2 m d0 d1 d2 : Int32} : ((([] : List Int32) ++ own_mk n c0 c1 c2) ++ ([sep] : List Int32)).length + (own_mk m d0 d1 d2).length ≤ 16 := by
  have q := own_mklen (n := n) (c0 := c0) (c1 := c1) (c2 := c2)
  have r := own_mklen (n := m) (c0 := d0) (c1 := d1) (c2 := d2)
  rw [List.length_append, List.length_append, List.length_singleton, List.length_nil]
  omega
theorem own_l4 {sep n c0 c1 c2 m d0 d1 d2 : Int32} : (own_scat sep n c0 c1 c2 m d0 d1 d2).length ≤ 15 := by
  have q := own_mklen (n := n) (c0 := c0) (c1 := c1) (c2 := c2)
  have r := own_mklen (n := m) (c0 := d0) (c1 := d1) (c2 := d2)
  unfold own_scat
  rw [List.length_append, List.length_append, List.length_append, List.length_singleton, List.length_nil]
  omega
theorem own_msk (c : Int32) (h0 : 0 ≤ c.toInt) (h : ¬ ((255 : Int32) < c)) : c.toInt8.toInt32 &&& (255 : Int32) = c := by
  rw [Int32.lt_iff_toInt_lt] at h
  have h2 : c.toInt ≤ 255 := by
    have q : ¬ (255 : Int) < c.toInt := h
    omega
  have key : ∀ n : Fin 256, ((Int32.ofNat n.val).toInt8.toInt32 &&& (255 : Int32)) = Int32.ofNat n.val := by decide +kernel
  have e : c = Int32.ofNat c.toInt.toNat := Int32.toInt_inj.mp (by rw [Int32.toInt_ofNat_of_lt (by omega)]; omega)
  have k := key ⟨c.toInt.toNat, by omega⟩
  rw [e]
  exact k
theorem d13_0 : decode jdk_43_method_3_code 0 = .ok (.iload_n 0, 1) := by decide +kernel
theorem d13_1 : decode jdk_43_method_3_code 1 = .ok (.sipush 255, 3) := by decide +kernel
theorem d13_4 : decode jdk_43_method_3_code 4 = .ok (.if_icmp .gt 7, 3) := by decide +kernel
theorem d13_7 : decode jdk_43_method_3_code 7 = .ok (.iconst 1, 1) := by decide +kernel
theorem d13_8 : decode jdk_43_method_3_code 8 = .ok (.goto 4, 3) := by decide +kernel
theorem d13_12 : decode jdk_43_method_3_code 12 = .ok (.ireturn, 1) := by decide +kernel
theorem ef_canenc (m : MethodId) (x0 : Int32) : entryFrame m #[(.int x0)] 1 = mkF m 0 #[.val (.int x0)] [] := by first | (simp [entryFrame, mkF, argsToLocals, Value.category]; done) | rfl | (simp [entryFrame, mkF, argsToLocals, own_catI, own_catR, *]; done)
def Q_canenc (Z : State) (ec : Int32) (h0 : Heap) (n0 : Nat) (v : Option Value) (h : Heap) (L : List Loc) : Prop := v = some (.int (1 : Int32)) ∧ Fr n0 L ∧ h = h0
set_option maxRecDepth 65536 in
set_option maxHeartbeats 40000000 in
theorem canenc (l : Launch) (Z : State) (a0 : Array Value) (hw : ∀ d ∈ tables_1, d.before a0 Z = true) (ws : List Jvm.Cond) (ec : Int32) (h0 : Heap) (n0 : Nat) (Z0 : n0 ≤ h0.size) (he : ¬ ((255 : Int32) < ec)) :
    MetFree l (⟨"java/lang/StringLatin1", "canEncode", "(C)Z"⟩ : MethodName) (head1 (Jvm.Cond.code (⟨"java/lang/StringLatin1", "canEncode", "(C)Z"⟩ : MethodName) jdk_43_method_3_code 1 (some .boolean) :: ws) ({ frames := 0, cells := 0, slots := 0, locals := 0 } : Room)) (fun a U => a = #[(.int ec)] ∧ Z.Warmed39 U.vm ∧ U.heap = h0) (fun _ _ _ _ _ => True) (fun _ U o U' => ∃ v L, o = .returned v ∧ Q_canenc Z ec h0 n0 v U'.heap L ∧ FrameEnd U o U' L ({ frames := 0, cells := 0, slots := 0, locals := 0 } : Room).cells ({ frames := 0, cells := 0, slots := 0, locals := 0 } : Room).slots) := by
  refine MetFree.of_bodySF (plainFor_of_name pn_2) hisR ?_
  intro p e s m args below meth c s₁ Bd hml0 hP hK
  obtain ⟨rfl, hZ, hh⟩ := hP
  have hx := Bd.exec
  have hby := Bd.bytes
  have hml : c.maxLocals = 1 := hml0
  have hown : s.vm.findClass "java/lang/StringLatin1" = some m.cls := findClass_of_methodNamed Bd.named
  have hnm := (name_of_methodNamed Bd.named Bd.method).1
  have X0 : Stand p l e ({ frames := 0, cells := 0, slots := 0, locals := 0 } : Room) s m #[(.int ec)] below meth c s₁ [] 0 0 := Stand.of_body Bd
  have e0 : s₁.heap = h0 := by rw [← hh, Bd.state]; rfl
  have N0 := Fr.nil n0
  obtain ⟨G, hG⟩ : ∃ G : State → Prop, G = (fun U' => ∃ o, U'.status = .running ∧ Ended U' below o ∧ ∃ v L, o = .returned v ∧ Q_canenc Z ec h0 n0 v U'.heap L ∧ FrameEnd s o U' L ({ frames := 0, cells := 0, slots := 0, locals := 0 } : Room).cells ({ frames := 0, cells := 0, slots := 0, locals := 0 } : Room).slots) := ⟨_, rfl⟩
  suffices key : Gl p.tables e below s₁ (mkF m 0 #[.val (.int ec)] []) G by
    obtain ⟨s₂, k1, k2⟩ := key
    rw [hG] at k2
    obtain ⟨o, k3, k4, k5⟩ := k2
    exact ⟨s₂, o, castTop (ef_canenc m ec) k1, k3, k4, k5⟩
  show Gl p.tables e below s₁ (mkF m 0 #[.val (.int ec)] []) G
  refine Gl.via (fun _ k => XS.iloadN X0.here hx rfl (hb hby d13_0) rfl k) ?_
  show Gl p.tables e below s₁ (mkF m 1 #[.val (.int ec)] [(.int ec)]) G
  refine Gl.via (fun _ k => XS.sipush X0.here hx rfl (hb hby d13_1) k) ?_
  show Gl p.tables e below s₁ (mkF m 4 #[.val (.int ec)] [(.int (255 : Int32)), (.int ec)]) G
  refine Gl.via (fun _ k => XS.icmpNo X0.here hx rfl (hb hby d13_4) rfl (flt he).2.2.1 k) ?_
  show Gl p.tables e below s₁ (mkF m 7 #[.val (.int ec)] []) G
  refine Gl.via (fun _ k => XS.iconst X0.here hx rfl (hb hby d13_7) k) ?_
  show Gl p.tables e below s₁ (mkF m 8 #[.val (.int ec)] [(.int (1 : Int32))]) G
  refine Gl.via (fun _ k => XS.goto X0.here hx rfl (pc0 := 8) (pc' := 12) rfl (hb hby d13_8) (by decide) (by decide) k) ?_
  show Gl p.tables e below s₁ (mkF m 12 #[.val (.int ec)] [(.int (1 : Int32))]) G
  obtain ⟨fs, hr, hrun, hended, hW, hsame⟩ := X0.leave (v := some (.int (1 : Int32))) (fun h => by rw [Bd.returns] at h; cases h)
  have hq : ∀ L, Fr n0 L → Q_canenc Z ec h0 n0 (some (.int (1 : Int32))) s₁.heap L := by
    intro L hN
    rw [e0]
    exact ⟨rfl, hN, rfl⟩
  rw [hG]
  exact Gl.fin (retN X0 hx (t := .boolean) Bd.returns (by simp) (hb hby d13_12) hr) ⟨_, hrun, hended, _, _, rfl, hq _ N0, ⟨_, rfl⟩, hW, hsame.mono (by decide) (by decide)⟩
theorem d14_0 : decode jdk_43_method_46_code 0 = .ok (.iconst 1, 1) := by decide +kernel
theorem d14_1 : decode jdk_43_method_46_code 1 = .ok (.newarray .byte, 2) := by decide +kernel
theorem d14_3 : decode jdk_43_method_46_code 3 = .ok (.dup, 1) := by decide +kernel
theorem d14_4 : decode jdk_43_method_46_code 4 = .ok (.iconst 0, 1) := by decide +kernel
theorem d14_5 : decode jdk_43_method_46_code 5 = .ok (.iload_n 0, 1) := by decide +kernel
theorem d14_6 : decode jdk_43_method_46_code 6 = .ok (.i2b, 1) := by decide +kernel
theorem d14_7 : decode jdk_43_method_46_code 7 = .ok (.bastore, 1) := by decide +kernel
theorem d14_8 : decode jdk_43_method_46_code 8 = .ok (.areturn, 1) := by decide +kernel
theorem ef_l1_tb (m : MethodId) (x0 : Int32) : entryFrame m #[(.int x0)] 1 = mkF m 0 #[.val (.int x0)] [] := by first | (simp [entryFrame, mkF, argsToLocals, Value.category]; done) | rfl | (simp [entryFrame, mkF, argsToLocals, own_catI, own_catR, *]; done)
def Q_l1_tb (Z : State) (vc : Int32) (h0 : Heap) (n0 : Nat) (v : Option Value) (h : Heap) (L : List Loc) : Prop := ∃ (b : Addr), ∃ (k : ClassId), v = some (.ref b) ∧ Fr n0 L ∧ Keep h0 h [] ∧ Arv Z h b k .byte (1 : Int32) [(.int (vc.toInt8.toInt32))] (.int (0 : Int32)) ∧ (h0.size ≤ b)
set_option maxRecDepth 65536 in
set_option maxHeartbeats 40000000 in
theorem l1_tb (l : Launch) (Z : State) (a0 : Array Value) (hw : ∀ d ∈ tables_1, d.before a0 Z = true) (ws : List Jvm.Cond) (vc : Int32) (h0 : Heap) (n0 : Nat) (Z0 : n0 ≤ h0.size) :
    MetFree l (⟨"java/lang/StringLatin1", "toBytes", "(C)[B"⟩ : MethodName) (head1 (Jvm.Cond.code (⟨"java/lang/StringLatin1", "toBytes", "(C)[B"⟩ : MethodName) jdk_43_method_46_code 1 (some (.array .byte)) :: ws) ({ frames := 0, cells := 1, slots := 1, locals := 0 } : Room)) (fun a U => a = #[(.int vc)] ∧ Z.Warmed39 U.vm ∧ U.heap = h0) (fun _ _ _ _ _ => True) (fun _ U o U' => ∃ v L, o = .returned v ∧ Q_l1_tb Z vc h0 n0 v U'.heap L ∧ FrameEnd U o U' L ({ frames := 0, cells := 1, slots := 1, locals := 0 } : Room).cells ({ frames := 0, cells := 1, slots := 1, locals := 0 } : Room).slots) := by
  refine MetFree.of_bodySF (plainFor_of_name pn_2) hisR ?_
  intro p e s m args below meth c s₁ Bd hml0 hP hK
  obtain ⟨rfl, hZ, hh⟩ := hP
  have hx := Bd.exec
  have hby := Bd.bytes
  have hml : c.maxLocals = 1 := hml0
  have hown : s.vm.findClass "java/lang/StringLatin1" = some m.cls := findClass_of_methodNamed Bd.named
  have hnm := (name_of_methodNamed Bd.named Bd.method).1
  have X0 : Stand p l e ({ frames := 0, cells := 1, slots := 1, locals := 0 } : Room) s m #[(.int vc)] below meth c s₁ [] 0 0 := Stand.of_body Bd
  have e0 : s₁.heap = h0 := by rw [← hh, Bd.state]; rfl
  have N0 := Fr.nil n0
  obtain ⟨G, hG⟩ : ∃ G : State → Prop, G = (fun U' => ∃ o, U'.status = .running ∧ Ended U' below o ∧ ∃ v L, o = .returned v ∧ Q_l1_tb Z vc h0 n0 v U'.heap L ∧ FrameEnd s o U' L ({ frames := 0, cells := 1, slots := 1, locals := 0 } : Room).cells ({ frames := 0, cells := 1, slots := 1, locals := 0 } : Room).slots) := ⟨_, rfl⟩
  suffices key : Gl p.tables e below s₁ (mkF m 0 #[.val (.int vc)] []) G by
    obtain ⟨s₂, k1, k2⟩ := key
    rw [hG] at k2
    obtain ⟨o, k3, k4, k5⟩ := k2
    exact ⟨s₂, o, castTop (ef_l1_tb m vc) k1, k3, k4, k5⟩
  show Gl p.tables e below s₁ (mkF m 0 #[.val (.int vc)] []) G
  refine Gl.via (fun _ k => XS.iconst X0.here hx rfl (hb hby d14_0) k) ?_
  show Gl p.tables e below s₁ (mkF m 1 #[.val (.int vc)] [(.int (1 : Int32))]) G
  obtain ⟨T1, h1, k1, X1, e1, E1, A1, st1⟩ := newP X0 hx hZ (hw _ (List.mem_of_getElem? (i := 23) rfl)) e0 (g := (mkF m 1 #[.val (.int vc)] [(.int (1 : Int32))])) rfl (hb hby d14_1) rfl (by decide) (cap := 1) (by decide) (by decide) (by decide) (by decide)
  obtain ⟨b1, g1⟩ : ∃ z, z = h0.size := ⟨_, rfl⟩
  rw [← g1] at A1 st1
  have ge2 : n0 ≤ b1 := Nat.le_trans Z0 (Nat.le_of_eq g1.symm)
  have gz3 : h0.size ≤ b1 := Nat.le_trans (Nat.le_refl h0.size) (Nat.le_of_eq g1.symm)
  refine Gl.via st1 ?_
  have Z4 : n0 ≤ h1.size := Nat.le_trans Z0 E1.1
  have Y5 : h0.size ≤ h1.size := Nat.le_trans (Nat.le_refl h0.size) E1.1
  have V6 : Arv Z h1 b1 k1 .byte (1 : Int32) [(.int (0 : Int32))] (.int (0 : Int32)) := (Arv.new A1 (by decide)).pad (pad_rep [] (.int (0 : Int32)) 1)
  show Gl p.tables e below T1 (mkF m 3 #[.val (.int vc)] [(.ref b1)]) G
  refine Gl.via (fun _ k => XS.dup X1.here hx rfl (hb hby d14_3) rfl rfl k) ?_
  show Gl p.tables e below T1 (mkF m 4 #[.val (.int vc)] [(.ref b1), (.ref b1)]) G
  refine Gl.via (fun _ k => XS.iconst X1.here hx rfl (hb hby d14_4) k) ?_
  show Gl p.tables e below T1 (mkF m 5 #[.val (.int vc)] [(.int (0 : Int32)), (.ref b1), (.ref b1)]) G
  refine Gl.via (fun _ k => XS.iloadN X1.here hx rfl (hb hby d14_5) rfl k) ?_
  show Gl p.tables e below T1 (mkF m 6 #[.val (.int vc)] [(.int vc), (.int (0 : Int32)), (.ref b1), (.ref b1)]) G
  refine Gl.via (fun _ k => XS.i2b X1.here hx rfl (hb hby d14_6) rfl k) ?_
  show Gl p.tables e below T1 (mkF m 7 #[.val (.int vc)] [(.int (vc.toInt8.toInt32)), (.int (0 : Int32)), (.ref b1), (.ref b1)]) G
  obtain ⟨cl7, Ar7, q7, S7, N7, H7, G7⟩ := id V6
  have hin7 : ¬ ((0 : Int32) < 0 ∨ cl7.slots.size ≤ ((0 : Int32)).toNatClampNeg) := inb_of S7 ⟨by decide, by decide⟩
  obtain ⟨T7, h7, X7, e7, W7, st7⟩ := stB X1 hx hZ e1 Ar7 (j := (0 : Int32)) hin7 (g := (mkF m 7 #[.val (.int vc)] [(.int (vc.toInt8.toInt32)), (.int (0 : Int32)), (.ref b1), (.ref b1)])) rfl rfl (hb hby d14_7)
  refine Gl.via st7 ?_
  have N7_ := Fr.snoc X7 N0 ge2
  have Z8 : n0 ≤ h7.size := Nat.le_trans Z4 (Keep.of_wr W7).1
  have Y9 : h0.size ≤ h7.size := Nat.le_trans Y5 (Keep.of_wr W7).1
  have V10 : Arv Z h7 b1 k1 .byte (1 : Int32) [(.int (nar .byte (vc.toInt8.toInt32)))] (.int (0 : Int32)) := Arv.set Ar7 q7 S7 N7 H7 G7 (fits_nar_byte _) W7 0 rfl (Nat.le_of_ble_eq_true rfl)
  have V11 : Arv Z h7 b1 k1 .byte (1 : Int32) [(.int (vc.toInt8.toInt32))] (.int (0 : Int32)) := by rw [show ((.int (nar .byte (vc.toInt8.toInt32))) : Value) = (.int (vc.toInt8.toInt32)) from (congrArg Value.int (own_bb _))] at V10; exact V10
  show Gl p.tables e below T7 (mkF m 8 #[.val (.int vc)] [(.ref b1)]) G
  obtain ⟨fs, hr, hrun, hended, hW, hsame⟩ := X7.leave (v := some (.ref b1)) (fun h => by rw [Bd.returns] at h; cases h)
  have hq : ∀ L, Fr n0 L → Q_l1_tb Z vc h0 n0 (some (.ref b1)) T7.heap L := by
    intro L hN
    rw [e7]
    exact ⟨b1, k1, rfl, hN, (((Keep.refl h0 []).ext E1).wr W7 (Or.inr gz3)), V11, gz3⟩
  rw [hG]
  exact Gl.fin (retOut X7 hx Bd.returns rfl (Or.inr (Or.inr (Or.inr (Or.inr ⟨rfl, rfl, rfl⟩)))) (hb hby d14_8) hr) ⟨_, hrun, hended, _, _, rfl, hq _ N7_, ⟨_, rfl⟩, hW, hsame.mono (by decide) (by decide)⟩
theorem d15_0 : decode jdk_42_method_151_code 0 = .ok (.aload_n 0, 1) := by decide +kernel
theorem d15_1 : decode jdk_42_method_151_code 1 = .ok (.invokespecial 1, 3) := by decide +kernel
theorem d15_4 : decode jdk_42_method_151_code 4 = .ok (.aload_n 0, 1) := by decide +kernel
theorem d15_5 : decode jdk_42_method_151_code 5 = .ok (.aload_n 1, 1) := by decide +kernel
theorem d15_6 : decode jdk_42_method_151_code 6 = .ok (.putfield 9, 3) := by decide +kernel
theorem d15_9 : decode jdk_42_method_151_code 9 = .ok (.aload_n 0, 1) := by decide +kernel
theorem d15_10 : decode jdk_42_method_151_code 10 = .ok (.iload_n 2, 1) := by decide +kernel
theorem d15_11 : decode jdk_42_method_151_code 11 = .ok (.putfield 15, 3) := by decide +kernel
theorem d15_14 : decode jdk_42_method_151_code 14 = .ok (.return_, 1) := by decide +kernel
theorem ef_s_inibb (m : MethodId) (x0 : Addr) (x1 : Addr) (x2 : Int32) : entryFrame m #[(.ref x0), (.ref x1), (.int x2)] 3 = mkF m 0 #[.val (.ref x0), .val (.ref x1), .val (.int x2)] [] := by first | (simp [entryFrame, mkF, argsToLocals, Value.category]; done) | rfl | (simp [entryFrame, mkF, argsToLocals, own_catI, own_catR, *]; done)
def Q_s_inibb (Z : State) (sa : Addr) (b : Addr) (u1 : Value) (u2 : Value) (h0 : Heap) (n0 : Nat) (v : Option Value) (h : Heap) (L : List Loc) : Prop := v = none ∧ Fr n0 L ∧ Keep h0 h [sa] ∧ Exa Z h sa "java/lang/String" ∧ Fld Z h sa "java/lang/String" "coder" "B" (.int (0 : Int32)) ∧ Fld Z h sa "java/lang/String" "value" "[B" (.ref b)
set_option maxRecDepth 65536 in
set_option maxHeartbeats 40000000 in
theorem s_inibb (l : Launch) (Z : State) (a0 : Array Value) (hw : ∀ d ∈ tables_1, d.before a0 Z = true) (ws : List Jvm.Cond) (sa : Addr) (b : Addr) (u1 : Value) (u2 : Value) (h0 : Heap) (n0 : Nat) (Z0 : n0 ≤ h0.size) (F0_sa : Exa Z h0 sa "java/lang/String") (F1_sa_value : Fld Z h0 sa "java/lang/String" "value" "[B" u1) (F2_sa_coder : Fld Z h0 sa "java/lang/String" "coder" "B" u2) (hp0 : n0 ≤ sa) :
    MetFree l (⟨"java/lang/String", "<init>", "([BB)V"⟩ : MethodName) (head1 (Jvm.Cond.code (⟨"java/lang/String", "<init>", "([BB)V"⟩ : MethodName) jdk_42_method_151_code 3 none :: ws) ({ frames := 1, cells := 0, slots := 0, locals := 12 } : Room)) (fun a U => a = #[(.ref sa), (.ref b), (.int (0 : Int32))] ∧ Z.Warmed39 U.vm ∧ U.heap = h0) (fun _ _ _ _ _ => True) (fun _ U o U' => ∃ v L, o = .returned v ∧ Q_s_inibb Z sa b u1 u2 h0 n0 v U'.heap L ∧ FrameEnd U o U' L ({ frames := 1, cells := 0, slots := 0, locals := 12 } : Room).cells ({ frames := 1, cells := 0, slots := 0, locals := 12 } : Room).slots) := by
  refine MetFree.of_bodySF (plainFor_of_name pn_0) hisR ?_
  intro p e s m args below meth c s₁ Bd hml0 hP hK
  obtain ⟨rfl, hZ, hh⟩ := hP
  have hx := Bd.exec
  have hby := Bd.bytes
  have hml : c.maxLocals = 3 := hml0
  have hown : s.vm.findClass "java/lang/String" = some m.cls := findClass_of_methodNamed Bd.named
  have hnm := (name_of_methodNamed Bd.named Bd.method).1
  have X0 : Stand p l e ({ frames := 1, cells := 0, slots := 0, locals := 12 } : Room) s m #[(.ref sa), (.ref b), (.int (0 : Int32))] below meth c s₁ [] 0 0 := Stand.of_body Bd
  have e0 : s₁.heap = h0 := by rw [← hh, Bd.state]; rfl
  have N0 := Fr.nil n0
  obtain ⟨G, hG⟩ : ∃ G : State → Prop, G = (fun U' => ∃ o, U'.status = .running ∧ Ended U' below o ∧ ∃ v L, o = .returned v ∧ Q_s_inibb Z sa b u1 u2 h0 n0 v U'.heap L ∧ FrameEnd s o U' L ({ frames := 1, cells := 0, slots := 0, locals := 12 } : Room).cells ({ frames := 1, cells := 0, slots := 0, locals := 12 } : Room).slots) := ⟨_, rfl⟩
  suffices key : Gl p.tables e below s₁ (mkF m 0 #[.val (.ref sa), .val (.ref b), .val (.int (0 : Int32))] []) G by
    obtain ⟨s₂, k1, k2⟩ := key
    rw [hG] at k2
    obtain ⟨o, k3, k4, k5⟩ := k2
    exact ⟨s₂, o, castTop (ef_s_inibb m sa b (0 : Int32)) k1, k3, k4, k5⟩
  show Gl p.tables e below s₁ (mkF m 0 #[.val (.ref sa), .val (.ref b), .val (.int (0 : Int32))] []) G
  refine Gl.via (fun _ k => XS.aloadN X0.here hx rfl (hb hby d15_0) rfl rfl k) ?_
  show Gl p.tables e below s₁ (mkF m 1 #[.val (.ref sa), .val (.ref b), .val (.int (0 : Int32))] [(.ref sa)]) G
  obtain ⟨T1, X1, e1, st1⟩ := initO X0 hx hZ hown (hw _ (List.mem_of_getElem? (i := 15) rfl)) (hw _ (List.mem_of_getElem? (i := 16) rfl)) (hw _ (List.mem_of_getElem? (i := 17) rfl)) e0 (g := (mkF m 1 #[.val (.ref sa), .val (.ref b), .val (.int (0 : Int32))] [(.ref sa)])) rfl (by rw [hml]; rfl) rfl (hb hby d15_1) (by decide) (W := 0) (by show 2 * 0 + _ ≤ _; exact Nat.le_of_eq rfl) (by decide)
  refine Gl.via st1 ?_
  show Gl p.tables e below T1 (mkF m 4 #[.val (.ref sa), .val (.ref b), .val (.int (0 : Int32))] []) G
  refine Gl.via (fun _ k => XS.aloadN X1.here hx rfl (hb hby d15_4) rfl rfl k) ?_
  show Gl p.tables e below T1 (mkF m 5 #[.val (.ref sa), .val (.ref b), .val (.int (0 : Int32))] [(.ref sa)]) G
  refine Gl.via (fun _ k => XS.aloadN X1.here hx rfl (hb hby d15_5) rfl rfl k) ?_
  show Gl p.tables e below T1 (mkF m 6 #[.val (.ref sa), .val (.ref b), .val (.int (0 : Int32))] [(.ref b), (.ref sa)]) G
  obtain ⟨T2, h2, X2, e2, W2, st2⟩ := putF X1 hx hZ hown (host := "") (Or.inl (hw _ (List.mem_of_getElem? (i := 32) rfl))) Via.refl e1 F1_sa_value F0_sa (Or.inr ⟨(hw _ (List.mem_of_getElem? (i := 33) rfl)), rfl, hnm⟩) (hw _ (List.mem_of_getElem? (i := 5) rfl)) (ty := (.array .byte)) (by decide) rfl rfl (g := (mkF m 6 #[.val (.ref sa), .val (.ref b), .val (.int (0 : Int32))] [(.ref b), (.ref sa)])) rfl rfl (hb hby d15_6)
  refine Gl.via st2 ?_
  have N2_ := Fr.snoc X2 N0 hp0
  have Z3 : n0 ≤ h2.size := Nat.le_trans Z0 (Keep.of_wr W2).1
  have Y4 : h0.size ≤ h2.size := Nat.le_trans (Nat.le_refl h0.size) (Keep.of_wr W2).1
  show Gl p.tables e below T2 (mkF m 9 #[.val (.ref sa), .val (.ref b), .val (.int (0 : Int32))] []) G
  refine Gl.via (fun _ k => XS.aloadN X2.here hx rfl (hb hby d15_9) rfl rfl k) ?_
  show Gl p.tables e below T2 (mkF m 10 #[.val (.ref sa), .val (.ref b), .val (.int (0 : Int32))] [(.ref sa)]) G
  refine Gl.via (fun _ k => XS.iloadN X2.here hx rfl (hb hby d15_10) rfl k) ?_
  show Gl p.tables e below T2 (mkF m 11 #[.val (.ref sa), .val (.ref b), .val (.int (0 : Int32))] [(.int (0 : Int32)), (.ref sa)]) G
  have G5 : Fld Z h2 sa "java/lang/String" "coder" "B" u2 := (F2_sa_coder.other W2 (Or.inr (slot_ne (Or.inr (hw _ (List.mem_of_getElem? (i := 31) rfl))) (Or.inr (hw _ (List.mem_of_getElem? (i := 33) rfl))) (by decide) (t := .byte) (t' := (.array .byte)) (by decide) (by decide))))
  have G6 : Exa Z h2 sa "java/lang/String" := (F0_sa.wr W2)
  obtain ⟨T7, h7, X7, e7, W7, st7⟩ := putFN X2 hx hZ hown (hw _ (List.mem_of_getElem? (i := 30) rfl)) Via.refl e2 G5 G6 (Or.inr ⟨(hw _ (List.mem_of_getElem? (i := 31) rfl)), rfl, hnm⟩) (hw _ (List.mem_of_getElem? (i := 5) rfl)) (ty := .byte) (v' := (.int (0 : Int32))) (by decide) rfl (by decide) (g := (mkF m 11 #[.val (.ref sa), .val (.ref b), .val (.int (0 : Int32))] [(.int (0 : Int32)), (.ref sa)])) rfl rfl (hb hby d15_11)
  refine Gl.via st7 ?_
  have N7_ := Fr.snoc X7 N2_ hp0
  have Z8 : n0 ≤ h7.size := Nat.le_trans Z3 (Keep.of_wr W7).1
  have Y9 : h0.size ≤ h7.size := Nat.le_trans Y4 (Keep.of_wr W7).1
  show Gl p.tables e below T7 (mkF m 14 #[.val (.ref sa), .val (.ref b), .val (.int (0 : Int32))] []) G
  obtain ⟨fs, hr, hrun, hended, hW, hsame⟩ := X7.leave (v := none) (fun _ => rfl)
  have G10 : Exa Z h7 sa "java/lang/String" := (G6.wr W7)
  have G11 : Fld Z h7 sa "java/lang/String" "value" "[B" (.ref b) := ((Fld.same W2 F1_sa_value).other W7 (Or.inr (slot_ne (Or.inr (hw _ (List.mem_of_getElem? (i := 33) rfl))) (Or.inr (hw _ (List.mem_of_getElem? (i := 31) rfl))) (by decide) (t := (.array .byte)) (t' := .byte) (by decide) (by decide))))
  have hq : ∀ L, Fr n0 L → Q_s_inibb Z sa b u1 u2 h0 n0 (none) T7.heap L := by
    intro L hN
    rw [e7]
    exact ⟨rfl, hN, (((Keep.refl h0 [sa]).wr W2 (Or.inl (List.mem_of_getElem? (i := 0) rfl))).wr W7 (Or.inl (List.mem_of_getElem? (i := 0) rfl))), G10, (Fld.same W7 G5), G11⟩
  rw [hG]
  exact Gl.fin (X7.returnOut hx Bd.returns (hb hby d15_14) hr) ⟨_, hrun, hended, _, _, rfl, hq _ N7_, ⟨_, rfl⟩, hW, hsame.mono (by decide) (by decide)⟩
theorem d12_0 : decode jdk_42_method_139_code 0 = .ok (.getstatic 38, 3) := by decide +kernel
theorem d12_3 : decode jdk_42_method_139_code 3 = .ok (.ifCond .eq 23, 3) := by decide +kernel
theorem d12_6 : decode jdk_42_method_139_code 6 = .ok (.iload_n 0, 1) := by decide +kernel
theorem d12_7 : decode jdk_42_method_139_code 7 = .ok (.invokestatic 1015, 3) := by decide +kernel
theorem pd_20 : parseMethodDescriptor "(C)Z" = some ⟨[.char], some .boolean⟩ := by decide +kernel
theorem d12_10 : decode jdk_42_method_139_code 10 = .ok (.ifCond .eq 16, 3) := by decide +kernel
theorem d12_13 : decode jdk_42_method_139_code 13 = .ok (.new 10, 3) := by decide +kernel
theorem d12_16 : decode jdk_42_method_139_code 16 = .ok (.dup, 1) := by decide +kernel
theorem d12_17 : decode jdk_42_method_139_code 17 = .ok (.iload_n 0, 1) := by decide +kernel
theorem d12_18 : decode jdk_42_method_139_code 18 = .ok (.invokestatic 1018, 3) := by decide +kernel
theorem pd_21 : parseMethodDescriptor "(C)[B" = some ⟨[.char], some (.array .byte)⟩ := by decide +kernel
theorem d12_21 : decode jdk_42_method_139_code 21 = .ok (.iconst 0, 1) := by decide +kernel
theorem d12_22 : decode jdk_42_method_139_code 22 = .ok (.invokespecial 209, 3) := by decide +kernel
theorem pd_22 : parseMethodDescriptor "([BB)V" = some ⟨[(.array .byte), .byte], none⟩ := by decide +kernel
theorem d12_25 : decode jdk_42_method_139_code 25 = .ok (.areturn, 1) := by decide +kernel
theorem ef_s_vo (m : MethodId) (x0 : Int32) : entryFrame m #[(.int x0)] 1 = mkF m 0 #[.val (.int x0)] [] := by first | (simp [entryFrame, mkF, argsToLocals, Value.category]; done) | rfl | (simp [entryFrame, mkF, argsToLocals, own_catI, own_catR, *]; done)
def Q_s_vo (Z : State) (vc : Int32) (cps : Int32) (h0 : Heap) (n0 : Nat) (v : Option Value) (h : Heap) (L : List Loc) : Prop := ∃ (sa : Addr), ∃ (sb : Addr), ∃ (sk : ClassId), v = some (.ref sa) ∧ Fr n0 L ∧ Keep h0 h [] ∧ Exa Z h sa "java/lang/String" ∧ Fld Z h sa "java/lang/String" "coder" "B" (.int (0 : Int32)) ∧ Fld Z h sa "java/lang/String" "value" "[B" (.ref sb) ∧ Arv Z h sb sk .byte (own_ln ([(vc.toInt8.toInt32)] : List Int32)) (([(vc.toInt8.toInt32)] : List Int32).map Value.int) (.int (0 : Int32)) ∧ (h0.size ≤ sa)
set_option maxRecDepth 65536 in
set_option maxHeartbeats 40000000 in
theorem s_vo (l : Launch) (Z : State) (a0 : Array Value) (hw : ∀ d ∈ tables_1, d.before a0 Z = true) (ws : List Jvm.Cond) (vc : Int32) (cps : Int32) (h0 : Heap) (n0 : Nat) (Z0 : n0 ≤ h0.size) (F0_java_lang_String : Sta Z Z.heap "java/lang/String" "COMPACT_STRINGS" "Z" (.int cps)) (F1_ : Old Z n0 h0) (hcps : ¬ (cps = (0 : Int32))) (hvc : ¬ ((255 : Int32) < vc)) :
    MetFree l (⟨"java/lang/String", "valueOf", "(C)Ljava/lang/String;"⟩ : MethodName) (head1 (Jvm.Cond.code (⟨"java/lang/String", "valueOf", "(C)Ljava/lang/String;"⟩ : MethodName) jdk_42_method_139_code 1 (some (.object "java/lang/String")) :: ws) ({ frames := 2, cells := 2, slots := 5, locals := 27 } : Room)) (fun a U => a = #[(.int vc)] ∧ Z.Warmed39 U.vm ∧ U.heap = h0) (fun _ _ _ _ _ => True) (fun _ U o U' => ∃ v L, o = .returned v ∧ Q_s_vo Z vc cps h0 n0 v U'.heap L ∧ FrameEnd U o U' L ({ frames := 2, cells := 2, slots := 5, locals := 27 } : Room).cells ({ frames := 2, cells := 2, slots := 5, locals := 27 } : Room).slots) := by
  refine MetFree.of_bodySF (plainFor_of_name pn_0) hisR ?_
  intro p e s m args below meth c s₁ Bd hml0 hP hK
  obtain ⟨rfl, hZ, hh⟩ := hP
  have hx := Bd.exec
  have hby := Bd.bytes
  have hml : c.maxLocals = 1 := hml0
  have hown : s.vm.findClass "java/lang/String" = some m.cls := findClass_of_methodNamed Bd.named
  have hnm := (name_of_methodNamed Bd.named Bd.method).1
  have X0 : Stand p l e ({ frames := 2, cells := 2, slots := 5, locals := 27 } : Room) s m #[(.int vc)] below meth c s₁ [] 0 0 := Stand.of_body Bd
  have e0 : s₁.heap = h0 := by rw [← hh, Bd.state]; rfl
  have N0 := Fr.nil n0
  obtain ⟨G, hG⟩ : ∃ G : State → Prop, G = (fun U' => ∃ o, U'.status = .running ∧ Ended U' below o ∧ ∃ v L, o = .returned v ∧ Q_s_vo Z vc cps h0 n0 v U'.heap L ∧ FrameEnd s o U' L ({ frames := 2, cells := 2, slots := 5, locals := 27 } : Room).cells ({ frames := 2, cells := 2, slots := 5, locals := 27 } : Room).slots) := ⟨_, rfl⟩
  suffices key : Gl p.tables e below s₁ (mkF m 0 #[.val (.int vc)] []) G by
    obtain ⟨s₂, k1, k2⟩ := key
    rw [hG] at k2
    obtain ⟨o, k3, k4, k5⟩ := k2
    exact ⟨s₂, o, castTop (ef_s_vo m vc) k1, k3, k4, k5⟩
  show Gl p.tables e below s₁ (mkF m 0 #[.val (.int vc)] []) G
  have G1 : Sta Z h0 "java/lang/String" "COMPACT_STRINGS" "Z" (.int cps) := F0_java_lang_String.ext F1_.2
  obtain ⟨T2, X2, e2, st2⟩ := getS2 X0 hx hZ hown (host := "") (Or.inl (hw _ (List.mem_of_getElem? (i := 18) rfl))) Via.refl e0 G1 (g := (mkF m 0 #[.val (.int vc)] [])) rfl (hb hby d12_0)
  refine Gl.via st2 ?_
  show Gl p.tables e below T2 (mkF m 3 #[.val (.int vc)] [(.int cps)]) G
  refine Gl.via (fun _ k => XS.ifNo X2.here hx rfl (hb hby d12_3) rfl ((if0 _ _).trans (feq hcps).1) k) ?_
  show Gl p.tables e below T2 (mkF m 6 #[.val (.int vc)] []) G
  refine Gl.via (fun _ k => XS.iloadN X2.here hx rfl (hb hby d12_6) rfl k) ?_
  show Gl p.tables e below T2 (mkF m 7 #[.val (.int vc)] [(.int vc)]) G
  obtain ⟨_, _, ⟨T3, L3, k3, n3⟩, -, X3, ⟨Lc3, hQ3, l3, y3, z3⟩, st3⟩ := Jvm.LawKit.callS X2 hx (y := (⟨"java/lang/StringLatin1", "canEncode", "(C)Z"⟩ : MethodName)) hown (mvT hZ (hw _ (List.mem_of_getElem? (i := 66) rfl))) (mvT hZ (hw _ (List.mem_of_getElem? (i := 67) rfl))) (mvT hZ (hw _ (List.mem_of_getElem? (i := 68) rfl))) (mvT hZ (hw _ (List.mem_of_getElem? (i := 69) rfl))) (by decide) (backOf (W := 0) (canenc l Z a0 hw [] vc h0 n0 Z0 hvc) hZ (hw _ (List.mem_of_getElem? (i := 69) rfl)) (hw _ (List.mem_of_getElem? (i := 68) rfl)) (by decide) (by decide)) (g := (mkF m 7 #[.val (.int vc)] [(.int vc)])) rfl (by rw [hml]; rfl) (argsL := [(.int vc)]) (rest := []) (lenOf pd_20 rfl) rfl (by show 2 * 0 + _ ≤ _; exact Nat.le_of_eq rfl) (hb hby d12_7) (fun _ _ => ⟨rfl, e2, (by decide : 0 + 0 ≤ _), (by decide : 0 + 0 ≤ _)⟩)
  dsimp only [Pt.U, Pt.locs, Pt.cells, Pt.slots] at X3 l3 y3 z3 st3 hQ3
  subst l3 y3 z3
  obtain ⟨rfl, N3q, eh3⟩ := hQ3
  have N3_ := Fr.app N0 N3q
  refine Gl.via (fun _ k => st3 _ k) ?_
  show Gl p.tables e below T3 (mkF m 10 #[.val (.int vc)] [(.int (1 : Int32))]) G
  refine Gl.via (fun _ k => XS.ifNo X3.here hx rfl (hb hby d12_10) rfl ((if0 _ _).trans (feq (by decide)).1) k) ?_
  show Gl p.tables e below T3 (mkF m 13 #[.val (.int vc)] []) G
  obtain ⟨T4, h4, X4, e4, E4, A4, D4, -, st4⟩ := newO X3 hx hZ hown (hw _ (List.mem_of_getElem? (i := 70) rfl)) (hw _ (List.mem_of_getElem? (i := 5) rfl)) (hw _ (List.mem_of_getElem? (i := 6) rfl)) eh3 (g := (mkF m 13 #[.val (.int vc)] [])) rfl (hb hby d12_13) (by decide) (by decide)
  obtain ⟨b4, g4⟩ : ∃ z, z = h0.size := ⟨_, rfl⟩
  rw [← g4] at A4 D4 st4
  have ge5 : n0 ≤ b4 := Nat.le_trans Z0 (Nat.le_of_eq g4.symm)
  have gz6 : h0.size ≤ b4 := Nat.le_trans (Nat.le_refl h0.size) (Nat.le_of_eq g4.symm)
  refine Gl.via st4 ?_
  have Z7 : n0 ≤ h4.size := Nat.le_trans Z0 E4.1
  have Y8 : h0.size ≤ h4.size := Nat.le_trans (Nat.le_refl h0.size) E4.1
  have F9 : Fld Z h4 b4 "java/lang/String" "coder" "B" (.int (0 : Int32)) := D4 (Or.inr (hw _ (List.mem_of_getElem? (i := 31) rfl))) (ty := .byte) (by decide)
  have F10 : Fld Z h4 b4 "java/lang/String" "value" "[B" .null := D4 (Or.inr (hw _ (List.mem_of_getElem? (i := 33) rfl))) (ty := (.array .byte)) (by decide)
  show Gl p.tables e below T4 (mkF m 16 #[.val (.int vc)] [(.ref b4)]) G
  refine Gl.via (fun _ k => XS.dup X4.here hx rfl (hb hby d12_16) rfl rfl k) ?_
  show Gl p.tables e below T4 (mkF m 17 #[.val (.int vc)] [(.ref b4), (.ref b4)]) G
  refine Gl.via (fun _ k => XS.iloadN X4.here hx rfl (hb hby d12_17) rfl k) ?_
  show Gl p.tables e below T4 (mkF m 18 #[.val (.int vc)] [(.int vc), (.ref b4), (.ref b4)]) G
  obtain ⟨_, _, ⟨T11, L11, k11, n11⟩, -, X11, ⟨Lc11, hQ11, l11, y11, z11⟩, st11⟩ := Jvm.LawKit.callS X4 hx (y := (⟨"java/lang/StringLatin1", "toBytes", "(C)[B"⟩ : MethodName)) hown (mvT hZ (hw _ (List.mem_of_getElem? (i := 71) rfl))) (mvT hZ (hw _ (List.mem_of_getElem? (i := 72) rfl))) (mvT hZ (hw _ (List.mem_of_getElem? (i := 68) rfl))) (mvT hZ (hw _ (List.mem_of_getElem? (i := 73) rfl))) (by decide) (backOf (W := 2) (l1_tb l Z a0 hw [] vc h4 n0 Z7 ) hZ (hw _ (List.mem_of_getElem? (i := 73) rfl)) (hw _ (List.mem_of_getElem? (i := 68) rfl)) (by decide) (by decide)) (g := (mkF m 18 #[.val (.int vc)] [(.int vc), (.ref b4), (.ref b4)])) rfl (by rw [hml]; rfl) (argsL := [(.int vc)]) (rest := [(.ref b4), (.ref b4)]) (lenOf pd_21 rfl) rfl (by show 2 * 0 + _ ≤ _; exact Nat.le_of_eq rfl) (hb hby d12_18) (fun _ _ => ⟨rfl, e4, (by decide : 1 + 1 ≤ _), (by decide : 4 + 1 ≤ _)⟩)
  dsimp only [Pt.U, Pt.locs, Pt.cells, Pt.slots] at X11 l11 y11 z11 st11 hQ11
  subst l11 y11 z11
  obtain ⟨b_11, k_11, rfl, N11q, K11, P12, R13⟩ := hQ11
  have N11_ := Fr.app N3_ N11q
  refine Gl.via (fun _ k => st11 _ k) ?_
  have ne14 : b4 ≠ b_11 := Nat.ne_of_lt (Nat.lt_of_lt_of_le A4.lt R13)
  have ge15 : n0 ≤ b_11 := Nat.le_trans Z7 R13
  have gz16 : h0.size ≤ b_11 := Nat.le_trans Y8 R13
  have Z17 : n0 ≤ T11.heap.size := Nat.le_trans Z7 K11.1
  have Y18 : h0.size ≤ T11.heap.size := Nat.le_trans Y8 K11.1
  show Gl p.tables e below T11 (mkF m 21 #[.val (.int vc)] [(.ref b_11), (.ref b4), (.ref b4)]) G
  refine Gl.via (fun _ k => XS.iconst X11.here hx rfl (hb hby d12_21) k) ?_
  show Gl p.tables e below T11 (mkF m 22 #[.val (.int vc)] [(.int (0 : Int32)), (.ref b_11), (.ref b4), (.ref b4)]) G
  have G20 : Exa Z T11.heap b4 "java/lang/String" := (A4.keep K11)
  have G21 : Fld Z T11.heap b4 "java/lang/String" "value" "[B" .null := (F10.keep K11 nin0)
  have G22 : Fld Z T11.heap b4 "java/lang/String" "coder" "B" (.int (0 : Int32)) := (F9.keep K11 nin0)
  obtain ⟨_, _, ⟨T19, L19, k19, n19⟩, -, X19, ⟨Lc19, hQ19, l19, y19, z19⟩, st19⟩ := X11.specialBack hx (y := (⟨"java/lang/String", "<init>", "([BB)V"⟩ : MethodName)) rfl hown (mvT hZ (hw _ (List.mem_of_getElem? (i := 74) rfl))) (mvT hZ (hw _ (List.mem_of_getElem? (i := 75) rfl))) (mvT hZ (hw _ (List.mem_of_getElem? (i := 76) rfl))) (by decide) (backOf (W := 1) (s_inibb l Z a0 hw [] b4 b_11 .null (.int (0 : Int32)) T11.heap n0 Z17 G20 G21 G22 ge5) hZ (hw _ (List.mem_of_getElem? (i := 76) rfl)) (hw _ (List.mem_of_getElem? (i := 6) rfl)) (by decide) (by decide)) (g := (mkF m 22 #[.val (.int vc)] [(.int (0 : Int32)), (.ref b_11), (.ref b4), (.ref b4)])) rfl (by rw [hml]; rfl) (Steps.refl _) (a := b4) (argsL := [(.ref b_11), (.int (0 : Int32))]) (rest := [(.ref b4)]) (lenOf pd_22 rfl) rfl (by show 2 * 0 + _ ≤ _; exact Nat.le_of_eq rfl) (hb hby d12_22) (fun _ _ => ⟨rfl, rfl, (by decide : 2 + 0 ≤ _), (by decide : 5 + 0 ≤ _)⟩)
  dsimp only [Pt.U, Pt.locs, Pt.cells, Pt.slots] at X19 l19 y19 z19 st19 hQ19
  subst l19 y19 z19
  obtain ⟨rfl, N19q, K19, P23, P24, P25⟩ := hQ19
  have N19_ := Fr.app N11_ N19q
  refine Gl.via (fun _ k => st19.trans k) ?_
  have Z26 : n0 ≤ T19.heap.size := Nat.le_trans Z17 K19.1
  have Y27 : h0.size ≤ T19.heap.size := Nat.le_trans Y18 K19.1
  show Gl p.tables e below T19 (mkF m 25 #[.val (.int vc)] [(.ref b4)]) G
  obtain ⟨fs, hr, hrun, hended, hW, hsame⟩ := X19.leave (v := some (.ref b4)) (fun h => by rw [Bd.returns] at h; cases h)
  have G28 : Arv Z T19.heap b_11 k_11 .byte (1 : Int32) [(.int (vc.toInt8.toInt32))] (.int (0 : Int32)) := (P12.keep K19 (ninS (Ne.symm ne14) nin0))
  have hq : ∀ L, Fr n0 L → Q_s_vo Z vc cps h0 n0 (some (.ref b4)) T19.heap L := by
    intro L hN
    exact ⟨b4, b_11, k_11, rfl, hN, ((((Keep.refl h0 []).ext E4).trans K11 all0).trans K19 (allS (Or.inr gz6) all0)), P23, P24, P25, G28, gz6⟩
  rw [hG]
  exact Gl.fin (retOut X19 hx Bd.returns rfl (Or.inr (Or.inr (Or.inr (Or.inr ⟨rfl, rfl, rfl⟩)))) (hb hby d12_25) hr) ⟨_, hrun, hended, _, _, rfl, hq _ N19_, ⟨_, rfl⟩, hW, hsame.mono (by decide) (by decide)⟩
theorem pn_7 : plainName "java/lang/Record" = true := by first | (simp [plainName, overriddenIn]; done) | decide +kernel
theorem d9_0 : decode jdk_30_method_1_code 0 = .ok (.aload_n 0, 1) := by decide +kernel
theorem d9_1 : decode jdk_30_method_1_code 1 = .ok (.invokespecial 1, 3) := by decide +kernel
theorem d9_4 : decode jdk_30_method_1_code 4 = .ok (.return_, 1) := by decide +kernel
theorem ef_rec_init (m : MethodId) (x0 : Addr) : entryFrame m #[(.ref x0)] 1 = mkF m 0 #[.val (.ref x0)] [] := by first | (simp [entryFrame, mkF, argsToLocals, Value.category]; done) | rfl | (simp [entryFrame, mkF, argsToLocals, own_catI, own_catR, *]; done)
def Q_rec_init (Z : State) (ra : Addr) (h0 : Heap) (n0 : Nat) (v : Option Value) (h : Heap) (L : List Loc) : Prop := v = none ∧ Fr n0 L ∧ h = h0
set_option maxRecDepth 65536 in
set_option maxHeartbeats 40000000 in
theorem rec_init (l : Launch) (Z : State) (a0 : Array Value) (hw : ∀ d ∈ tables_1, d.before a0 Z = true) (ws : List Jvm.Cond) (ra : Addr) (h0 : Heap) (n0 : Nat) (Z0 : n0 ≤ h0.size) :
    MetFree l (⟨"java/lang/Record", "<init>", "()V"⟩ : MethodName) (head1 (Jvm.Cond.code (⟨"java/lang/Record", "<init>", "()V"⟩ : MethodName) jdk_30_method_1_code 1 none :: ws) ({ frames := 1, cells := 0, slots := 0, locals := 12 } : Room)) (fun a U => a = #[(.ref ra)] ∧ Z.Warmed39 U.vm ∧ U.heap = h0) (fun _ _ _ _ _ => True) (fun _ U o U' => ∃ v L, o = .returned v ∧ Q_rec_init Z ra h0 n0 v U'.heap L ∧ FrameEnd U o U' L ({ frames := 1, cells := 0, slots := 0, locals := 12 } : Room).cells ({ frames := 1, cells := 0, slots := 0, locals := 12 } : Room).slots) := by
  refine MetFree.of_bodySF (plainFor_of_name pn_7) hisR ?_
  intro p e s m args below meth c s₁ Bd hml0 hP hK
  obtain ⟨rfl, hZ, hh⟩ := hP
  have hx := Bd.exec
  have hby := Bd.bytes
  have hml : c.maxLocals = 1 := hml0
  have hown : s.vm.findClass "java/lang/Record" = some m.cls := findClass_of_methodNamed Bd.named
  have hnm := (name_of_methodNamed Bd.named Bd.method).1
  have X0 : Stand p l e ({ frames := 1, cells := 0, slots := 0, locals := 12 } : Room) s m #[(.ref ra)] below meth c s₁ [] 0 0 := Stand.of_body Bd
  have e0 : s₁.heap = h0 := by rw [← hh, Bd.state]; rfl
  have N0 := Fr.nil n0
  obtain ⟨G, hG⟩ : ∃ G : State → Prop, G = (fun U' => ∃ o, U'.status = .running ∧ Ended U' below o ∧ ∃ v L, o = .returned v ∧ Q_rec_init Z ra h0 n0 v U'.heap L ∧ FrameEnd s o U' L ({ frames := 1, cells := 0, slots := 0, locals := 12 } : Room).cells ({ frames := 1, cells := 0, slots := 0, locals := 12 } : Room).slots) := ⟨_, rfl⟩
  suffices key : Gl p.tables e below s₁ (mkF m 0 #[.val (.ref ra)] []) G by
    obtain ⟨s₂, k1, k2⟩ := key
    rw [hG] at k2
    obtain ⟨o, k3, k4, k5⟩ := k2
    exact ⟨s₂, o, castTop (ef_rec_init m ra) k1, k3, k4, k5⟩
  show Gl p.tables e below s₁ (mkF m 0 #[.val (.ref ra)] []) G
  refine Gl.via (fun _ k => XS.aloadN X0.here hx rfl (hb hby d9_0) rfl rfl k) ?_
  show Gl p.tables e below s₁ (mkF m 1 #[.val (.ref ra)] [(.ref ra)]) G
  obtain ⟨T1, X1, e1, st1⟩ := initO X0 hx hZ hown (hw _ (List.mem_of_getElem? (i := 45) rfl)) (hw _ (List.mem_of_getElem? (i := 16) rfl)) (hw _ (List.mem_of_getElem? (i := 17) rfl)) e0 (g := (mkF m 1 #[.val (.ref ra)] [(.ref ra)])) rfl (by rw [hml]; rfl) rfl (hb hby d9_1) (by decide) (W := 0) (by show 2 * 0 + _ ≤ _; exact Nat.le_of_eq rfl) (by decide)
  refine Gl.via st1 ?_
  show Gl p.tables e below T1 (mkF m 4 #[.val (.ref ra)] []) G
  obtain ⟨fs, hr, hrun, hended, hW, hsame⟩ := X1.leave (v := none) (fun _ => rfl)
  have hq : ∀ L, Fr n0 L → Q_rec_init Z ra h0 n0 (none) T1.heap L := by
    intro L hN
    rw [e1]
    exact ⟨rfl, hN, rfl⟩
  rw [hG]
  exact Gl.fin (X1.returnOut hx Bd.returns (hb hby d9_4) hr) ⟨_, hrun, hended, _, _, rfl, hq _ N0, ⟨_, rfl⟩, hW, hsame.mono (by decide) (by decide)⟩
theorem own_mb (x : Int32) : 0 ≤ (x &&& (255 : Int32)).toInt ∧ ¬ ((255 : Int32) < x &&& (255 : Int32)) := by
  have e : (x &&& (255 : Int32)).toBitVec.toNat = x.toBitVec.toNat % 256 := by
    show (x.toBitVec &&& 255#32).toNat = _
    rw [BitVec.toNat_and]; exact Nat.and_two_pow_sub_one_eq_mod _ 8
  have r : x.toBitVec.toNat % 256 < 256 := Nat.mod_lt _ (by decide)
  have t : (x &&& (255 : Int32)).toInt = (x.toBitVec.toNat % 256 : Nat) := by
    show (x &&& (255 : Int32)).toBitVec.toInt = _
    rw [BitVec.toInt_eq_toNat_of_lt (by omega), e]
  refine ⟨by omega, ?_⟩
  rw [Int32.lt_iff_toInt_lt]
  show ¬ (255 : Int) < _
  omega
theorem own_and255 (c : Int32) (h0 : 0 ≤ c.toInt) (h : ¬ ((255 : Int32) < c)) : c &&& (255 : Int32) = c := by
  rw [Int32.lt_iff_toInt_lt] at h
  have h2 : c.toInt ≤ 255 := by
    have q : ¬ (255 : Int) < c.toInt := h
    omega
  have key : ∀ n : Fin 256, (Int32.ofNat n.val &&& (255 : Int32)) = Int32.ofNat n.val := by decide +kernel
  have e : c = Int32.ofNat c.toInt.toNat := Int32.toInt_inj.mp (by rw [Int32.toInt_ofNat_of_lt (by omega)]; omega)
  have k := key ⟨c.toInt.toNat, by omega⟩
  rw [e]
  exact k
theorem own_chr {c : Int32} (h0 : 0 ≤ c.toInt) (h : ¬ ((255 : Int32) < c)) : nar .char c = c := by
  have e := own_and255 c h0 h
  show c.toUInt32.toUInt16.toUInt32.toInt32 = c
  rw [← e]
  exact i2c_mask _
def own_s2 (n : Int32) : Prop := n = 0 ∨ n = 1 ∨ n = 2
theorem own_s2s {n : Int32} (h : own_s2 n) : own_sm n := by
  rcases h with h | h | h
  · exact Or.inl h
  · exact Or.inr (Or.inl h)
  · exact Or.inr (Or.inr (Or.inl h))
theorem own_r3 (x : Int32) : own_s2 ((x &&& 3) - (x &&& 3) / 3 * 3) := by
  rcases own_and3 x with h | h | h | h <;> rw [h]
  · exact Or.inl (by decide)
  · exact Or.inr (Or.inl (by decide))
  · exact Or.inr (Or.inr (by decide))
  · exact Or.inl (by decide)
theorem own_mk2' {n c0 c1 c2 : Int32} (h : own_s2 n) (h0 : ¬ n = 0) (h1 : ¬ n = 1) : own_mk n c0 c1 c2 = [c0.toInt8.toInt32, c1.toInt8.toInt32] := own_mk2 h0 h1 (by rcases h with h | h | h; exact absurd h h0; exact absurd h h1; exact h)
theorem pn_8 : plainName "com/example/profile_to_target/profiletotarget/SfrIdToStringPinLaw" = true := by first | (simp [plainName, overriddenIn]; done) | decide +kernel
theorem d1_0 : decode method_3_code 0 = .ok (.iload_n 0, 1) := by decide +kernel
theorem d1_1 : decode method_3_code 1 = .ok (.ifCond .ne 14, 3) := by decide +kernel
theorem d1_4 : decode method_3_code 4 = .ok (.new 23, 3) := by decide +kernel
theorem d1_7 : decode method_3_code 7 = .ok (.dup, 1) := by decide +kernel
theorem d1_8 : decode method_3_code 8 = .ok (.iconst 0, 1) := by decide +kernel
theorem d1_9 : decode method_3_code 9 = .ok (.newarray .char, 2) := by decide +kernel
theorem d1_11 : decode method_3_code 11 = .ok (.invokespecial 36, 3) := by decide +kernel
theorem pd_23 : parseMethodDescriptor "([C)V" = some ⟨[(.array .char)], none⟩ := by decide +kernel
theorem d1_14 : decode method_3_code 14 = .ok (.areturn, 1) := by decide +kernel
theorem d1_15 : decode method_3_code 15 = .ok (.iload_n 0, 1) := by decide +kernel
theorem d1_16 : decode method_3_code 16 = .ok (.iconst 1, 1) := by decide +kernel
theorem d1_17 : decode method_3_code 17 = .ok (.if_icmp .ne 8, 3) := by decide +kernel
theorem d1_20 : decode method_3_code 20 = .ok (.iload_n 1, 1) := by decide +kernel
theorem d1_21 : decode method_3_code 21 = .ok (.invokestatic 39, 3) := by decide +kernel
theorem pd_24 : parseMethodDescriptor "(C)Ljava/lang/String;" = some ⟨[.char], some (.object "java/lang/String")⟩ := by decide +kernel
theorem d1_24 : decode method_3_code 24 = .ok (.areturn, 1) := by decide +kernel
theorem d1_25 : decode method_3_code 25 = .ok (.new 23, 3) := by decide +kernel
theorem d1_28 : decode method_3_code 28 = .ok (.dup, 1) := by decide +kernel
theorem d1_29 : decode method_3_code 29 = .ok (.iconst 2, 1) := by decide +kernel
theorem d1_30 : decode method_3_code 30 = .ok (.newarray .char, 2) := by decide +kernel
theorem d1_32 : decode method_3_code 32 = .ok (.dup, 1) := by decide +kernel
theorem d1_33 : decode method_3_code 33 = .ok (.iconst 0, 1) := by decide +kernel
theorem d1_34 : decode method_3_code 34 = .ok (.iload_n 1, 1) := by decide +kernel
theorem d1_35 : decode method_3_code 35 = .ok (.castore, 1) := by decide +kernel
theorem d1_36 : decode method_3_code 36 = .ok (.dup, 1) := by decide +kernel
theorem d1_37 : decode method_3_code 37 = .ok (.iconst 1, 1) := by decide +kernel
theorem d1_38 : decode method_3_code 38 = .ok (.iload_n 2, 1) := by decide +kernel
theorem d1_39 : decode method_3_code 39 = .ok (.castore, 1) := by decide +kernel
theorem d1_40 : decode method_3_code 40 = .ok (.invokespecial 36, 3) := by decide +kernel
theorem d1_43 : decode method_3_code 43 = .ok (.areturn, 1) := by decide +kernel
theorem ef_mkstr (m : MethodId) (x0 : Int32) (x1 : Int32) (x2 : Int32) : entryFrame m #[(.int x0), (.int x1), (.int x2)] 3 = mkF m 0 #[.val (.int x0), .val (.int x1), .val (.int x2)] [] := by first | (simp [entryFrame, mkF, argsToLocals, Value.category]; done) | rfl | (simp [entryFrame, mkF, argsToLocals, own_catI, own_catR, *]; done)
def Q_mkstr (Z : State) (n : Int32) (c0 : Int32) (c1 : Int32) (cps : Int32) (h0 : Heap) (n0 : Nat) (v : Option Value) (h : Heap) (L : List Loc) : Prop := ∃ (sa : Addr), ∃ (sb : Addr), ∃ (sk : ClassId), v = some (.ref sa) ∧ Fr n0 L ∧ Keep h0 h [] ∧ Exa Z h sa "java/lang/String" ∧ Fld Z h sa "java/lang/String" "coder" "B" (.int (0 : Int32)) ∧ Fld Z h sa "java/lang/String" "value" "[B" (.ref sb) ∧ Arv Z h sb sk .byte (own_ln (own_mk n c0 c1 (0 : Int32))) ((own_mk n c0 c1 (0 : Int32)).map Value.int) (.int (0 : Int32)) ∧ (h0.size ≤ sa)
set_option maxRecDepth 65536 in
set_option maxHeartbeats 40000000 in
theorem mkstr (l : Launch) (Z : State) (a0 : Array Value) (hw : ∀ d ∈ tables_1, d.before a0 Z = true) (ws : List Jvm.Cond) (n : Int32) (c0 : Int32) (c1 : Int32) (cps : Int32) (h0 : Heap) (n0 : Nat) (Z0 : n0 ≤ h0.size) (F0_java_lang_String : Sta Z Z.heap "java/lang/String" "COMPACT_STRINGS" "Z" (.int cps)) (F1_ : Old Z n0 h0) (hcps : ¬ (cps = (0 : Int32))) (hc0 : ¬ ((255 : Int32) < c0)) (hc1 : ¬ ((255 : Int32) < c1)) (hz0 : 0 ≤ c0.toInt) (hz1 : 0 ≤ c1.toInt) (hn : own_s2 n) :
    MetFree l (⟨"com/example/profile_to_target/profiletotarget/SfrIdToStringPinLaw", "make", "(ICC)Ljava/lang/String;"⟩ : MethodName) (head1 (Jvm.Cond.code (⟨"com/example/profile_to_target/profiletotarget/SfrIdToStringPinLaw", "make", "(ICC)Ljava/lang/String;"⟩ : MethodName) method_3_code 3 (some (.object "java/lang/String")) :: ws) ({ frames := 4, cells := 6, slots := 12, locals := 66 } : Room)) (fun a U => a = #[(.int n), (.int c0), (.int c1)] ∧ Z.Warmed39 U.vm ∧ U.heap = h0 ∧ CHv Z own_EL U.vm h0 ∧ ∀ x ∈ ([] : List Addr), Safe Z own_EL U.vm h0 x) (fun _ _ _ _ _ => True) (fun _ U o U' => ∃ v L, o = .returned v ∧ Q_mkstr Z n c0 c1 cps h0 n0 v U'.heap L ∧ CHr Z own_EL U.vm U.heap U'.vm U'.heap ∧ ReturnedEndW U o U' L ({ frames := 4, cells := 6, slots := 12, locals := 66 } : Room).cells ({ frames := 4, cells := 6, slots := 12, locals := 66 } : Room).slots) := by
  refine MetFree.of_bodySF (plainFor_of_name pn_8) hisR ?_
  intro p e s m args below meth c s₁ Bd hml0 hP hK
  obtain ⟨rfl, hZ, hh, hCH, hSF⟩ := hP
  have hx := Bd.exec
  have hby := Bd.bytes
  have hml : c.maxLocals = 3 := hml0
  have hown : s.vm.findClass "com/example/profile_to_target/profiletotarget/SfrIdToStringPinLaw" = some m.cls := findClass_of_methodNamed Bd.named
  have hnm := (name_of_methodNamed Bd.named Bd.method).1
  have X0 : Stand p l e ({ frames := 4, cells := 6, slots := 12, locals := 66 } : Room) (s.setVm s.vm) m #[(.int n), (.int c0), (.int c1)] below meth c s₁ [] 0 0 := Stand.of_body Bd
  have e0 : s₁.heap = h0 := by rw [← hh, Bd.state]; rfl
  have N0 := Fr.nil n0
  have hS0 : s.Since s.vm 0 := (State.WarmedH.refl s).since 0
  have hk0 : 0 ≤ h0.size := Nat.zero_le _
  have hEL := own_ew hw
  have CR0 : CHr Z own_EL s.vm h0 s.vm h0 := CHr.refl hCH
  obtain ⟨G, hG⟩ : ∃ G : State → Prop, G = (fun U' => ∃ o, U'.status = .running ∧ Ended U' below o ∧ ∃ v L, o = .returned v ∧ Q_mkstr Z n c0 c1 cps h0 n0 v U'.heap L ∧ CHr Z own_EL s.vm s.heap U'.vm U'.heap ∧ ReturnedEndW s o U' L ({ frames := 4, cells := 6, slots := 12, locals := 66 } : Room).cells ({ frames := 4, cells := 6, slots := 12, locals := 66 } : Room).slots) := ⟨_, rfl⟩
  suffices key : Gl p.tables e below s₁ (mkF m 0 #[.val (.int n), .val (.int c0), .val (.int c1)] []) G by
    obtain ⟨s₂, k1, k2⟩ := key
    rw [hG] at k2
    obtain ⟨o, k3, k4, k5⟩ := k2
    exact ⟨s₂, o, castTop (ef_mkstr m n c0 c1) k1, k3, k4, k5⟩
  show Gl p.tables e below s₁ (mkF m 0 #[.val (.int n), .val (.int c0), .val (.int c1)] []) G
  refine Gl.via (fun _ k => XS.iloadN X0.here hx rfl (hb hby d1_0) rfl k) ?_
  show Gl p.tables e below s₁ (mkF m 1 #[.val (.int n), .val (.int c0), .val (.int c1)] [(.int n)]) G
  by_cases hn0 : n = (0 : Int32)
  · refine Gl.via (fun _ k => XS.ifNo X0.here hx rfl (hb hby d1_1) rfl ((if0 _ _).trans (teq hn0).2) k) ?_
    show Gl p.tables e below s₁ (mkF m 4 #[.val (.int n), .val (.int c0), .val (.int c1)] []) G
    obtain ⟨T1, h1, X1, e1, E1, A1, D1, -, st1⟩ := newO X0 hx hZ hown (hw _ (List.mem_of_getElem? (i := 4) rfl)) (hw _ (List.mem_of_getElem? (i := 5) rfl)) (hw _ (List.mem_of_getElem? (i := 6) rfl)) e0 (g := (mkF m 4 #[.val (.int n), .val (.int c0), .val (.int c1)] [])) rfl (hb hby d1_4) (by decide) (by decide)
    obtain ⟨b1, g1⟩ : ∃ z, z = h0.size := ⟨_, rfl⟩
    rw [← g1] at A1 D1 st1
    have ge2 : n0 ≤ b1 := Nat.le_trans Z0 (Nat.le_of_eq g1.symm)
    have gz3 : h0.size ≤ b1 := Nat.le_trans (Nat.le_refl h0.size) (Nat.le_of_eq g1.symm)
    have CR4 : CHr Z own_EL s.vm h0 s.vm h1 := CHr.trans CR0 (CHr.ext E1 CR0.1)
    have SF5 : Safe Z own_EL s.vm h1 b1 := Safe.ext E1 CR0.1 (Safe.new (Nat.le_of_eq g1.symm))
    refine Gl.via st1 ?_
    have Z6 : n0 ≤ h1.size := Nat.le_trans Z0 E1.1
    have Y7 : h0.size ≤ h1.size := Nat.le_trans (Nat.le_refl h0.size) E1.1
    have hl8 := Nat.le_trans hk0 E1.1
    have F9 : Fld Z h1 b1 "java/lang/String" "coder" "B" (.int (0 : Int32)) := D1 (Or.inr (hw _ (List.mem_of_getElem? (i := 31) rfl))) (ty := .byte) (by decide)
    have F10 : Fld Z h1 b1 "java/lang/String" "value" "[B" .null := D1 (Or.inr (hw _ (List.mem_of_getElem? (i := 33) rfl))) (ty := (.array .byte)) (by decide)
    show Gl p.tables e below T1 (mkF m 7 #[.val (.int n), .val (.int c0), .val (.int c1)] [(.ref b1)]) G
    refine Gl.via (fun _ k => XS.dup X1.here hx rfl (hb hby d1_7) rfl rfl k) ?_
    show Gl p.tables e below T1 (mkF m 8 #[.val (.int n), .val (.int c0), .val (.int c1)] [(.ref b1), (.ref b1)]) G
    refine Gl.via (fun _ k => XS.iconst X1.here hx rfl (hb hby d1_8) k) ?_
    show Gl p.tables e below T1 (mkF m 9 #[.val (.int n), .val (.int c0), .val (.int c1)] [(.int (0 : Int32)), (.ref b1), (.ref b1)]) G
    obtain ⟨T11, h11, k11, X11, e11, E11, A11, st11⟩ := newP X1 hx hZ (hw _ (List.mem_of_getElem? (i := 7) rfl)) e1 (g := (mkF m 9 #[.val (.int n), .val (.int c0), .val (.int c1)] [(.int (0 : Int32)), (.ref b1), (.ref b1)])) rfl (hb hby d1_9) rfl (by decide) (cap := 0) (by decide) (by decide) (by decide) (by decide)
    obtain ⟨b11, g11⟩ : ∃ z, z = h1.size := ⟨_, rfl⟩
    rw [← g11] at A11 st11
    have ne12 : b1 ≠ b11 := Nat.ne_of_lt (Nat.lt_of_lt_of_le A1.lt (Nat.le_of_eq g11.symm))
    have ge13 : n0 ≤ b11 := Nat.le_trans Z6 (Nat.le_of_eq g11.symm)
    have gz14 : h0.size ≤ b11 := Nat.le_trans Y7 (Nat.le_of_eq g11.symm)
    have CR15 : CHr Z own_EL s.vm h0 s.vm h11 := CHr.trans CR4 (CHr.ext E11 CR4.1)
    have SF16 : Safe Z own_EL s.vm h11 b1 := Safe.ext E11 CR4.1 SF5
    have SF17 : Safe Z own_EL s.vm h11 b11 := Safe.ext E11 CR4.1 (Safe.new (Nat.le_of_eq g11.symm))
    refine Gl.via st11 ?_
    have Z18 : n0 ≤ h11.size := Nat.le_trans Z6 E11.1
    have Y19 : h0.size ≤ h11.size := Nat.le_trans Y7 E11.1
    have hl20 := Nat.le_trans hl8 E11.1
    have V21 : Arv Z h11 b11 k11 .char (0 : Int32) [] (.int (0 : Int32)) := (Arv.new A11 (by decide)).pad (pad_rep [] (.int (0 : Int32)) 0)
    show Gl p.tables e below T11 (mkF m 11 #[.val (.int n), .val (.int c0), .val (.int c1)] [(.ref b11), (.ref b1), (.ref b1)]) G
    have G23 : Exa Z h11 b1 "java/lang/String" := (A1.ext E11)
    have G24 : Fld Z h11 b1 "java/lang/String" "value" "[B" .null := (F10.ext E11)
    have G25 : Fld Z h11 b1 "java/lang/String" "coder" "B" (.int (0 : Int32)) := (F9.ext E11)
    have G26 : Old Z n0 h11 := ((F1_.ext E1).ext E11)
    obtain ⟨_, _, ⟨T22, L22, k22, n22⟩, -, Xb22, hSb22, hgb22, ⟨Lc22, hQ22, l22, y22, z22, hC22⟩, st22⟩ := X11.specialBackS hx (y := (⟨"java/lang/String", "<init>", "([C)V"⟩ : MethodName)) rfl hown (mvT hZ (hw _ (List.mem_of_getElem? (i := 8) rfl))) (mvT hZ (hw _ (List.mem_of_getElem? (i := 9) rfl))) (mvT hZ (hw _ (List.mem_of_getElem? (i := 10) rfl))) (by decide) (own_back (W := 1) (si1_0 l Z a0 hw [] b1 .null (.int (0 : Int32)) b11 k11 cps h11 n0 Z18 G23 G24 G25 V21 F0_java_lang_String G26 hcps ge2 ne12) hZ (hw _ (List.mem_of_getElem? (i := 10) rfl)) (hw _ (List.mem_of_getElem? (i := 6) rfl)) (by decide) (by decide) hEL CR15.1 (own_xs ⟨SF16, G23.lt⟩ (fun _ z => nomatch z))) (g := (mkF m 11 #[.val (.int n), .val (.int c0), .val (.int c1)] [(.ref b11), (.ref b1), (.ref b1)])) rfl (by rw [hml]; rfl) (Steps.refl _) (a := b1) (argsL := [(.ref b11)]) (rest := [(.ref b1)]) (lenOf pd_23 rfl) rfl (by show 2 * 0 + _ ≤ _; exact Nat.le_of_eq rfl) (hb hby d1_11) (fun _ _ => ⟨rfl, e11, (by decide : 2 + 4 ≤ _), (by decide : 4 + 8 ≤ _)⟩)
    dsimp only [Pt.U, Pt.locs, Pt.cells, Pt.slots] at Xb22 hSb22 hgb22 l22 y22 z22 st22 hQ22 hC22
    subst l22 y22 z22
    obtain ⟨X22, hS22, hZ22, hown22⟩ := rebS hS0 (by rw [e11]; exact hl20) Xb22 hSb22 hgb22 hZ hown
    have hk22 : T22.heap.size ≤ T22.heap.size := Nat.le_refl _
    obtain ⟨sb_22, sk_22, rfl, N22q, K22, P27, P28, P29, P30⟩ := hQ22
    have N22_ := Fr.app N0 N22q
    refine Gl.via (fun _ k => st22.trans k) ?_
    have CR31 : CHr Z own_EL s.vm h0 T22.vm T22.heap := CHr.trans CR15 hC22
    have SF32 : Safe Z own_EL T22.vm T22.heap b1 := hC22.safe (by have q := G23.lt; exact q) SF16
    have SF33 : Safe Z own_EL T22.vm T22.heap b11 := hC22.safe (by have q := V21.lt; exact q) SF17
    have Z34 : n0 ≤ T22.heap.size := Nat.le_trans Z18 K22.1
    have Y35 : h0.size ≤ T22.heap.size := Nat.le_trans Y19 K22.1
    have hl36 := Nat.le_trans hl20 K22.1
    show Gl p.tables e below T22 (mkF m 14 #[.val (.int n), .val (.int c0), .val (.int c1)] [(.ref b1)]) G
    have V37 : Arv Z T22.heap sb_22 sk_22 .byte (own_ln (own_mk n c0 c1 (0 : Int32))) ((own_mk n c0 c1 (0 : Int32)).map Value.int) (.int (0 : Int32)) := by rw [own_mk0 hn0]; exact P30
    obtain ⟨fs, hr, hrun, hended, hRW⟩ := X22.leaveW hS22 hk22 (v := some (.ref b1)) (fun h => by rw [Bd.returns] at h; cases h)
    have hq : ∀ L, Fr n0 L → Q_mkstr Z n c0 c1 cps h0 n0 (some (.ref b1)) T22.heap L := by
      intro L hN
      exact ⟨b1, sb_22, sk_22, rfl, hN, ((((Keep.refl h0 []).ext E1).ext E11).trans K22 (allS (Or.inr gz3) all0)), P27, P28, P29, V37, gz3⟩
    have hc : CHr Z own_EL s.vm s.heap T22.vm T22.heap := by
      rw [hh]
      exact CHr.trans CR31 (CHv.at X22 hZ22 hEL CR31.1)
    rw [hG]
    exact Gl.fin (retOut X22 hx Bd.returns rfl (Or.inr (Or.inr (Or.inr (Or.inr ⟨rfl, rfl, rfl⟩)))) (hb hby d1_14) hr) ⟨_, hrun, hended, _, _, rfl, hq _ N22_, hc, ⟨hRW.1, hRW.2.1, hRW.2.2.1, hRW.2.2.2.mono (by decide) (by decide)⟩⟩
  · refine Gl.via (fun _ k => XS.ifYes X0.here hx rfl (pc0 := 1) (pc' := 15) rfl (hb hby d1_1) rfl ((if0 _ _).trans (feq hn0).2) (by decide) (by decide) k) ?_
    show Gl p.tables e below s₁ (mkF m 15 #[.val (.int n), .val (.int c0), .val (.int c1)] []) G
    refine Gl.via (fun _ k => XS.iloadN X0.here hx rfl (hb hby d1_15) rfl k) ?_
    show Gl p.tables e below s₁ (mkF m 16 #[.val (.int n), .val (.int c0), .val (.int c1)] [(.int n)]) G
    refine Gl.via (fun _ k => XS.iconst X0.here hx rfl (hb hby d1_16) k) ?_
    show Gl p.tables e below s₁ (mkF m 17 #[.val (.int n), .val (.int c0), .val (.int c1)] [(.int (1 : Int32)), (.int n)]) G
    by_cases hn1 : n = (1 : Int32)
    · refine Gl.via (fun _ k => XS.icmpNo X0.here hx rfl (hb hby d1_17) rfl (teq hn1).2 k) ?_
      show Gl p.tables e below s₁ (mkF m 20 #[.val (.int n), .val (.int c0), .val (.int c1)] []) G
      refine Gl.via (fun _ k => XS.iloadN X0.here hx rfl (hb hby d1_20) rfl k) ?_
      show Gl p.tables e below s₁ (mkF m 21 #[.val (.int n), .val (.int c0), .val (.int c1)] [(.int c0)]) G
      obtain ⟨_, _, ⟨T38, L38, k38, n38⟩, -, X38, ⟨Lc38, hQ38, l38, y38, z38⟩, st38⟩ := Jvm.LawKit.callS X0 hx (y := (⟨"java/lang/String", "valueOf", "(C)Ljava/lang/String;"⟩ : MethodName)) hown (mvT hZ (hw _ (List.mem_of_getElem? (i := 63) rfl))) (mvT hZ (hw _ (List.mem_of_getElem? (i := 64) rfl))) (mvT hZ (hw _ (List.mem_of_getElem? (i := 6) rfl))) (mvT hZ (hw _ (List.mem_of_getElem? (i := 65) rfl))) (by decide) (backOf (W := 0) (s_vo l Z a0 hw [] c0 cps h0 n0 Z0 F0_java_lang_String F1_ hcps hc0) hZ (hw _ (List.mem_of_getElem? (i := 65) rfl)) (hw _ (List.mem_of_getElem? (i := 6) rfl)) (by decide) (by decide)) (g := (mkF m 21 #[.val (.int n), .val (.int c0), .val (.int c1)] [(.int c0)])) rfl (by rw [hml]; rfl) (argsL := [(.int c0)]) (rest := []) (lenOf pd_24 rfl) rfl (by show 2 * 0 + _ ≤ _; exact Nat.le_of_eq rfl) (hb hby d1_21) (fun _ _ => ⟨rfl, e0, (by decide : 0 + 2 ≤ _), (by decide : 0 + 5 ≤ _)⟩)
      dsimp only [Pt.U, Pt.locs, Pt.cells, Pt.slots] at X38 l38 y38 z38 st38 hQ38
      subst l38 y38 z38
      obtain ⟨sa_38, sb_38, sk_38, rfl, N38q, K38, P39, P40, P41, P42, R43⟩ := hQ38
      have N38_ := Fr.app N0 N38q
      refine Gl.via (fun _ k => st38 _ k) ?_
      have ge44 : n0 ≤ sa_38 := Nat.le_trans Z0 R43
      have gz45 : h0.size ≤ sa_38 := Nat.le_trans (Nat.le_refl h0.size) R43
      have CR46 : CHr Z own_EL s.vm h0 s.vm T38.heap := CHr.trans CR0 (CHr.keep K38 sf0 CR0.1)
      have SF47 : Safe Z own_EL s.vm T38.heap sa_38 := Safe.keep K38 sf0 CR0.1 (Safe.new R43)
      have Z48 : n0 ≤ T38.heap.size := Nat.le_trans Z0 K38.1
      have Y49 : h0.size ≤ T38.heap.size := Nat.le_trans (Nat.le_refl h0.size) K38.1
      have hl50 := Nat.le_trans hk0 K38.1
      show Gl p.tables e below T38 (mkF m 24 #[.val (.int n), .val (.int c0), .val (.int c1)] [(.ref sa_38)]) G
      have V51 : Arv Z T38.heap sb_38 sk_38 .byte (own_ln (own_mk n c0 c1 (0 : Int32))) ((own_mk n c0 c1 (0 : Int32)).map Value.int) (.int (0 : Int32)) := by rw [own_mk1 hn0 hn1]; exact P42
      obtain ⟨fs, hr, hrun, hended, hRW⟩ := X38.leaveW hS0 hl50 (v := some (.ref sa_38)) (fun h => by rw [Bd.returns] at h; cases h)
      have hq : ∀ L, Fr n0 L → Q_mkstr Z n c0 c1 cps h0 n0 (some (.ref sa_38)) T38.heap L := by
        intro L hN
        exact ⟨sa_38, sb_38, sk_38, rfl, hN, ((Keep.refl h0 []).trans K38 all0), P39, P40, P41, V51, R43⟩
      have hc : CHr Z own_EL s.vm s.heap T38.vm T38.heap := by
        rw [hh]
        exact CHr.trans CR46 (CHv.at X38 hZ hEL CR46.1)
      rw [hG]
      exact Gl.fin (retOut X38 hx Bd.returns rfl (Or.inr (Or.inr (Or.inr (Or.inr ⟨rfl, rfl, rfl⟩)))) (hb hby d1_24) hr) ⟨_, hrun, hended, _, _, rfl, hq _ N38_, hc, ⟨hRW.1, hRW.2.1, hRW.2.2.1, hRW.2.2.2.mono (by decide) (by decide)⟩⟩
    · refine Gl.via (fun _ k => XS.icmpYes X0.here hx rfl (pc0 := 17) (pc' := 25) rfl (hb hby d1_17) rfl (feq hn1).2 (by decide) (by decide) k) ?_
      show Gl p.tables e below s₁ (mkF m 25 #[.val (.int n), .val (.int c0), .val (.int c1)] []) G
      obtain ⟨T52, h52, X52, e52, E52, A52, D52, -, st52⟩ := newO X0 hx hZ hown (hw _ (List.mem_of_getElem? (i := 4) rfl)) (hw _ (List.mem_of_getElem? (i := 5) rfl)) (hw _ (List.mem_of_getElem? (i := 6) rfl)) e0 (g := (mkF m 25 #[.val (.int n), .val (.int c0), .val (.int c1)] [])) rfl (hb hby d1_25) (by decide) (by decide)
      obtain ⟨b52, g52⟩ : ∃ z, z = h0.size := ⟨_, rfl⟩
      rw [← g52] at A52 D52 st52
      have ge53 : n0 ≤ b52 := Nat.le_trans Z0 (Nat.le_of_eq g52.symm)
      have gz54 : h0.size ≤ b52 := Nat.le_trans (Nat.le_refl h0.size) (Nat.le_of_eq g52.symm)
      have CR55 : CHr Z own_EL s.vm h0 s.vm h52 := CHr.trans CR0 (CHr.ext E52 CR0.1)
      have SF56 : Safe Z own_EL s.vm h52 b52 := Safe.ext E52 CR0.1 (Safe.new (Nat.le_of_eq g52.symm))
      refine Gl.via st52 ?_
      have Z57 : n0 ≤ h52.size := Nat.le_trans Z0 E52.1
      have Y58 : h0.size ≤ h52.size := Nat.le_trans (Nat.le_refl h0.size) E52.1
      have hl59 := Nat.le_trans hk0 E52.1
      have F60 : Fld Z h52 b52 "java/lang/String" "coder" "B" (.int (0 : Int32)) := D52 (Or.inr (hw _ (List.mem_of_getElem? (i := 31) rfl))) (ty := .byte) (by decide)
      have F61 : Fld Z h52 b52 "java/lang/String" "value" "[B" .null := D52 (Or.inr (hw _ (List.mem_of_getElem? (i := 33) rfl))) (ty := (.array .byte)) (by decide)
      show Gl p.tables e below T52 (mkF m 28 #[.val (.int n), .val (.int c0), .val (.int c1)] [(.ref b52)]) G
      refine Gl.via (fun _ k => XS.dup X52.here hx rfl (hb hby d1_28) rfl rfl k) ?_
      show Gl p.tables e below T52 (mkF m 29 #[.val (.int n), .val (.int c0), .val (.int c1)] [(.ref b52), (.ref b52)]) G
      refine Gl.via (fun _ k => XS.iconst X52.here hx rfl (hb hby d1_29) k) ?_
      show Gl p.tables e below T52 (mkF m 30 #[.val (.int n), .val (.int c0), .val (.int c1)] [(.int (2 : Int32)), (.ref b52), (.ref b52)]) G
      obtain ⟨T62, h62, k62, X62, e62, E62, A62, st62⟩ := newP X52 hx hZ (hw _ (List.mem_of_getElem? (i := 7) rfl)) e52 (g := (mkF m 30 #[.val (.int n), .val (.int c0), .val (.int c1)] [(.int (2 : Int32)), (.ref b52), (.ref b52)])) rfl (hb hby d1_30) rfl (by decide) (cap := 2) (by decide) (by decide) (by decide) (by decide)
      obtain ⟨b62, g62⟩ : ∃ z, z = h52.size := ⟨_, rfl⟩
      rw [← g62] at A62 st62
      have ne63 : b52 ≠ b62 := Nat.ne_of_lt (Nat.lt_of_lt_of_le A52.lt (Nat.le_of_eq g62.symm))
      have ge64 : n0 ≤ b62 := Nat.le_trans Z57 (Nat.le_of_eq g62.symm)
      have gz65 : h0.size ≤ b62 := Nat.le_trans Y58 (Nat.le_of_eq g62.symm)
      have CR66 : CHr Z own_EL s.vm h0 s.vm h62 := CHr.trans CR55 (CHr.ext E62 CR55.1)
      have SF67 : Safe Z own_EL s.vm h62 b52 := Safe.ext E62 CR55.1 SF56
      have SF68 : Safe Z own_EL s.vm h62 b62 := Safe.ext E62 CR55.1 (Safe.new (Nat.le_of_eq g62.symm))
      refine Gl.via st62 ?_
      have Z69 : n0 ≤ h62.size := Nat.le_trans Z57 E62.1
      have Y70 : h0.size ≤ h62.size := Nat.le_trans Y58 E62.1
      have hl71 := Nat.le_trans hl59 E62.1
      have V72 : Arv Z h62 b62 k62 .char (2 : Int32) [(.int (0 : Int32)), (.int (0 : Int32))] (.int (0 : Int32)) := (Arv.new A62 (by decide)).pad (pad_rep [] (.int (0 : Int32)) 2)
      show Gl p.tables e below T62 (mkF m 32 #[.val (.int n), .val (.int c0), .val (.int c1)] [(.ref b62), (.ref b52), (.ref b52)]) G
      refine Gl.via (fun _ k => XS.dup X62.here hx rfl (hb hby d1_32) rfl rfl k) ?_
      show Gl p.tables e below T62 (mkF m 33 #[.val (.int n), .val (.int c0), .val (.int c1)] [(.ref b62), (.ref b62), (.ref b52), (.ref b52)]) G
      refine Gl.via (fun _ k => XS.iconst X62.here hx rfl (hb hby d1_33) k) ?_
      show Gl p.tables e below T62 (mkF m 34 #[.val (.int n), .val (.int c0), .val (.int c1)] [(.int (0 : Int32)), (.ref b62), (.ref b62), (.ref b52), (.ref b52)]) G
      refine Gl.via (fun _ k => XS.iloadN X62.here hx rfl (hb hby d1_34) rfl k) ?_
      show Gl p.tables e below T62 (mkF m 35 #[.val (.int n), .val (.int c0), .val (.int c1)] [(.int c0), (.int (0 : Int32)), (.ref b62), (.ref b62), (.ref b52), (.ref b52)]) G
      obtain ⟨cl73, Ar73, q73, S73, N73, H73, G73⟩ := id V72
      have hin73 : ¬ ((0 : Int32) < 0 ∨ cl73.slots.size ≤ ((0 : Int32)).toNatClampNeg) := inb_of S73 ⟨by decide, by decide⟩
      obtain ⟨T73, h73, X73, e73, W73, st73⟩ := stC X62 hx hZ e62 Ar73 (j := (0 : Int32)) hin73 (g := (mkF m 35 #[.val (.int n), .val (.int c0), .val (.int c1)] [(.int c0), (.int (0 : Int32)), (.ref b62), (.ref b62), (.ref b52), (.ref b52)])) rfl rfl (hb hby d1_35)
      have CR74 : CHr Z own_EL s.vm h0 s.vm h73 := CHr.trans CR66 (CHr.wr W73 SF68 CR66.1)
      have SF75 : Safe Z own_EL s.vm h73 b52 := Safe.wr W73 SF68 CR66.1 SF67
      have SF76 : Safe Z own_EL s.vm h73 b62 := Safe.wr W73 SF68 CR66.1 SF68
      refine Gl.via st73 ?_
      have N73_ := Fr.snoc X73 N0 ge64
      have Z77 : n0 ≤ h73.size := Nat.le_trans Z69 (Keep.of_wr W73).1
      have Y78 : h0.size ≤ h73.size := Nat.le_trans Y70 (Keep.of_wr W73).1
      have hl79 := Nat.le_trans hl71 (Keep.of_wr W73).1
      have V80 : Arv Z h73 b62 k62 .char (2 : Int32) [(.int (nar .char c0)), (.int (0 : Int32))] (.int (0 : Int32)) := Arv.set Ar73 q73 S73 N73 H73 G73 (fits_nar_char _) W73 0 rfl (Nat.le_of_ble_eq_true rfl)
      have V81 : Arv Z h73 b62 k62 .char (2 : Int32) [(.int c0), (.int (0 : Int32))] (.int (0 : Int32)) := by rw [show ((.int (nar .char c0)) : Value) = (.int c0) from (congrArg Value.int (own_chr hz0 hc0))] at V80; exact V80
      show Gl p.tables e below T73 (mkF m 36 #[.val (.int n), .val (.int c0), .val (.int c1)] [(.ref b62), (.ref b52), (.ref b52)]) G
      refine Gl.via (fun _ k => XS.dup X73.here hx rfl (hb hby d1_36) rfl rfl k) ?_
      show Gl p.tables e below T73 (mkF m 37 #[.val (.int n), .val (.int c0), .val (.int c1)] [(.ref b62), (.ref b62), (.ref b52), (.ref b52)]) G
      refine Gl.via (fun _ k => XS.iconst X73.here hx rfl (hb hby d1_37) k) ?_
      show Gl p.tables e below T73 (mkF m 38 #[.val (.int n), .val (.int c0), .val (.int c1)] [(.int (1 : Int32)), (.ref b62), (.ref b62), (.ref b52), (.ref b52)]) G
      refine Gl.via (fun _ k => XS.iloadN X73.here hx rfl (hb hby d1_38) rfl k) ?_
      show Gl p.tables e below T73 (mkF m 39 #[.val (.int n), .val (.int c0), .val (.int c1)] [(.int c1), (.int (1 : Int32)), (.ref b62), (.ref b62), (.ref b52), (.ref b52)]) G
      obtain ⟨cl82, Ar82, q82, S82, N82, H82, G82⟩ := id V81
      have hin82 : ¬ ((1 : Int32) < 0 ∨ cl82.slots.size ≤ ((1 : Int32)).toNatClampNeg) := inb_of S82 ⟨by decide, by decide⟩
      obtain ⟨T82, h82, X82, e82, W82, st82⟩ := stC X73 hx hZ e73 Ar82 (j := (1 : Int32)) hin82 (g := (mkF m 39 #[.val (.int n), .val (.int c0), .val (.int c1)] [(.int c1), (.int (1 : Int32)), (.ref b62), (.ref b62), (.ref b52), (.ref b52)])) rfl rfl (hb hby d1_39)
      have CR83 : CHr Z own_EL s.vm h0 s.vm h82 := CHr.trans CR74 (CHr.wr W82 SF76 CR74.1)
      have SF84 : Safe Z own_EL s.vm h82 b52 := Safe.wr W82 SF76 CR74.1 SF75
      have SF85 : Safe Z own_EL s.vm h82 b62 := Safe.wr W82 SF76 CR74.1 SF76
      refine Gl.via st82 ?_
      have N82_ := Fr.snoc X82 N73_ ge64
      have Z86 : n0 ≤ h82.size := Nat.le_trans Z77 (Keep.of_wr W82).1
      have Y87 : h0.size ≤ h82.size := Nat.le_trans Y78 (Keep.of_wr W82).1
      have hl88 := Nat.le_trans hl79 (Keep.of_wr W82).1
      have V89 : Arv Z h82 b62 k62 .char (2 : Int32) [(.int c0), (.int (nar .char c1))] (.int (0 : Int32)) := Arv.set Ar82 q82 S82 N82 H82 G82 (fits_nar_char _) W82 1 rfl (Nat.le_of_ble_eq_true rfl)
      have V90 : Arv Z h82 b62 k62 .char (2 : Int32) [(.int c0), (.int c1)] (.int (0 : Int32)) := by rw [show ((.int (nar .char c1)) : Value) = (.int c1) from (congrArg Value.int (own_chr hz1 hc1))] at V89; exact V89
      show Gl p.tables e below T82 (mkF m 40 #[.val (.int n), .val (.int c0), .val (.int c1)] [(.ref b62), (.ref b52), (.ref b52)]) G
      have G92 : Exa Z h82 b52 "java/lang/String" := (((A52.ext E62).wr W73).wr W82)
      have G93 : Fld Z h82 b52 "java/lang/String" "value" "[B" .null := (((F61.ext E62).other W73 (Or.inl ne63)).other W82 (Or.inl ne63))
      have G94 : Fld Z h82 b52 "java/lang/String" "coder" "B" (.int (0 : Int32)) := (((F60.ext E62).other W73 (Or.inl ne63)).other W82 (Or.inl ne63))
      have G95 : Old Z n0 h82 := ((((F1_.ext E52).ext E62).wr W73 ge64).wr W82 ge64)
      obtain ⟨_, _, ⟨T91, L91, k91, n91⟩, -, Xb91, hSb91, hgb91, ⟨Lc91, hQ91, l91, y91, z91, hC91⟩, st91⟩ := X82.specialBackS hx (y := (⟨"java/lang/String", "<init>", "([C)V"⟩ : MethodName)) rfl hown (mvT hZ (hw _ (List.mem_of_getElem? (i := 8) rfl))) (mvT hZ (hw _ (List.mem_of_getElem? (i := 9) rfl))) (mvT hZ (hw _ (List.mem_of_getElem? (i := 10) rfl))) (by decide) (own_back (W := 1) (si1_2 l Z a0 hw [] b52 .null (.int (0 : Int32)) b62 k62 c0 c1 cps h82 n0 Z86 G92 G93 G94 V90 F0_java_lang_String G95 hc0 hc1 hcps ge53 ne63) hZ (hw _ (List.mem_of_getElem? (i := 10) rfl)) (hw _ (List.mem_of_getElem? (i := 6) rfl)) (by decide) (by decide) hEL CR83.1 (own_xs ⟨SF84, G92.lt⟩ (fun _ z => nomatch z))) (g := (mkF m 40 #[.val (.int n), .val (.int c0), .val (.int c1)] [(.ref b62), (.ref b52), (.ref b52)])) rfl (by rw [hml]; rfl) (Steps.refl _) (a := b52) (argsL := [(.ref b62)]) (rest := [(.ref b52)]) (lenOf pd_23 rfl) rfl (by show 2 * 0 + _ ≤ _; exact Nat.le_of_eq rfl) (hb hby d1_40) (fun _ _ => ⟨rfl, e82, (by decide : 2 + 1 ≤ _), (by decide : 6 + 2 ≤ _)⟩)
      dsimp only [Pt.U, Pt.locs, Pt.cells, Pt.slots] at Xb91 hSb91 hgb91 l91 y91 z91 st91 hQ91 hC91
      subst l91 y91 z91
      obtain ⟨X91, hS91, hZ91, hown91⟩ := rebS hS0 (by rw [e82]; exact hl88) Xb91 hSb91 hgb91 hZ hown
      have hk91 : T91.heap.size ≤ T91.heap.size := Nat.le_refl _
      obtain ⟨sb_91, sk_91, rfl, N91q, K91, P96, P97, P98, P99⟩ := hQ91
      have N91_ := Fr.app N82_ N91q
      refine Gl.via (fun _ k => st91.trans k) ?_
      have CR100 : CHr Z own_EL s.vm h0 T91.vm T91.heap := CHr.trans CR83 hC91
      have SF101 : Safe Z own_EL T91.vm T91.heap b52 := hC91.safe (by have q := G92.lt; exact q) SF84
      have SF102 : Safe Z own_EL T91.vm T91.heap b62 := hC91.safe (by have q := V90.lt; exact q) SF85
      have Z103 : n0 ≤ T91.heap.size := Nat.le_trans Z86 K91.1
      have Y104 : h0.size ≤ T91.heap.size := Nat.le_trans Y87 K91.1
      have hl105 := Nat.le_trans hl88 K91.1
      show Gl p.tables e below T91 (mkF m 43 #[.val (.int n), .val (.int c0), .val (.int c1)] [(.ref b52)]) G
      have V106 : Arv Z T91.heap sb_91 sk_91 .byte (own_ln (own_mk n c0 c1 (0 : Int32))) ((own_mk n c0 c1 (0 : Int32)).map Value.int) (.int (0 : Int32)) := by rw [own_mk2' hn hn0 hn1]; exact P99
      obtain ⟨fs, hr, hrun, hended, hRW⟩ := X91.leaveW hS91 hk91 (v := some (.ref b52)) (fun h => by rw [Bd.returns] at h; cases h)
      have hq : ∀ L, Fr n0 L → Q_mkstr Z n c0 c1 cps h0 n0 (some (.ref b52)) T91.heap L := by
        intro L hN
        exact ⟨b52, sb_91, sk_91, rfl, hN, ((((((Keep.refl h0 []).ext E52).ext E62).wr W73 (Or.inr gz65)).wr W82 (Or.inr gz65)).trans K91 (allS (Or.inr gz54) all0)), P96, P97, P98, V106, gz54⟩
      have hc : CHr Z own_EL s.vm s.heap T91.vm T91.heap := by
        rw [hh]
        exact CHr.trans CR100 (CHv.at X91 hZ91 hEL CR100.1)
      rw [hG]
      exact Gl.fin (retOut X91 hx Bd.returns rfl (Or.inr (Or.inr (Or.inr (Or.inr ⟨rfl, rfl, rfl⟩)))) (hb hby d1_43) hr) ⟨_, hrun, hended, _, _, rfl, hq _ N91_, hc, ⟨hRW.1, hRW.2.1, hRW.2.2.1, hRW.2.2.2.mono (by decide) (by decide)⟩⟩
theorem pn_9 : plainName "com/example/profile_to_target/profiletotarget/SfrId" = true := by first | (simp [plainName, overriddenIn]; done) | decide +kernel
theorem d8_0 : decode prog_3_method_1_code 0 = .ok (.aload_n 0, 1) := by decide +kernel
theorem d8_1 : decode prog_3_method_1_code 1 = .ok (.invokespecial 1, 3) := by decide +kernel
theorem pd_25 : parseMethodDescriptor "()V" = some ⟨[], none⟩ := by decide +kernel
theorem d8_4 : decode prog_3_method_1_code 4 = .ok (.aload_n 0, 1) := by decide +kernel
theorem d8_5 : decode prog_3_method_1_code 5 = .ok (.aload_n 1, 1) := by decide +kernel
theorem d8_6 : decode prog_3_method_1_code 6 = .ok (.putfield 7, 3) := by decide +kernel
theorem d8_9 : decode prog_3_method_1_code 9 = .ok (.aload_n 0, 1) := by decide +kernel
theorem d8_10 : decode prog_3_method_1_code 10 = .ok (.aload_n 2, 1) := by decide +kernel
theorem d8_11 : decode prog_3_method_1_code 11 = .ok (.putfield 13, 3) := by decide +kernel
theorem d8_14 : decode prog_3_method_1_code 14 = .ok (.return_, 1) := by decide +kernel
theorem ef_sf_init (m : MethodId) (x0 : Addr) (x1 : Addr) (x2 : Addr) : entryFrame m #[(.ref x0), (.ref x1), (.ref x2)] 3 = mkF m 0 #[.val (.ref x0), .val (.ref x1), .val (.ref x2)] [] := by first | (simp [entryFrame, mkF, argsToLocals, Value.category]; done) | rfl | (simp [entryFrame, mkF, argsToLocals, own_catI, own_catR, *]; done)
def Q_sf_init (Z : State) (ca : Addr) (a1 : Addr) (a2 : Addr) (u1 : Value) (u2 : Value) (h0 : Heap) (n0 : Nat) (v : Option Value) (h : Heap) (L : List Loc) : Prop := v = none ∧ Fr n0 L ∧ Keep h0 h [ca] ∧ Exa Z h ca "com/example/profile_to_target/profiletotarget/SfrId" ∧ Fld Z h ca "com/example/profile_to_target/profiletotarget/SfrId" "component" "Ljava/lang/String;" (.ref a1) ∧ Fld Z h ca "com/example/profile_to_target/profiletotarget/SfrId" "iteration" "Ljava/lang/String;" (.ref a2)
set_option maxRecDepth 65536 in
set_option maxHeartbeats 40000000 in
theorem sf_init (l : Launch) (Z : State) (a0 : Array Value) (hw : ∀ d ∈ tables_1, d.before a0 Z = true) (ws : List Jvm.Cond) (ca : Addr) (a1 : Addr) (a2 : Addr) (u1 : Value) (u2 : Value) (h0 : Heap) (n0 : Nat) (Z0 : n0 ≤ h0.size) (F0_ca : Exa Z h0 ca "com/example/profile_to_target/profiletotarget/SfrId") (F1_ca_component : Fld Z h0 ca "com/example/profile_to_target/profiletotarget/SfrId" "component" "Ljava/lang/String;" u1) (F2_ca_iteration : Fld Z h0 ca "com/example/profile_to_target/profiletotarget/SfrId" "iteration" "Ljava/lang/String;" u2) (hp0 : n0 ≤ ca) :
    MetFree l (⟨"com/example/profile_to_target/profiletotarget/SfrId", "<init>", "(Ljava/lang/String;Ljava/lang/String;)V"⟩ : MethodName) (head1 (Jvm.Cond.code (⟨"com/example/profile_to_target/profiletotarget/SfrId", "<init>", "(Ljava/lang/String;Ljava/lang/String;)V"⟩ : MethodName) prog_3_method_1_code 3 none :: ws) ({ frames := 2, cells := 0, slots := 0, locals := 24 } : Room)) (fun a U => a = #[(.ref ca), (.ref a1), (.ref a2)] ∧ Z.Warmed39 U.vm ∧ U.heap = h0) (fun _ _ _ _ _ => True) (fun _ U o U' => ∃ v L, o = .returned v ∧ Q_sf_init Z ca a1 a2 u1 u2 h0 n0 v U'.heap L ∧ FrameEnd U o U' L ({ frames := 2, cells := 0, slots := 0, locals := 24 } : Room).cells ({ frames := 2, cells := 0, slots := 0, locals := 24 } : Room).slots) := by
  refine MetFree.of_bodySF (plainFor_of_name pn_9) hisR ?_
  intro p e s m args below meth c s₁ Bd hml0 hP hK
  obtain ⟨rfl, hZ, hh⟩ := hP
  have hx := Bd.exec
  have hby := Bd.bytes
  have hml : c.maxLocals = 3 := hml0
  have hown : s.vm.findClass "com/example/profile_to_target/profiletotarget/SfrId" = some m.cls := findClass_of_methodNamed Bd.named
  have hnm := (name_of_methodNamed Bd.named Bd.method).1
  have X0 : Stand p l e ({ frames := 2, cells := 0, slots := 0, locals := 24 } : Room) s m #[(.ref ca), (.ref a1), (.ref a2)] below meth c s₁ [] 0 0 := Stand.of_body Bd
  have e0 : s₁.heap = h0 := by rw [← hh, Bd.state]; rfl
  have N0 := Fr.nil n0
  obtain ⟨G, hG⟩ : ∃ G : State → Prop, G = (fun U' => ∃ o, U'.status = .running ∧ Ended U' below o ∧ ∃ v L, o = .returned v ∧ Q_sf_init Z ca a1 a2 u1 u2 h0 n0 v U'.heap L ∧ FrameEnd s o U' L ({ frames := 2, cells := 0, slots := 0, locals := 24 } : Room).cells ({ frames := 2, cells := 0, slots := 0, locals := 24 } : Room).slots) := ⟨_, rfl⟩
  suffices key : Gl p.tables e below s₁ (mkF m 0 #[.val (.ref ca), .val (.ref a1), .val (.ref a2)] []) G by
    obtain ⟨s₂, k1, k2⟩ := key
    rw [hG] at k2
    obtain ⟨o, k3, k4, k5⟩ := k2
    exact ⟨s₂, o, castTop (ef_sf_init m ca a1 a2) k1, k3, k4, k5⟩
  show Gl p.tables e below s₁ (mkF m 0 #[.val (.ref ca), .val (.ref a1), .val (.ref a2)] []) G
  refine Gl.via (fun _ k => XS.aloadN X0.here hx rfl (hb hby d8_0) rfl rfl k) ?_
  show Gl p.tables e below s₁ (mkF m 1 #[.val (.ref ca), .val (.ref a1), .val (.ref a2)] [(.ref ca)]) G
  obtain ⟨_, _, ⟨T1, L1, k1, n1⟩, -, X1, ⟨Lc1, hQ1, l1, y1, z1⟩, st1⟩ := X0.specialBack hx (y := (⟨"java/lang/Record", "<init>", "()V"⟩ : MethodName)) rfl hown (mvT hZ (hw _ (List.mem_of_getElem? (i := 40) rfl))) (mvT hZ (hw _ (List.mem_of_getElem? (i := 41) rfl))) (mvT hZ (hw _ (List.mem_of_getElem? (i := 44) rfl))) (by decide) (backOf (W := 0) (rec_init l Z a0 hw [] ca h0 n0 Z0 ) hZ (hw _ (List.mem_of_getElem? (i := 44) rfl)) (hw _ (List.mem_of_getElem? (i := 43) rfl)) (by decide) (by decide)) (g := (mkF m 1 #[.val (.ref ca), .val (.ref a1), .val (.ref a2)] [(.ref ca)])) rfl (by rw [hml]; rfl) (Steps.refl _) (a := ca) (argsL := []) (rest := []) (lenOf pd_25 rfl) rfl (by show 2 * 0 + _ ≤ _; exact Nat.le_of_eq rfl) (hb hby d8_1) (fun _ _ => ⟨rfl, e0, (by decide : 0 + 0 ≤ _), (by decide : 0 + 0 ≤ _)⟩)
  dsimp only [Pt.U, Pt.locs, Pt.cells, Pt.slots] at X1 l1 y1 z1 st1 hQ1
  subst l1 y1 z1
  obtain ⟨rfl, N1q, eh1⟩ := hQ1
  have N1_ := Fr.app N0 N1q
  refine Gl.via (fun _ k => st1.trans k) ?_
  show Gl p.tables e below T1 (mkF m 4 #[.val (.ref ca), .val (.ref a1), .val (.ref a2)] []) G
  refine Gl.via (fun _ k => XS.aloadN X1.here hx rfl (hb hby d8_4) rfl rfl k) ?_
  show Gl p.tables e below T1 (mkF m 5 #[.val (.ref ca), .val (.ref a1), .val (.ref a2)] [(.ref ca)]) G
  refine Gl.via (fun _ k => XS.aloadN X1.here hx rfl (hb hby d8_5) rfl rfl k) ?_
  show Gl p.tables e below T1 (mkF m 6 #[.val (.ref ca), .val (.ref a1), .val (.ref a2)] [(.ref a1), (.ref ca)]) G
  obtain ⟨T2, h2, X2, e2, W2, st2⟩ := putF X1 hx hZ hown (host := "") (Or.inl (hw _ (List.mem_of_getElem? (i := 46) rfl))) Via.refl eh1 F1_ca_component F0_ca (Or.inr ⟨(hw _ (List.mem_of_getElem? (i := 47) rfl)), rfl, hnm⟩) (hw _ (List.mem_of_getElem? (i := 35) rfl)) (ty := (.object "java/lang/String")) (by decide) rfl rfl (g := (mkF m 6 #[.val (.ref ca), .val (.ref a1), .val (.ref a2)] [(.ref a1), (.ref ca)])) rfl rfl (hb hby d8_6)
  refine Gl.via st2 ?_
  have N2_ := Fr.snoc X2 N1_ hp0
  have Z3 : n0 ≤ h2.size := Nat.le_trans Z0 (Keep.of_wr W2).1
  have Y4 : h0.size ≤ h2.size := Nat.le_trans (Nat.le_refl h0.size) (Keep.of_wr W2).1
  show Gl p.tables e below T2 (mkF m 9 #[.val (.ref ca), .val (.ref a1), .val (.ref a2)] []) G
  refine Gl.via (fun _ k => XS.aloadN X2.here hx rfl (hb hby d8_9) rfl rfl k) ?_
  show Gl p.tables e below T2 (mkF m 10 #[.val (.ref ca), .val (.ref a1), .val (.ref a2)] [(.ref ca)]) G
  refine Gl.via (fun _ k => XS.aloadN X2.here hx rfl (hb hby d8_10) rfl rfl k) ?_
  show Gl p.tables e below T2 (mkF m 11 #[.val (.ref ca), .val (.ref a1), .val (.ref a2)] [(.ref a2), (.ref ca)]) G
  have G5 : Fld Z h2 ca "com/example/profile_to_target/profiletotarget/SfrId" "iteration" "Ljava/lang/String;" u2 := (F2_ca_iteration.other W2 (Or.inr (slot_ne (Or.inr (hw _ (List.mem_of_getElem? (i := 49) rfl))) (Or.inr (hw _ (List.mem_of_getElem? (i := 47) rfl))) (by decide) (t := (.object "java/lang/String")) (t' := (.object "java/lang/String")) (by decide) (by decide))))
  have G6 : Exa Z h2 ca "com/example/profile_to_target/profiletotarget/SfrId" := (F0_ca.wr W2)
  obtain ⟨T7, h7, X7, e7, W7, st7⟩ := putF X2 hx hZ hown (host := "") (Or.inl (hw _ (List.mem_of_getElem? (i := 48) rfl))) Via.refl e2 G5 G6 (Or.inr ⟨(hw _ (List.mem_of_getElem? (i := 49) rfl)), rfl, hnm⟩) (hw _ (List.mem_of_getElem? (i := 35) rfl)) (ty := (.object "java/lang/String")) (by decide) rfl rfl (g := (mkF m 11 #[.val (.ref ca), .val (.ref a1), .val (.ref a2)] [(.ref a2), (.ref ca)])) rfl rfl (hb hby d8_11)
  refine Gl.via st7 ?_
  have N7_ := Fr.snoc X7 N2_ hp0
  have Z8 : n0 ≤ h7.size := Nat.le_trans Z3 (Keep.of_wr W7).1
  have Y9 : h0.size ≤ h7.size := Nat.le_trans Y4 (Keep.of_wr W7).1
  show Gl p.tables e below T7 (mkF m 14 #[.val (.ref ca), .val (.ref a1), .val (.ref a2)] []) G
  obtain ⟨fs, hr, hrun, hended, hW, hsame⟩ := X7.leave (v := none) (fun _ => rfl)
  have G10 : Exa Z h7 ca "com/example/profile_to_target/profiletotarget/SfrId" := (G6.wr W7)
  have G11 : Fld Z h7 ca "com/example/profile_to_target/profiletotarget/SfrId" "component" "Ljava/lang/String;" (.ref a1) := ((Fld.same W2 F1_ca_component).other W7 (Or.inr (slot_ne (Or.inr (hw _ (List.mem_of_getElem? (i := 47) rfl))) (Or.inr (hw _ (List.mem_of_getElem? (i := 49) rfl))) (by decide) (t := (.object "java/lang/String")) (t' := (.object "java/lang/String")) (by decide) (by decide))))
  have hq : ∀ L, Fr n0 L → Q_sf_init Z ca a1 a2 u1 u2 h0 n0 (none) T7.heap L := by
    intro L hN
    rw [e7]
    exact ⟨rfl, hN, (((Keep.refl h0 [ca]).wr W2 (Or.inl (List.mem_of_getElem? (i := 0) rfl))).wr W7 (Or.inl (List.mem_of_getElem? (i := 0) rfl))), G10, G11, (Fld.same W7 G5)⟩
  rw [hG]
  exact Gl.fin (X7.returnOut hx Bd.returns (hb hby d8_14) hr) ⟨_, hrun, hended, _, _, rfl, hq _ N7_, ⟨_, rfl⟩, hW, hsame.mono (by decide) (by decide)⟩
theorem ef_sf_init0 (m : MethodId) (x0 : Addr) (x1 : Addr) : entryFrame m #[(.ref x0), (.ref x1), .null] 3 = mkF m 0 #[.val (.ref x0), .val (.ref x1), .val .null] [] := by first | (simp [entryFrame, mkF, argsToLocals, Value.category]; done) | rfl | (simp [entryFrame, mkF, argsToLocals, own_catI, own_catR, *]; done)
def Q_sf_init0 (Z : State) (ca : Addr) (a1 : Addr) (u1 : Value) (u2 : Value) (h0 : Heap) (n0 : Nat) (v : Option Value) (h : Heap) (L : List Loc) : Prop := v = none ∧ Fr n0 L ∧ Keep h0 h [ca] ∧ Exa Z h ca "com/example/profile_to_target/profiletotarget/SfrId" ∧ Fld Z h ca "com/example/profile_to_target/profiletotarget/SfrId" "component" "Ljava/lang/String;" (.ref a1) ∧ Fld Z h ca "com/example/profile_to_target/profiletotarget/SfrId" "iteration" "Ljava/lang/String;" .null
set_option maxRecDepth 65536 in
set_option maxHeartbeats 40000000 in
theorem sf_init0 (l : Launch) (Z : State) (a0 : Array Value) (hw : ∀ d ∈ tables_1, d.before a0 Z = true) (ws : List Jvm.Cond) (ca : Addr) (a1 : Addr) (u1 : Value) (u2 : Value) (h0 : Heap) (n0 : Nat) (Z0 : n0 ≤ h0.size) (F0_ca : Exa Z h0 ca "com/example/profile_to_target/profiletotarget/SfrId") (F1_ca_component : Fld Z h0 ca "com/example/profile_to_target/profiletotarget/SfrId" "component" "Ljava/lang/String;" u1) (F2_ca_iteration : Fld Z h0 ca "com/example/profile_to_target/profiletotarget/SfrId" "iteration" "Ljava/lang/String;" u2) (hp0 : n0 ≤ ca) :
    MetFree l (⟨"com/example/profile_to_target/profiletotarget/SfrId", "<init>", "(Ljava/lang/String;Ljava/lang/String;)V"⟩ : MethodName) (head1 (Jvm.Cond.code (⟨"com/example/profile_to_target/profiletotarget/SfrId", "<init>", "(Ljava/lang/String;Ljava/lang/String;)V"⟩ : MethodName) prog_3_method_1_code 3 none :: ws) ({ frames := 2, cells := 0, slots := 0, locals := 24 } : Room)) (fun a U => a = #[(.ref ca), (.ref a1), .null] ∧ Z.Warmed39 U.vm ∧ U.heap = h0) (fun _ _ _ _ _ => True) (fun _ U o U' => ∃ v L, o = .returned v ∧ Q_sf_init0 Z ca a1 u1 u2 h0 n0 v U'.heap L ∧ FrameEnd U o U' L ({ frames := 2, cells := 0, slots := 0, locals := 24 } : Room).cells ({ frames := 2, cells := 0, slots := 0, locals := 24 } : Room).slots) := by
  refine MetFree.of_bodySF (plainFor_of_name pn_9) hisR ?_
  intro p e s m args below meth c s₁ Bd hml0 hP hK
  obtain ⟨rfl, hZ, hh⟩ := hP
  have hx := Bd.exec
  have hby := Bd.bytes
  have hml : c.maxLocals = 3 := hml0
  have hown : s.vm.findClass "com/example/profile_to_target/profiletotarget/SfrId" = some m.cls := findClass_of_methodNamed Bd.named
  have hnm := (name_of_methodNamed Bd.named Bd.method).1
  have X0 : Stand p l e ({ frames := 2, cells := 0, slots := 0, locals := 24 } : Room) s m #[(.ref ca), (.ref a1), .null] below meth c s₁ [] 0 0 := Stand.of_body Bd
  have e0 : s₁.heap = h0 := by rw [← hh, Bd.state]; rfl
  have N0 := Fr.nil n0
  obtain ⟨G, hG⟩ : ∃ G : State → Prop, G = (fun U' => ∃ o, U'.status = .running ∧ Ended U' below o ∧ ∃ v L, o = .returned v ∧ Q_sf_init0 Z ca a1 u1 u2 h0 n0 v U'.heap L ∧ FrameEnd s o U' L ({ frames := 2, cells := 0, slots := 0, locals := 24 } : Room).cells ({ frames := 2, cells := 0, slots := 0, locals := 24 } : Room).slots) := ⟨_, rfl⟩
  suffices key : Gl p.tables e below s₁ (mkF m 0 #[.val (.ref ca), .val (.ref a1), .val .null] []) G by
    obtain ⟨s₂, k1, k2⟩ := key
    rw [hG] at k2
    obtain ⟨o, k3, k4, k5⟩ := k2
    exact ⟨s₂, o, castTop (ef_sf_init0 m ca a1) k1, k3, k4, k5⟩
  show Gl p.tables e below s₁ (mkF m 0 #[.val (.ref ca), .val (.ref a1), .val .null] []) G
  refine Gl.via (fun _ k => XS.aloadN X0.here hx rfl (hb hby d8_0) rfl rfl k) ?_
  show Gl p.tables e below s₁ (mkF m 1 #[.val (.ref ca), .val (.ref a1), .val .null] [(.ref ca)]) G
  obtain ⟨_, _, ⟨T1, L1, k1, n1⟩, -, X1, ⟨Lc1, hQ1, l1, y1, z1⟩, st1⟩ := X0.specialBack hx (y := (⟨"java/lang/Record", "<init>", "()V"⟩ : MethodName)) rfl hown (mvT hZ (hw _ (List.mem_of_getElem? (i := 40) rfl))) (mvT hZ (hw _ (List.mem_of_getElem? (i := 41) rfl))) (mvT hZ (hw _ (List.mem_of_getElem? (i := 44) rfl))) (by decide) (backOf (W := 0) (rec_init l Z a0 hw [] ca h0 n0 Z0 ) hZ (hw _ (List.mem_of_getElem? (i := 44) rfl)) (hw _ (List.mem_of_getElem? (i := 43) rfl)) (by decide) (by decide)) (g := (mkF m 1 #[.val (.ref ca), .val (.ref a1), .val .null] [(.ref ca)])) rfl (by rw [hml]; rfl) (Steps.refl _) (a := ca) (argsL := []) (rest := []) (lenOf pd_25 rfl) rfl (by show 2 * 0 + _ ≤ _; exact Nat.le_of_eq rfl) (hb hby d8_1) (fun _ _ => ⟨rfl, e0, (by decide : 0 + 0 ≤ _), (by decide : 0 + 0 ≤ _)⟩)
  dsimp only [Pt.U, Pt.locs, Pt.cells, Pt.slots] at X1 l1 y1 z1 st1 hQ1
  subst l1 y1 z1
  obtain ⟨rfl, N1q, eh1⟩ := hQ1
  have N1_ := Fr.app N0 N1q
  refine Gl.via (fun _ k => st1.trans k) ?_
  show Gl p.tables e below T1 (mkF m 4 #[.val (.ref ca), .val (.ref a1), .val .null] []) G
  refine Gl.via (fun _ k => XS.aloadN X1.here hx rfl (hb hby d8_4) rfl rfl k) ?_
  show Gl p.tables e below T1 (mkF m 5 #[.val (.ref ca), .val (.ref a1), .val .null] [(.ref ca)]) G
  refine Gl.via (fun _ k => XS.aloadN X1.here hx rfl (hb hby d8_5) rfl rfl k) ?_
  show Gl p.tables e below T1 (mkF m 6 #[.val (.ref ca), .val (.ref a1), .val .null] [(.ref a1), (.ref ca)]) G
  obtain ⟨T2, h2, X2, e2, W2, st2⟩ := putF X1 hx hZ hown (host := "") (Or.inl (hw _ (List.mem_of_getElem? (i := 46) rfl))) Via.refl eh1 F1_ca_component F0_ca (Or.inr ⟨(hw _ (List.mem_of_getElem? (i := 47) rfl)), rfl, hnm⟩) (hw _ (List.mem_of_getElem? (i := 35) rfl)) (ty := (.object "java/lang/String")) (by decide) rfl rfl (g := (mkF m 6 #[.val (.ref ca), .val (.ref a1), .val .null] [(.ref a1), (.ref ca)])) rfl rfl (hb hby d8_6)
  refine Gl.via st2 ?_
  have N2_ := Fr.snoc X2 N1_ hp0
  have Z3 : n0 ≤ h2.size := Nat.le_trans Z0 (Keep.of_wr W2).1
  have Y4 : h0.size ≤ h2.size := Nat.le_trans (Nat.le_refl h0.size) (Keep.of_wr W2).1
  show Gl p.tables e below T2 (mkF m 9 #[.val (.ref ca), .val (.ref a1), .val .null] []) G
  refine Gl.via (fun _ k => XS.aloadN X2.here hx rfl (hb hby d8_9) rfl rfl k) ?_
  show Gl p.tables e below T2 (mkF m 10 #[.val (.ref ca), .val (.ref a1), .val .null] [(.ref ca)]) G
  refine Gl.via (fun _ k => XS.aloadN X2.here hx rfl (hb hby d8_10) rfl rfl k) ?_
  show Gl p.tables e below T2 (mkF m 11 #[.val (.ref ca), .val (.ref a1), .val .null] [.null, (.ref ca)]) G
  have G5 : Fld Z h2 ca "com/example/profile_to_target/profiletotarget/SfrId" "iteration" "Ljava/lang/String;" u2 := (F2_ca_iteration.other W2 (Or.inr (slot_ne (Or.inr (hw _ (List.mem_of_getElem? (i := 49) rfl))) (Or.inr (hw _ (List.mem_of_getElem? (i := 47) rfl))) (by decide) (t := (.object "java/lang/String")) (t' := (.object "java/lang/String")) (by decide) (by decide))))
  have G6 : Exa Z h2 ca "com/example/profile_to_target/profiletotarget/SfrId" := (F0_ca.wr W2)
  obtain ⟨T7, h7, X7, e7, W7, st7⟩ := putF X2 hx hZ hown (host := "") (Or.inl (hw _ (List.mem_of_getElem? (i := 48) rfl))) Via.refl e2 G5 G6 (Or.inr ⟨(hw _ (List.mem_of_getElem? (i := 49) rfl)), rfl, hnm⟩) (hw _ (List.mem_of_getElem? (i := 35) rfl)) (ty := (.object "java/lang/String")) (by decide) rfl rfl (g := (mkF m 11 #[.val (.ref ca), .val (.ref a1), .val .null] [.null, (.ref ca)])) rfl rfl (hb hby d8_11)
  refine Gl.via st7 ?_
  have N7_ := Fr.snoc X7 N2_ hp0
  have Z8 : n0 ≤ h7.size := Nat.le_trans Z3 (Keep.of_wr W7).1
  have Y9 : h0.size ≤ h7.size := Nat.le_trans Y4 (Keep.of_wr W7).1
  show Gl p.tables e below T7 (mkF m 14 #[.val (.ref ca), .val (.ref a1), .val .null] []) G
  obtain ⟨fs, hr, hrun, hended, hW, hsame⟩ := X7.leave (v := none) (fun _ => rfl)
  have G10 : Exa Z h7 ca "com/example/profile_to_target/profiletotarget/SfrId" := (G6.wr W7)
  have G11 : Fld Z h7 ca "com/example/profile_to_target/profiletotarget/SfrId" "component" "Ljava/lang/String;" (.ref a1) := ((Fld.same W2 F1_ca_component).other W7 (Or.inr (slot_ne (Or.inr (hw _ (List.mem_of_getElem? (i := 47) rfl))) (Or.inr (hw _ (List.mem_of_getElem? (i := 49) rfl))) (by decide) (t := (.object "java/lang/String")) (t' := (.object "java/lang/String")) (by decide) (by decide))))
  have hq : ∀ L, Fr n0 L → Q_sf_init0 Z ca a1 u1 u2 h0 n0 (none) T7.heap L := by
    intro L hN
    rw [e7]
    exact ⟨rfl, hN, (((Keep.refl h0 [ca]).wr W2 (Or.inl (List.mem_of_getElem? (i := 0) rfl))).wr W7 (Or.inl (List.mem_of_getElem? (i := 0) rfl))), G10, G11, (Fld.same W7 G5)⟩
  rw [hG]
  exact Gl.fin (X7.returnOut hx Bd.returns (hb hby d8_14) hr) ⟨_, hrun, hended, _, _, rfl, hq _ N7_, ⟨_, rfl⟩, hW, hsame.mono (by decide) (by decide)⟩
theorem d10_0 : decode prog_3_method_3_code 0 = .ok (.aload_n 0, 1) := by decide +kernel
theorem d10_1 : decode prog_3_method_3_code 1 = .ok (.getfield 13, 3) := by decide +kernel
theorem d10_4 : decode prog_3_method_3_code 4 = .ok (.ifnonnull 10, 3) := by decide +kernel
theorem d10_14 : decode prog_3_method_3_code 14 = .ok (.new 40, 3) := by decide +kernel
theorem d10_17 : decode prog_3_method_3_code 17 = .ok (.dup, 1) := by decide +kernel
theorem d10_18 : decode prog_3_method_3_code 18 = .ok (.invokespecial 42, 3) := by decide +kernel
theorem d10_21 : decode prog_3_method_3_code 21 = .ok (.aload_n 0, 1) := by decide +kernel
theorem d10_22 : decode prog_3_method_3_code 22 = .ok (.getfield 7, 3) := by decide +kernel
theorem d10_25 : decode prog_3_method_3_code 25 = .ok (.invokevirtual 45, 3) := by decide +kernel
theorem pd_26 : parseMethodDescriptor "(Ljava/lang/String;)Ljava/lang/StringBuilder;" = some ⟨[(.object "java/lang/String")], some (.object "java/lang/StringBuilder")⟩ := by decide +kernel
theorem d10_28 : decode prog_3_method_3_code 28 = .ok (.ldc 64, 2) := by decide +kernel
theorem d10_30 : decode prog_3_method_3_code 30 = .ok (.invokevirtual 45, 3) := by decide +kernel
theorem d10_33 : decode prog_3_method_3_code 33 = .ok (.aload_n 0, 1) := by decide +kernel
theorem d10_34 : decode prog_3_method_3_code 34 = .ok (.getfield 13, 3) := by decide +kernel
theorem d10_37 : decode prog_3_method_3_code 37 = .ok (.invokevirtual 45, 3) := by decide +kernel
theorem d10_40 : decode prog_3_method_3_code 40 = .ok (.invokevirtual 51, 3) := by decide +kernel
theorem pd_27 : parseMethodDescriptor "()Ljava/lang/String;" = some ⟨[], some (.object "java/lang/String")⟩ := by decide +kernel
theorem d10_43 : decode prog_3_method_3_code 43 = .ok (.areturn, 1) := by decide +kernel
theorem ef_sf_str (m : MethodId) (x0 : Addr) : entryFrame m #[(.ref x0)] 1 = mkF m 0 #[.val (.ref x0)] [] := by first | (simp [entryFrame, mkF, argsToLocals, Value.category]; done) | rfl | (simp [entryFrame, mkF, argsToLocals, own_catI, own_catR, *]; done)
def Q_sf_str (Z : State) (ca : Addr) (sa : Addr) (sb : Addr) (sk : ClassId) (scs : List Int32) (ta : Addr) (tb_ : Addr) (tk : ClassId) (tcs : List Int32) (cps : Int32) (h0 : Heap) (n0 : Nat) (v : Option Value) (h : Heap) (L : List Loc) : Prop := ∃ (ra : Addr), ∃ (rb : Addr), ∃ (rk : ClassId), v = some (.ref ra) ∧ Fr n0 L ∧ Keep h0 h [] ∧ Exa Z h ra "java/lang/String" ∧ Fld Z h ra "java/lang/String" "coder" "B" (.int (0 : Int32)) ∧ Fld Z h ra "java/lang/String" "value" "[B" (.ref rb) ∧ Arv Z h rb rk .byte (own_ln (((([] : List Int32) ++ scs) ++ [(47 : Int32)]) ++ tcs)) ((((([] : List Int32) ++ scs) ++ [(47 : Int32)]) ++ tcs).map Value.int) (.int (0 : Int32)) ∧ (h0.size ≤ ra)
set_option maxRecDepth 65536 in
set_option maxHeartbeats 40000000 in
theorem sf_str (l : Launch) (Z : State) (a0 : Array Value) (hw : ∀ d ∈ tables_1, d.before a0 Z = true) (ws : List Jvm.Cond) (ca : Addr) (sa : Addr) (sb : Addr) (sk : ClassId) (scs : List Int32) (ta : Addr) (tb_ : Addr) (tk : ClassId) (tcs : List Int32) (cps : Int32) (h0 : Heap) (n0 : Nat) (Z0 : n0 ≤ h0.size) (F0_ca_component : Fld Z h0 ca "com/example/profile_to_target/profiletotarget/SfrId" "component" "Ljava/lang/String;" (.ref sa)) (F1_ca_iteration : Fld Z h0 ca "com/example/profile_to_target/profiletotarget/SfrId" "iteration" "Ljava/lang/String;" (.ref ta)) (F2_sa : Exa Z h0 sa "java/lang/String") (F3_sa_coder : Fld Z h0 sa "java/lang/String" "coder" "B" (.int (0 : Int32))) (F4_sa_value : Fld Z h0 sa "java/lang/String" "value" "[B" (.ref sb)) (F5_sb : Arv Z h0 sb sk .byte (own_ln scs) (scs.map Value.int) (.int (0 : Int32))) (F6_ta : Exa Z h0 ta "java/lang/String") (F7_ta_coder : Fld Z h0 ta "java/lang/String" "coder" "B" (.int (0 : Int32))) (F8_ta_value : Fld Z h0 ta "java/lang/String" "value" "[B" (.ref tb_)) (F9_tb_ : Arv Z h0 tb_ tk .byte (own_ln tcs) (tcs.map Value.int) (.int (0 : Int32))) (F10_java_lang_String : Sta Z Z.heap "java/lang/String" "COMPACT_STRINGS" "Z" (.int cps)) (F11_ : Old Z n0 h0) (hcps : ¬ (cps = (0 : Int32))) (hs1 : scs.length ≤ 3) (hs2 : tcs.length ≤ 3) :
    MetFree l (⟨"com/example/profile_to_target/profiletotarget/SfrId", "toString", "()Ljava/lang/String;"⟩ : MethodName) (head1 (Jvm.Cond.code (⟨"com/example/profile_to_target/profiletotarget/SfrId", "toString", "()Ljava/lang/String;"⟩ : MethodName) prog_3_method_3_code 1 (some (.object "java/lang/String")) :: ws) ({ frames := 6, cells := 6, slots := 48, locals := 113 } : Room)) (fun a U => a = #[(.ref ca)] ∧ Z.Warmed39 U.vm ∧ U.heap = h0 ∧ CHv Z own_EL U.vm h0 ∧ ∀ x ∈ ([] : List Addr), Safe Z own_EL U.vm h0 x) (fun _ _ _ _ _ => True) (fun _ U o U' => ∃ v L, o = .returned v ∧ Q_sf_str Z ca sa sb sk scs ta tb_ tk tcs cps h0 n0 v U'.heap L ∧ CHr Z own_EL U.vm U.heap U'.vm U'.heap ∧ ReturnedEndW U o U' L ({ frames := 6, cells := 6, slots := 48, locals := 113 } : Room).cells ({ frames := 6, cells := 6, slots := 48, locals := 113 } : Room).slots) := by
  refine MetFree.of_bodySF (plainFor_of_name pn_9) hisR ?_
  intro p e s m args below meth c s₁ Bd hml0 hP hK
  obtain ⟨rfl, hZ, hh, hCH, hSF⟩ := hP
  have hx := Bd.exec
  have hby := Bd.bytes
  have hml : c.maxLocals = 1 := hml0
  have hown : s.vm.findClass "com/example/profile_to_target/profiletotarget/SfrId" = some m.cls := findClass_of_methodNamed Bd.named
  have hnm := (name_of_methodNamed Bd.named Bd.method).1
  have X0 : Stand p l e ({ frames := 6, cells := 6, slots := 48, locals := 113 } : Room) (s.setVm s.vm) m #[(.ref ca)] below meth c s₁ [] 0 0 := Stand.of_body Bd
  have e0 : s₁.heap = h0 := by rw [← hh, Bd.state]; rfl
  have N0 := Fr.nil n0
  have hS0 : s.Since s.vm 0 := (State.WarmedH.refl s).since 0
  have hk0 : 0 ≤ h0.size := Nat.zero_le _
  have hEL := own_ew hw
  have CR0 : CHr Z own_EL s.vm h0 s.vm h0 := CHr.refl hCH
  obtain ⟨G, hG⟩ : ∃ G : State → Prop, G = (fun U' => ∃ o, U'.status = .running ∧ Ended U' below o ∧ ∃ v L, o = .returned v ∧ Q_sf_str Z ca sa sb sk scs ta tb_ tk tcs cps h0 n0 v U'.heap L ∧ CHr Z own_EL s.vm s.heap U'.vm U'.heap ∧ ReturnedEndW s o U' L ({ frames := 6, cells := 6, slots := 48, locals := 113 } : Room).cells ({ frames := 6, cells := 6, slots := 48, locals := 113 } : Room).slots) := ⟨_, rfl⟩
  suffices key : Gl p.tables e below s₁ (mkF m 0 #[.val (.ref ca)] []) G by
    obtain ⟨s₂, k1, k2⟩ := key
    rw [hG] at k2
    obtain ⟨o, k3, k4, k5⟩ := k2
    exact ⟨s₂, o, castTop (ef_sf_str m ca) k1, k3, k4, k5⟩
  show Gl p.tables e below s₁ (mkF m 0 #[.val (.ref ca)] []) G
  refine Gl.via (fun _ k => XS.aloadN X0.here hx rfl (hb hby d10_0) rfl rfl k) ?_
  show Gl p.tables e below s₁ (mkF m 1 #[.val (.ref ca)] [(.ref ca)]) G
  obtain ⟨T1, X1, e1, st1⟩ := getF X0 hx hZ hown (host := "") (Or.inl (hw _ (List.mem_of_getElem? (i := 48) rfl))) Via.refl e0 F1_ca_iteration (g := (mkF m 1 #[.val (.ref ca)] [(.ref ca)])) rfl rfl (hb hby d10_1)
  refine Gl.via st1 ?_
  show Gl p.tables e below T1 (mkF m 4 #[.val (.ref ca)] [(.ref ta)]) G
  refine Gl.via (fun _ k => XS.ifnonnullYes X1.here hx rfl (pc0 := 4) (pc' := 14) rfl (hb hby d10_4) rfl (by decide) (by decide) k) ?_
  show Gl p.tables e below T1 (mkF m 14 #[.val (.ref ca)] []) G
  obtain ⟨T2, h2, X2, e2, E2, A2, D2, -, st2⟩ := newO X1 hx hZ hown (hw _ (List.mem_of_getElem? (i := 77) rfl)) (hw _ (List.mem_of_getElem? (i := 78) rfl)) (hw _ (List.mem_of_getElem? (i := 79) rfl)) e1 (g := (mkF m 14 #[.val (.ref ca)] [])) rfl (hb hby d10_14) (by decide) (by decide)
  obtain ⟨b2, g2⟩ : ∃ z, z = h0.size := ⟨_, rfl⟩
  rw [← g2] at A2 D2 st2
  have ne3 : ca ≠ b2 := Nat.ne_of_lt (Nat.lt_of_lt_of_le F0_ca_component.lt (Nat.le_of_eq g2.symm))
  have ne4 : sa ≠ b2 := Nat.ne_of_lt (Nat.lt_of_lt_of_le F2_sa.lt (Nat.le_of_eq g2.symm))
  have ne5 : sb ≠ b2 := Nat.ne_of_lt (Nat.lt_of_lt_of_le F5_sb.lt (Nat.le_of_eq g2.symm))
  have ne6 : ta ≠ b2 := Nat.ne_of_lt (Nat.lt_of_lt_of_le F6_ta.lt (Nat.le_of_eq g2.symm))
  have ne7 : tb_ ≠ b2 := Nat.ne_of_lt (Nat.lt_of_lt_of_le F9_tb_.lt (Nat.le_of_eq g2.symm))
  have ge8 : n0 ≤ b2 := Nat.le_trans Z0 (Nat.le_of_eq g2.symm)
  have gz9 : h0.size ≤ b2 := Nat.le_trans (Nat.le_refl h0.size) (Nat.le_of_eq g2.symm)
  have CR10 : CHr Z own_EL s.vm h0 s.vm h2 := CHr.trans CR0 (CHr.ext E2 CR0.1)
  have SF11 : Safe Z own_EL s.vm h2 b2 := Safe.ext E2 CR0.1 (Safe.new (Nat.le_of_eq g2.symm))
  refine Gl.via st2 ?_
  have Z12 : n0 ≤ h2.size := Nat.le_trans Z0 E2.1
  have Y13 : h0.size ≤ h2.size := Nat.le_trans (Nat.le_refl h0.size) E2.1
  have hl14 := Nat.le_trans hk0 E2.1
  have F15 : Fld Z h2 b2 "java/lang/AbstractStringBuilder" "value" "[B" .null := D2 (Or.inl (hw _ (List.mem_of_getElem? (i := 92) rfl))) (ty := (.array .byte)) (by decide)
  have F16 : Fld Z h2 b2 "java/lang/AbstractStringBuilder" "coder" "B" (.int (0 : Int32)) := D2 (Or.inl (hw _ (List.mem_of_getElem? (i := 94) rfl))) (ty := .byte) (by decide)
  have F17 : Fld Z h2 b2 "java/lang/AbstractStringBuilder" "count" "I" (.int (0 : Int32)) := D2 (Or.inl (hw _ (List.mem_of_getElem? (i := 116) rfl))) (ty := .int) (by decide)
  show Gl p.tables e below T2 (mkF m 17 #[.val (.ref ca)] [(.ref b2)]) G
  refine Gl.via (fun _ k => XS.dup X2.here hx rfl (hb hby d10_17) rfl rfl k) ?_
  show Gl p.tables e below T2 (mkF m 18 #[.val (.ref ca)] [(.ref b2), (.ref b2)]) G
  have G19 : Old Z n0 h2 := (F11_.ext E2)
  obtain ⟨_, _, ⟨T18, L18, k18, n18⟩, -, X18, ⟨Lc18, hQ18, l18, y18, z18⟩, st18⟩ := X2.specialBack hx (y := (⟨"java/lang/StringBuilder", "<init>", "()V"⟩ : MethodName)) rfl hown (mvT hZ (hw _ (List.mem_of_getElem? (i := 80) rfl))) (mvT hZ (hw _ (List.mem_of_getElem? (i := 81) rfl))) (mvT hZ (hw _ (List.mem_of_getElem? (i := 82) rfl))) (by decide) (backOf (W := 1) (sb_init l Z a0 hw [] b2 .null (.int (0 : Int32)) cps h2 n0 Z12 A2 F15 F16 F17 F10_java_lang_String G19 ge8 hcps) hZ (hw _ (List.mem_of_getElem? (i := 82) rfl)) (hw _ (List.mem_of_getElem? (i := 79) rfl)) (by decide) (by decide)) (g := (mkF m 18 #[.val (.ref ca)] [(.ref b2), (.ref b2)])) rfl (by rw [hml]; rfl) (Steps.refl _) (a := b2) (argsL := []) (rest := [(.ref b2)]) (lenOf pd_25 rfl) rfl (by show 2 * 0 + _ ≤ _; exact Nat.le_of_eq rfl) (hb hby d10_18) (fun _ _ => ⟨rfl, e2, (by decide : 1 + 1 ≤ _), (by decide : 4 + 16 ≤ _)⟩)
  dsimp only [Pt.U, Pt.locs, Pt.cells, Pt.slots] at X18 l18 y18 z18 st18 hQ18
  subst l18 y18 z18
  obtain ⟨bv_18, bk_18, rfl, N18q, K18, P20, P21, P22, P23, P24, R25⟩ := hQ18
  have N18_ := Fr.app N0 N18q
  refine Gl.via (fun _ k => st18.trans k) ?_
  have G26 : Fld Z h2 ca "com/example/profile_to_target/profiletotarget/SfrId" "component" "Ljava/lang/String;" (.ref sa) := (F0_ca_component.ext E2)
  have ne27 : ca ≠ bv_18 := Nat.ne_of_lt (Nat.lt_of_lt_of_le G26.lt R25)
  have G28 : Exa Z h2 sa "java/lang/String" := (F2_sa.ext E2)
  have ne29 : sa ≠ bv_18 := Nat.ne_of_lt (Nat.lt_of_lt_of_le G28.lt R25)
  have G30 : Arv Z h2 sb sk .byte (own_ln scs) (scs.map Value.int) (.int (0 : Int32)) := (F5_sb.ext E2)
  have ne31 : sb ≠ bv_18 := Nat.ne_of_lt (Nat.lt_of_lt_of_le G30.lt R25)
  have G32 : Exa Z h2 ta "java/lang/String" := (F6_ta.ext E2)
  have ne33 : ta ≠ bv_18 := Nat.ne_of_lt (Nat.lt_of_lt_of_le G32.lt R25)
  have G34 : Arv Z h2 tb_ tk .byte (own_ln tcs) (tcs.map Value.int) (.int (0 : Int32)) := (F9_tb_.ext E2)
  have ne35 : tb_ ≠ bv_18 := Nat.ne_of_lt (Nat.lt_of_lt_of_le G34.lt R25)
  have ne36 : b2 ≠ bv_18 := Nat.ne_of_lt (Nat.lt_of_lt_of_le A2.lt R25)
  have ge37 : n0 ≤ bv_18 := Nat.le_trans Z12 R25
  have gz38 : h0.size ≤ bv_18 := Nat.le_trans Y13 R25
  have CR39 : CHr Z own_EL s.vm h0 s.vm T18.heap := CHr.trans CR10 (CHr.keep K18 (sfS SF11 sf0) CR10.1)
  have SF40 : Safe Z own_EL s.vm T18.heap b2 := Safe.keep K18 (sfS SF11 sf0) CR10.1 SF11
  have SF41 : Safe Z own_EL s.vm T18.heap bv_18 := Safe.keep K18 (sfS SF11 sf0) CR10.1 (Safe.new R25)
  have Z42 : n0 ≤ T18.heap.size := Nat.le_trans Z12 K18.1
  have Y43 : h0.size ≤ T18.heap.size := Nat.le_trans Y13 K18.1
  have hl44 := Nat.le_trans hl14 K18.1
  show Gl p.tables e below T18 (mkF m 21 #[.val (.ref ca)] [(.ref b2)]) G
  refine Gl.via (fun _ k => XS.aloadN X18.here hx rfl (hb hby d10_21) rfl rfl k) ?_
  show Gl p.tables e below T18 (mkF m 22 #[.val (.ref ca)] [(.ref ca), (.ref b2)]) G
  have G45 : Fld Z T18.heap ca "com/example/profile_to_target/profiletotarget/SfrId" "component" "Ljava/lang/String;" (.ref sa) := (G26.keep K18 (ninS ne3 nin0))
  obtain ⟨T46, X46, e46, st46⟩ := getF X18 hx hZ hown (host := "") (Or.inl (hw _ (List.mem_of_getElem? (i := 46) rfl))) Via.refl rfl G45 (g := (mkF m 22 #[.val (.ref ca)] [(.ref ca), (.ref b2)])) rfl rfl (hb hby d10_22)
  refine Gl.via st46 ?_
  show Gl p.tables e below T46 (mkF m 25 #[.val (.ref ca)] [(.ref sa), (.ref b2)]) G
  have G48 : Exa Z T18.heap sa "java/lang/String" := (G28.keep K18)
  have G49 : Fld Z T18.heap sa "java/lang/String" "coder" "B" (.int (0 : Int32)) := ((F3_sa_coder.ext E2).keep K18 (ninS ne4 nin0))
  have G50 : Fld Z T18.heap sa "java/lang/String" "value" "[B" (.ref sb) := ((F4_sa_value.ext E2).keep K18 (ninS ne4 nin0))
  have G51 : Arv Z T18.heap sb sk .byte (own_ln scs) (scs.map Value.int) (.int (0 : Int32)) := (G30.keep K18 (ninS ne5 nin0))
  have G52 : Old Z n0 T18.heap := (G19.keep K18 (allS ge8 all0))
  obtain ⟨cq47, kq47, q47a, q47b, q47c⟩ := isOf hZ e46 P20
  obtain ⟨_, _, ⟨T47, L47, k47, n47⟩, -, X47, ⟨Lc47, hQ47, l47, y47, z47⟩, st47⟩ := X46.virtualBack hx (y := (⟨"java/lang/StringBuilder", "append", "(Ljava/lang/String;)Ljava/lang/StringBuilder;"⟩ : MethodName)) (z := (⟨"java/lang/StringBuilder", "append", "(Ljava/lang/String;)Ljava/lang/StringBuilder;"⟩ : MethodName)) hown (mvT hZ (hw _ (List.mem_of_getElem? (i := 95) rfl))) (mvT hZ (hw _ (List.mem_of_getElem? (i := 96) rfl))) (notFace_of_selects (args := #[]) (mvT hZ (hw _ (List.mem_of_getElem? (i := 98) rfl)))) (mvT hZ (hw _ (List.mem_of_getElem? (i := 98) rfl))) (mvT hZ (hw _ (List.mem_of_getElem? (i := 97) rfl))) (by decide) (backOf (W := 0) (sb_app l Z a0 hw [] b2 bv_18 bk_18 ([] : List Int32) sa sb sk scs cps T18.heap n0 Z42 P20 P21 P22 P23 P24 G48 G49 G50 G51 F10_java_lang_String G52 hcps (show 0 + scs.length ≤ 16 by omega) ne31 ge37 ge8 ne36 (Ne.symm ne5) (Ne.symm ne4)) hZ (hw _ (List.mem_of_getElem? (i := 99) rfl)) (hw _ (List.mem_of_getElem? (i := 79) rfl)) (by decide) (by decide)) q47a q47c (g := (mkF m 25 #[.val (.ref ca)] [(.ref sa), (.ref b2)])) rfl (by rw [hml]; rfl) (Steps.refl _) (argsL := [(.ref sa)]) (rest := []) (lenOf pd_26 rfl) rfl (by show 2 * 0 + _ ≤ _; exact Nat.le_of_eq rfl) (hb hby d10_25) (fun _ _ => ⟨rfl, e46, (by decide : 2 + 0 ≤ _), (by decide : 20 + 0 ≤ _)⟩)
  dsimp only [Pt.U, Pt.locs, Pt.cells, Pt.slots] at X47 l47 y47 z47 st47 hQ47
  subst l47 y47 z47
  obtain ⟨rfl, N47q, K47, P53, P54, P55, P56, P57⟩ := hQ47
  have N47_ := Fr.app N18_ N47q
  refine Gl.via (fun _ k => st47.trans k) ?_
  have CR58 : CHr Z own_EL s.vm h0 s.vm T47.heap := CHr.trans CR39 (CHr.keep K47 (sfS SF40 (sfS SF41 sf0)) CR39.1)
  have SF59 : Safe Z own_EL s.vm T47.heap b2 := Safe.keep K47 (sfS SF40 (sfS SF41 sf0)) CR39.1 SF40
  have SF60 : Safe Z own_EL s.vm T47.heap bv_18 := Safe.keep K47 (sfS SF40 (sfS SF41 sf0)) CR39.1 SF41
  have Z61 : n0 ≤ T47.heap.size := Nat.le_trans Z42 K47.1
  have Y62 : h0.size ≤ T47.heap.size := Nat.le_trans Y43 K47.1
  have hl63 := Nat.le_trans hl44 K47.1
  show Gl p.tables e below T47 (mkF m 28 #[.val (.ref ca)] [(.ref b2)]) G
  obtain ⟨a64, T64, h64, k64, b64, c64, X64, e64, E64, hS64, hk64, hZ64, hown64, P64a, P64c, P64v, P64r, la64, lb64, hC64, -, hsf64, st64⟩ := ldcCH X47 hx hZ hown (hw _ (List.mem_of_getElem? (i := 142) rfl)) (own_wS hw) rfl hS0 hl63 hEL (by decide) CR58.1 (vs := [(.int (47 : Int32))]) (z := (1 : Int32)) ⟨by decide, rfl⟩ (by decide) rfl (g := (mkF m 28 #[.val (.ref ca)] [(.ref b2)])) rfl (hb hby d10_28) (n := 4) (by decide) (by decide) (by decide) (by decide)
  have CR65 : CHr Z own_EL s.vm h0 T64.vm h64 := CHr.trans CR58 hC64
  have SF66 : Safe Z own_EL T64.vm h64 b2 := hC64.safe (by have q := P53.lt; exact q) SF59
  have SF67 : Safe Z own_EL T64.vm h64 bv_18 := hC64.safe (by have q := P57.lt; exact q) SF60
  refine Gl.via st64 ?_
  have Z68 : n0 ≤ h64.size := Nat.le_trans Z61 E64.1
  have Y69 : h0.size ≤ h64.size := Nat.le_trans Y62 E64.1
  have hl70 := Nat.le_trans hl63 E64.1
  have ne71 : b2 ≠ a64 ∧ b2 ≠ b64 := hsf64 b2 SF66
  have ne72 : bv_18 ≠ a64 ∧ bv_18 ≠ b64 := hsf64 bv_18 SF67
  show Gl p.tables e below T64 (mkF m 30 #[.val (.ref ca)] [(.ref a64), (.ref b2)]) G
  have G74 : Exa Z h64 b2 "java/lang/StringBuilder" := (P53.ext E64)
  have G75 : Fld Z h64 b2 "java/lang/AbstractStringBuilder" "value" "[B" (.ref bv_18) := (P54.ext E64)
  have G76 : Fld Z h64 b2 "java/lang/AbstractStringBuilder" "coder" "B" (.int (0 : Int32)) := (P55.ext E64)
  have G77 : Fld Z h64 b2 "java/lang/AbstractStringBuilder" "count" "I" (.int (own_ln (([] : List Int32) ++ scs))) := (P56.ext E64)
  have G78 : Arv Z h64 bv_18 bk_18 .byte (16 : Int32) ((([] : List Int32) ++ scs).map Value.int) (.int (0 : Int32)) := (P57.ext E64)
  have G79 : Old Z n0 h64 := ((G52.keep K47 (allS ge8 (allS ge37 all0))).ext E64)
  obtain ⟨cq73, kq73, q73a, q73b, q73c⟩ := isOf hZ64 e64 G74
  obtain ⟨_, _, ⟨T73, L73, k73, n73⟩, -, X73, ⟨Lc73, hQ73, l73, y73, z73⟩, st73⟩ := X64.virtualBack hx (y := (⟨"java/lang/StringBuilder", "append", "(Ljava/lang/String;)Ljava/lang/StringBuilder;"⟩ : MethodName)) (z := (⟨"java/lang/StringBuilder", "append", "(Ljava/lang/String;)Ljava/lang/StringBuilder;"⟩ : MethodName)) hown64 (mvT hZ64 (hw _ (List.mem_of_getElem? (i := 95) rfl))) (mvT hZ64 (hw _ (List.mem_of_getElem? (i := 96) rfl))) (notFace_of_selects (args := #[]) (mvT hZ64 (hw _ (List.mem_of_getElem? (i := 98) rfl)))) (mvT hZ64 (hw _ (List.mem_of_getElem? (i := 98) rfl))) (mvT hZ64 (hw _ (List.mem_of_getElem? (i := 97) rfl))) (by decide) (backOf (W := 0) (sb_app l Z a0 hw [] b2 bv_18 bk_18 (([] : List Int32) ++ scs) a64 b64 c64 ([(47 : Int32)] : List Int32) cps h64 n0 Z68 G74 G75 G76 G77 G78 P64a P64c P64v P64r F10_java_lang_String G79 hcps (show scs.length + 1 ≤ 16 by omega) (Ne.symm ne72.2) ge37 ge8 ne36 ne71.2 ne71.1) hZ64 (hw _ (List.mem_of_getElem? (i := 99) rfl)) (hw _ (List.mem_of_getElem? (i := 79) rfl)) (by decide) (by decide)) q73a q73c (g := (mkF m 30 #[.val (.ref ca)] [(.ref a64), (.ref b2)])) rfl (by rw [hml]; rfl) (Steps.refl _) (argsL := [(.ref a64)]) (rest := []) (lenOf pd_26 rfl) rfl (by show 2 * 0 + _ ≤ _; exact Nat.le_of_eq rfl) (hb hby d10_30) (fun _ _ => ⟨rfl, e64, (by decide : 4 + 0 ≤ _), (by decide : 28 + 0 ≤ _)⟩)
  dsimp only [Pt.U, Pt.locs, Pt.cells, Pt.slots] at X73 l73 y73 z73 st73 hQ73
  subst l73 y73 z73
  obtain ⟨rfl, N73q, K73, P80, P81, P82, P83, P84⟩ := hQ73
  have N73_ := Fr.app N47_ N73q
  refine Gl.via (fun _ k => st73.trans k) ?_
  have CR85 : CHr Z own_EL s.vm h0 T64.vm T73.heap := CHr.trans CR65 (CHr.keep K73 (sfS SF66 (sfS SF67 sf0)) CR65.1)
  have SF86 : Safe Z own_EL T64.vm T73.heap b2 := Safe.keep K73 (sfS SF66 (sfS SF67 sf0)) CR65.1 SF66
  have SF87 : Safe Z own_EL T64.vm T73.heap bv_18 := Safe.keep K73 (sfS SF66 (sfS SF67 sf0)) CR65.1 SF67
  have Z88 : n0 ≤ T73.heap.size := Nat.le_trans Z68 K73.1
  have Y89 : h0.size ≤ T73.heap.size := Nat.le_trans Y69 K73.1
  have hl90 := Nat.le_trans hk64 K73.1
  show Gl p.tables e below T73 (mkF m 33 #[.val (.ref ca)] [(.ref b2)]) G
  refine Gl.via (fun _ k => XS.aloadN X73.here hx rfl (hb hby d10_33) rfl rfl k) ?_
  show Gl p.tables e below T73 (mkF m 34 #[.val (.ref ca)] [(.ref ca), (.ref b2)]) G
  have G91 : Fld Z T73.heap ca "com/example/profile_to_target/profiletotarget/SfrId" "iteration" "Ljava/lang/String;" (.ref ta) := (((((F1_ca_iteration.ext E2).keep K18 (ninS ne3 nin0)).keep K47 (ninS ne3 (ninS ne27 nin0))).ext E64).keep K73 (ninS ne3 (ninS ne27 nin0)))
  obtain ⟨T92, X92, e92, st92⟩ := getF X73 hx hZ64 hown64 (host := "") (Or.inl (hw _ (List.mem_of_getElem? (i := 48) rfl))) Via.refl rfl G91 (g := (mkF m 34 #[.val (.ref ca)] [(.ref ca), (.ref b2)])) rfl rfl (hb hby d10_34)
  refine Gl.via st92 ?_
  show Gl p.tables e below T92 (mkF m 37 #[.val (.ref ca)] [(.ref ta), (.ref b2)]) G
  have G94 : Exa Z T73.heap ta "java/lang/String" := ((((G32.keep K18).keep K47).ext E64).keep K73)
  have G95 : Fld Z T73.heap ta "java/lang/String" "coder" "B" (.int (0 : Int32)) := (((((F7_ta_coder.ext E2).keep K18 (ninS ne6 nin0)).keep K47 (ninS ne6 (ninS ne33 nin0))).ext E64).keep K73 (ninS ne6 (ninS ne33 nin0)))
  have G96 : Fld Z T73.heap ta "java/lang/String" "value" "[B" (.ref tb_) := (((((F8_ta_value.ext E2).keep K18 (ninS ne6 nin0)).keep K47 (ninS ne6 (ninS ne33 nin0))).ext E64).keep K73 (ninS ne6 (ninS ne33 nin0)))
  have G97 : Arv Z T73.heap tb_ tk .byte (own_ln tcs) (tcs.map Value.int) (.int (0 : Int32)) := ((((G34.keep K18 (ninS ne7 nin0)).keep K47 (ninS ne7 (ninS ne35 nin0))).ext E64).keep K73 (ninS ne7 (ninS ne35 nin0)))
  have G98 : Old Z n0 T73.heap := (G79.keep K73 (allS ge8 (allS ge37 all0)))
  obtain ⟨cq93, kq93, q93a, q93b, q93c⟩ := isOf hZ64 e92 P80
  obtain ⟨_, _, ⟨T93, L93, k93, n93⟩, -, X93, ⟨Lc93, hQ93, l93, y93, z93⟩, st93⟩ := X92.virtualBack hx (y := (⟨"java/lang/StringBuilder", "append", "(Ljava/lang/String;)Ljava/lang/StringBuilder;"⟩ : MethodName)) (z := (⟨"java/lang/StringBuilder", "append", "(Ljava/lang/String;)Ljava/lang/StringBuilder;"⟩ : MethodName)) hown64 (mvT hZ64 (hw _ (List.mem_of_getElem? (i := 95) rfl))) (mvT hZ64 (hw _ (List.mem_of_getElem? (i := 96) rfl))) (notFace_of_selects (args := #[]) (mvT hZ64 (hw _ (List.mem_of_getElem? (i := 98) rfl)))) (mvT hZ64 (hw _ (List.mem_of_getElem? (i := 98) rfl))) (mvT hZ64 (hw _ (List.mem_of_getElem? (i := 97) rfl))) (by decide) (backOf (W := 0) (sb_app l Z a0 hw [] b2 bv_18 bk_18 ((([] : List Int32) ++ scs) ++ ([(47 : Int32)] : List Int32)) ta tb_ tk tcs cps T73.heap n0 Z88 P80 P81 P82 P83 P84 G94 G95 G96 G97 F10_java_lang_String G98 hcps (by simp; omega) ne35 ge37 ge8 ne36 (Ne.symm ne7) (Ne.symm ne6)) hZ64 (hw _ (List.mem_of_getElem? (i := 99) rfl)) (hw _ (List.mem_of_getElem? (i := 79) rfl)) (by decide) (by decide)) q93a q93c (g := (mkF m 37 #[.val (.ref ca)] [(.ref ta), (.ref b2)])) rfl (by rw [hml]; rfl) (Steps.refl _) (argsL := [(.ref ta)]) (rest := []) (lenOf pd_26 rfl) rfl (by show 2 * 0 + _ ≤ _; exact Nat.le_of_eq rfl) (hb hby d10_37) (fun _ _ => ⟨rfl, e92, (by decide : 4 + 0 ≤ _), (by decide : 28 + 0 ≤ _)⟩)
  dsimp only [Pt.U, Pt.locs, Pt.cells, Pt.slots] at X93 l93 y93 z93 st93 hQ93
  subst l93 y93 z93
  obtain ⟨rfl, N93q, K93, P99, P100, P101, P102, P103⟩ := hQ93
  have N93_ := Fr.app N73_ N93q
  refine Gl.via (fun _ k => st93.trans k) ?_
  have CR104 : CHr Z own_EL s.vm h0 T64.vm T93.heap := CHr.trans CR85 (CHr.keep K93 (sfS SF86 (sfS SF87 sf0)) CR85.1)
  have SF105 : Safe Z own_EL T64.vm T93.heap b2 := Safe.keep K93 (sfS SF86 (sfS SF87 sf0)) CR85.1 SF86
  have SF106 : Safe Z own_EL T64.vm T93.heap bv_18 := Safe.keep K93 (sfS SF86 (sfS SF87 sf0)) CR85.1 SF87
  have Z107 : n0 ≤ T93.heap.size := Nat.le_trans Z88 K93.1
  have Y108 : h0.size ≤ T93.heap.size := Nat.le_trans Y89 K93.1
  have hl109 := Nat.le_trans hl90 K93.1
  show Gl p.tables e below T93 (mkF m 40 #[.val (.ref ca)] [(.ref b2)]) G
  have G111 : Old Z n0 T93.heap := (G98.keep K93 (allS ge8 (allS ge37 all0)))
  obtain ⟨cq110, kq110, q110a, q110b, q110c⟩ := isOf hZ64 rfl P99
  obtain ⟨_, _, ⟨T110, L110, k110, n110⟩, -, X110, ⟨Lc110, hQ110, l110, y110, z110⟩, st110⟩ := X93.virtualBack hx (y := (⟨"java/lang/StringBuilder", "toString", "()Ljava/lang/String;"⟩ : MethodName)) (z := (⟨"java/lang/StringBuilder", "toString", "()Ljava/lang/String;"⟩ : MethodName)) hown64 (mvT hZ64 (hw _ (List.mem_of_getElem? (i := 143) rfl))) (mvT hZ64 (hw _ (List.mem_of_getElem? (i := 144) rfl))) (notFace_of_selects (args := #[]) (mvT hZ64 (hw _ (List.mem_of_getElem? (i := 146) rfl)))) (mvT hZ64 (hw _ (List.mem_of_getElem? (i := 146) rfl))) (mvT hZ64 (hw _ (List.mem_of_getElem? (i := 145) rfl))) (by decide) (backOf (W := 0) (sb_str l Z a0 hw [] b2 bv_18 bk_18 (((([] : List Int32) ++ scs) ++ ([(47 : Int32)] : List Int32)) ++ tcs) cps T93.heap n0 Z107 P99 P100 P101 P102 P103 F10_java_lang_String G111 hcps (by simp; omega)) hZ64 (hw _ (List.mem_of_getElem? (i := 147) rfl)) (hw _ (List.mem_of_getElem? (i := 79) rfl)) (by decide) (by decide)) q110a q110c (g := (mkF m 40 #[.val (.ref ca)] [(.ref b2)])) rfl (by rw [hml]; rfl) (Steps.refl _) (argsL := []) (rest := []) (lenOf pd_27 rfl) rfl (by show 2 * 0 + _ ≤ _; exact Nat.le_of_eq rfl) (hb hby d10_40) (fun _ _ => ⟨rfl, rfl, (by decide : 4 + 2 ≤ _), (by decide : 28 + 20 ≤ _)⟩)
  dsimp only [Pt.U, Pt.locs, Pt.cells, Pt.slots] at X110 l110 y110 z110 st110 hQ110
  subst l110 y110 z110
  obtain ⟨sa_110, sb_110, sk_110, rfl, N110q, K110, P112, P113, P114, P115, R116⟩ := hQ110
  have N110_ := Fr.app N93_ N110q
  refine Gl.via (fun _ k => st110.trans k) ?_
  have G117 : Fld Z T93.heap ca "com/example/profile_to_target/profiletotarget/SfrId" "component" "Ljava/lang/String;" (.ref sa) := ((((G45.keep K47 (ninS ne3 (ninS ne27 nin0))).ext E64).keep K73 (ninS ne3 (ninS ne27 nin0))).keep K93 (ninS ne3 (ninS ne27 nin0)))
  have ne118 : ca ≠ sa_110 := Nat.ne_of_lt (Nat.lt_of_lt_of_le G117.lt R116)
  have G119 : Exa Z T93.heap sa "java/lang/String" := ((((G48.keep K47).ext E64).keep K73).keep K93)
  have ne120 : sa ≠ sa_110 := Nat.ne_of_lt (Nat.lt_of_lt_of_le G119.lt R116)
  have G121 : Arv Z T93.heap sb sk .byte (own_ln scs) (scs.map Value.int) (.int (0 : Int32)) := ((((G51.keep K47 (ninS ne5 (ninS ne31 nin0))).ext E64).keep K73 (ninS ne5 (ninS ne31 nin0))).keep K93 (ninS ne5 (ninS ne31 nin0)))
  have ne122 : sb ≠ sa_110 := Nat.ne_of_lt (Nat.lt_of_lt_of_le G121.lt R116)
  have G123 : Exa Z T93.heap ta "java/lang/String" := (G94.keep K93)
  have ne124 : ta ≠ sa_110 := Nat.ne_of_lt (Nat.lt_of_lt_of_le G123.lt R116)
  have G125 : Arv Z T93.heap tb_ tk .byte (own_ln tcs) (tcs.map Value.int) (.int (0 : Int32)) := (G97.keep K93 (ninS ne7 (ninS ne35 nin0)))
  have ne126 : tb_ ≠ sa_110 := Nat.ne_of_lt (Nat.lt_of_lt_of_le G125.lt R116)
  have ne127 : b2 ≠ sa_110 := Nat.ne_of_lt (Nat.lt_of_lt_of_le P99.lt R116)
  have ne128 : bv_18 ≠ sa_110 := Nat.ne_of_lt (Nat.lt_of_lt_of_le P103.lt R116)
  have G129 : Exa Z T93.heap a64 "java/lang/String" := ((P64a.keep K73).keep K93)
  have ne130 : a64 ≠ sa_110 := Nat.ne_of_lt (Nat.lt_of_lt_of_le G129.lt R116)
  have G131 : Arv Z T93.heap b64 c64 .byte (1 : Int32) [(.int (47 : Int32))] (.int (0 : Int32)) := ((P64r.keep K73 (ninS (Ne.symm ne71.2) (ninS (Ne.symm ne72.2) nin0))).keep K93 (ninS (Ne.symm ne71.2) (ninS (Ne.symm ne72.2) nin0)))
  have ne132 : b64 ≠ sa_110 := Nat.ne_of_lt (Nat.lt_of_lt_of_le G131.lt R116)
  have ge133 : n0 ≤ sa_110 := Nat.le_trans Z107 R116
  have gz134 : h0.size ≤ sa_110 := Nat.le_trans Y108 R116
  have CR135 : CHr Z own_EL s.vm h0 T64.vm T110.heap := CHr.trans CR104 (CHr.keep K110 sf0 CR104.1)
  have SF136 : Safe Z own_EL T64.vm T110.heap b2 := Safe.keep K110 sf0 CR104.1 SF105
  have SF137 : Safe Z own_EL T64.vm T110.heap bv_18 := Safe.keep K110 sf0 CR104.1 SF106
  have SF138 : Safe Z own_EL T64.vm T110.heap sa_110 := Safe.keep K110 sf0 CR104.1 (Safe.new R116)
  have Z139 : n0 ≤ T110.heap.size := Nat.le_trans Z107 K110.1
  have Y140 : h0.size ≤ T110.heap.size := Nat.le_trans Y108 K110.1
  have hl141 := Nat.le_trans hl109 K110.1
  show Gl p.tables e below T110 (mkF m 43 #[.val (.ref ca)] [(.ref sa_110)]) G
  obtain ⟨fs, hr, hrun, hended, hRW⟩ := X110.leaveW hS64 hl141 (v := some (.ref sa_110)) (fun h => by rw [Bd.returns] at h; cases h)
  have hq : ∀ L, Fr n0 L → Q_sf_str Z ca sa sb sk scs ta tb_ tk tcs cps h0 n0 (some (.ref sa_110)) T110.heap L := by
    intro L hN
    exact ⟨sa_110, sb_110, sk_110, rfl, hN, ((((((((Keep.refl h0 []).ext E2).trans K18 (allS (Or.inr gz9) all0)).trans K47 (allS (Or.inr gz9) (allS (Or.inr gz38) all0))).ext E64).trans K73 (allS (Or.inr gz9) (allS (Or.inr gz38) all0))).trans K93 (allS (Or.inr gz9) (allS (Or.inr gz38) all0))).trans K110 all0), P112, P113, P114, P115, gz134⟩
  have hc : CHr Z own_EL s.vm s.heap T110.vm T110.heap := by
    rw [hh]
    exact CHr.trans CR135 (CHv.at X110 hZ64 hEL CR135.1)
  rw [hG]
  exact Gl.fin (retOut X110 hx Bd.returns rfl (Or.inr (Or.inr (Or.inr (Or.inr ⟨rfl, rfl, rfl⟩)))) (hb hby d10_43) hr) ⟨_, hrun, hended, _, _, rfl, hq _ N110_, hc, ⟨hRW.1, hRW.2.1, hRW.2.2.1, hRW.2.2.2.mono (by decide) (by decide)⟩⟩
theorem d10_7 : decode prog_3_method_3_code 7 = .ok (.aload_n 0, 1) := by decide +kernel
theorem d10_8 : decode prog_3_method_3_code 8 = .ok (.getfield 7, 3) := by decide +kernel
theorem d10_11 : decode prog_3_method_3_code 11 = .ok (.goto 32, 3) := by decide +kernel
theorem ef_sf_str0 (m : MethodId) (x0 : Addr) : entryFrame m #[(.ref x0)] 1 = mkF m 0 #[.val (.ref x0)] [] := by first | (simp [entryFrame, mkF, argsToLocals, Value.category]; done) | rfl | (simp [entryFrame, mkF, argsToLocals, own_catI, own_catR, *]; done)
def Q_sf_str0 (Z : State) (ca : Addr) (sa : Addr) (h0 : Heap) (n0 : Nat) (v : Option Value) (h : Heap) (L : List Loc) : Prop := v = some (.ref sa) ∧ Fr n0 L ∧ h = h0
set_option maxRecDepth 65536 in
set_option maxHeartbeats 40000000 in
theorem sf_str0 (l : Launch) (Z : State) (a0 : Array Value) (hw : ∀ d ∈ tables_1, d.before a0 Z = true) (ws : List Jvm.Cond) (ca : Addr) (sa : Addr) (h0 : Heap) (n0 : Nat) (Z0 : n0 ≤ h0.size) (F0_ca_component : Fld Z h0 ca "com/example/profile_to_target/profiletotarget/SfrId" "component" "Ljava/lang/String;" (.ref sa)) (F1_ca_iteration : Fld Z h0 ca "com/example/profile_to_target/profiletotarget/SfrId" "iteration" "Ljava/lang/String;" .null) :
    MetFree l (⟨"com/example/profile_to_target/profiletotarget/SfrId", "toString", "()Ljava/lang/String;"⟩ : MethodName) (head1 (Jvm.Cond.code (⟨"com/example/profile_to_target/profiletotarget/SfrId", "toString", "()Ljava/lang/String;"⟩ : MethodName) prog_3_method_3_code 1 (some (.object "java/lang/String")) :: ws) ({ frames := 0, cells := 0, slots := 0, locals := 0 } : Room)) (fun a U => a = #[(.ref ca)] ∧ Z.Warmed39 U.vm ∧ U.heap = h0) (fun _ _ _ _ _ => True) (fun _ U o U' => ∃ v L, o = .returned v ∧ Q_sf_str0 Z ca sa h0 n0 v U'.heap L ∧ FrameEnd U o U' L ({ frames := 0, cells := 0, slots := 0, locals := 0 } : Room).cells ({ frames := 0, cells := 0, slots := 0, locals := 0 } : Room).slots) := by
  refine MetFree.of_bodySF (plainFor_of_name pn_9) hisR ?_
  intro p e s m args below meth c s₁ Bd hml0 hP hK
  obtain ⟨rfl, hZ, hh⟩ := hP
  have hx := Bd.exec
  have hby := Bd.bytes
  have hml : c.maxLocals = 1 := hml0
  have hown : s.vm.findClass "com/example/profile_to_target/profiletotarget/SfrId" = some m.cls := findClass_of_methodNamed Bd.named
  have hnm := (name_of_methodNamed Bd.named Bd.method).1
  have X0 : Stand p l e ({ frames := 0, cells := 0, slots := 0, locals := 0 } : Room) s m #[(.ref ca)] below meth c s₁ [] 0 0 := Stand.of_body Bd
  have e0 : s₁.heap = h0 := by rw [← hh, Bd.state]; rfl
  have N0 := Fr.nil n0
  obtain ⟨G, hG⟩ : ∃ G : State → Prop, G = (fun U' => ∃ o, U'.status = .running ∧ Ended U' below o ∧ ∃ v L, o = .returned v ∧ Q_sf_str0 Z ca sa h0 n0 v U'.heap L ∧ FrameEnd s o U' L ({ frames := 0, cells := 0, slots := 0, locals := 0 } : Room).cells ({ frames := 0, cells := 0, slots := 0, locals := 0 } : Room).slots) := ⟨_, rfl⟩
  suffices key : Gl p.tables e below s₁ (mkF m 0 #[.val (.ref ca)] []) G by
    obtain ⟨s₂, k1, k2⟩ := key
    rw [hG] at k2
    obtain ⟨o, k3, k4, k5⟩ := k2
    exact ⟨s₂, o, castTop (ef_sf_str0 m ca) k1, k3, k4, k5⟩
  show Gl p.tables e below s₁ (mkF m 0 #[.val (.ref ca)] []) G
  refine Gl.via (fun _ k => XS.aloadN X0.here hx rfl (hb hby d10_0) rfl rfl k) ?_
  show Gl p.tables e below s₁ (mkF m 1 #[.val (.ref ca)] [(.ref ca)]) G
  obtain ⟨T1, X1, e1, st1⟩ := getF X0 hx hZ hown (host := "") (Or.inl (hw _ (List.mem_of_getElem? (i := 48) rfl))) Via.refl e0 F1_ca_iteration (g := (mkF m 1 #[.val (.ref ca)] [(.ref ca)])) rfl rfl (hb hby d10_1)
  refine Gl.via st1 ?_
  show Gl p.tables e below T1 (mkF m 4 #[.val (.ref ca)] [.null]) G
  refine Gl.via (fun _ k => XS.ifnonnullNo X1.here hx rfl (hb hby d10_4) rfl k) ?_
  show Gl p.tables e below T1 (mkF m 7 #[.val (.ref ca)] []) G
  refine Gl.via (fun _ k => XS.aloadN X1.here hx rfl (hb hby d10_7) rfl rfl k) ?_
  show Gl p.tables e below T1 (mkF m 8 #[.val (.ref ca)] [(.ref ca)]) G
  obtain ⟨T2, X2, e2, st2⟩ := getF X1 hx hZ hown (host := "") (Or.inl (hw _ (List.mem_of_getElem? (i := 46) rfl))) Via.refl e1 F0_ca_component (g := (mkF m 8 #[.val (.ref ca)] [(.ref ca)])) rfl rfl (hb hby d10_8)
  refine Gl.via st2 ?_
  show Gl p.tables e below T2 (mkF m 11 #[.val (.ref ca)] [(.ref sa)]) G
  refine Gl.via (fun _ k => XS.goto X2.here hx rfl (pc0 := 11) (pc' := 43) rfl (hb hby d10_11) (by decide) (by decide) k) ?_
  show Gl p.tables e below T2 (mkF m 43 #[.val (.ref ca)] [(.ref sa)]) G
  obtain ⟨fs, hr, hrun, hended, hW, hsame⟩ := X2.leave (v := some (.ref sa)) (fun h => by rw [Bd.returns] at h; cases h)
  have hq : ∀ L, Fr n0 L → Q_sf_str0 Z ca sa h0 n0 (some (.ref sa)) T2.heap L := by
    intro L hN
    rw [e2]
    exact ⟨rfl, hN, rfl⟩
  rw [hG]
  exact Gl.fin (retOut X2 hx Bd.returns rfl (Or.inr (Or.inr (Or.inr (Or.inr ⟨rfl, rfl, rfl⟩)))) (hb hby d10_43) hr) ⟨_, hrun, hended, _, _, rfl, hq _ N0, ⟨_, rfl⟩, hW, hsame.mono (by decide) (by decide)⟩
theorem d11_0 : decode jdk_42_method_66_code 0 = .ok (.aload_n 0, 1) := by decide +kernel
theorem d11_1 : decode jdk_42_method_66_code 1 = .ok (.aload_n 1, 1) := by decide +kernel
theorem d11_2 : decode jdk_42_method_66_code 2 = .ok (.if_acmp .ne 5, 3) := by decide +kernel
theorem d11_5 : decode jdk_42_method_66_code 5 = .ok (.iconst 1, 1) := by decide +kernel
theorem d11_6 : decode jdk_42_method_66_code 6 = .ok (.ireturn, 1) := by decide +kernel
theorem ef_s_eq (m : MethodId) (x0 : Addr) (x1 : Addr) : entryFrame m #[(.ref x0), (.ref x1)] 3 = mkF m 0 #[.val (.ref x0), .val (.ref x1), .unset] [] := by first | (simp [entryFrame, mkF, argsToLocals, Value.category]; done) | rfl | (simp [entryFrame, mkF, argsToLocals, own_catI, own_catR, *]; done)
def Q_s_eq (Z : State) (sa : Addr) (h0 : Heap) (n0 : Nat) (v : Option Value) (h : Heap) (L : List Loc) : Prop := v = some (.int (1 : Int32)) ∧ Fr n0 L ∧ h = h0
set_option maxRecDepth 65536 in
set_option maxHeartbeats 40000000 in
theorem s_eq (l : Launch) (Z : State) (a0 : Array Value) (hw : ∀ d ∈ tables_1, d.before a0 Z = true) (ws : List Jvm.Cond) (sa : Addr) (h0 : Heap) (n0 : Nat) (Z0 : n0 ≤ h0.size) :
    MetFree l (⟨"java/lang/String", "equals", "(Ljava/lang/Object;)Z"⟩ : MethodName) (head1 (Jvm.Cond.code (⟨"java/lang/String", "equals", "(Ljava/lang/Object;)Z"⟩ : MethodName) jdk_42_method_66_code 3 (some .boolean) :: ws) ({ frames := 0, cells := 0, slots := 0, locals := 0 } : Room)) (fun a U => a = #[(.ref sa), (.ref sa)] ∧ Z.Warmed39 U.vm ∧ U.heap = h0) (fun _ _ _ _ _ => True) (fun _ U o U' => ∃ v L, o = .returned v ∧ Q_s_eq Z sa h0 n0 v U'.heap L ∧ FrameEnd U o U' L ({ frames := 0, cells := 0, slots := 0, locals := 0 } : Room).cells ({ frames := 0, cells := 0, slots := 0, locals := 0 } : Room).slots) := by
  refine MetFree.of_bodySF (plainFor_of_name pn_0) hisR ?_
  intro p e s m args below meth c s₁ Bd hml0 hP hK
  obtain ⟨rfl, hZ, hh⟩ := hP
  have hx := Bd.exec
  have hby := Bd.bytes
  have hml : c.maxLocals = 3 := hml0
  have hown : s.vm.findClass "java/lang/String" = some m.cls := findClass_of_methodNamed Bd.named
  have hnm := (name_of_methodNamed Bd.named Bd.method).1
  have X0 : Stand p l e ({ frames := 0, cells := 0, slots := 0, locals := 0 } : Room) s m #[(.ref sa), (.ref sa)] below meth c s₁ [] 0 0 := Stand.of_body Bd
  have e0 : s₁.heap = h0 := by rw [← hh, Bd.state]; rfl
  have N0 := Fr.nil n0
  obtain ⟨G, hG⟩ : ∃ G : State → Prop, G = (fun U' => ∃ o, U'.status = .running ∧ Ended U' below o ∧ ∃ v L, o = .returned v ∧ Q_s_eq Z sa h0 n0 v U'.heap L ∧ FrameEnd s o U' L ({ frames := 0, cells := 0, slots := 0, locals := 0 } : Room).cells ({ frames := 0, cells := 0, slots := 0, locals := 0 } : Room).slots) := ⟨_, rfl⟩
  suffices key : Gl p.tables e below s₁ (mkF m 0 #[.val (.ref sa), .val (.ref sa), .unset] []) G by
    obtain ⟨s₂, k1, k2⟩ := key
    rw [hG] at k2
    obtain ⟨o, k3, k4, k5⟩ := k2
    exact ⟨s₂, o, castTop (ef_s_eq m sa sa) k1, k3, k4, k5⟩
  show Gl p.tables e below s₁ (mkF m 0 #[.val (.ref sa), .val (.ref sa), .unset] []) G
  refine Gl.via (fun _ k => XS.aloadN X0.here hx rfl (hb hby d11_0) rfl rfl k) ?_
  show Gl p.tables e below s₁ (mkF m 1 #[.val (.ref sa), .val (.ref sa), .unset] [(.ref sa)]) G
  refine Gl.via (fun _ k => XS.aloadN X0.here hx rfl (hb hby d11_1) rfl rfl k) ?_
  show Gl p.tables e below s₁ (mkF m 2 #[.val (.ref sa), .val (.ref sa), .unset] [(.ref sa), (.ref sa)]) G
  refine Gl.via (fun _ k => Jvm.RoadKit.acmp (g := (mkF m 2 #[.val (.ref sa), .val (.ref sa), .unset] [(.ref sa), (.ref sa)])) X0 hx rfl rfl rfl (pc0 := 2) (pc' := 5) (same := true) rfl (hb hby d11_2) rfl (decide_eq_true rfl) (by decide) (by decide) k) ?_
  show Gl p.tables e below s₁ (mkF m 5 #[.val (.ref sa), .val (.ref sa), .unset] []) G
  refine Gl.via (fun _ k => XS.iconst X0.here hx rfl (hb hby d11_5) k) ?_
  show Gl p.tables e below s₁ (mkF m 6 #[.val (.ref sa), .val (.ref sa), .unset] [(.int (1 : Int32))]) G
  obtain ⟨fs, hr, hrun, hended, hW, hsame⟩ := X0.leave (v := some (.int (1 : Int32))) (fun h => by rw [Bd.returns] at h; cases h)
  have hq : ∀ L, Fr n0 L → Q_s_eq Z sa h0 n0 (some (.int (1 : Int32))) s₁.heap L := by
    intro L hN
    rw [e0]
    exact ⟨rfl, hN, rfl⟩
  rw [hG]
  exact Gl.fin (retN X0 hx (t := .boolean) Bd.returns (by simp) (hb hby d11_6) hr) ⟨_, hrun, hended, _, _, rfl, hq _ N0, ⟨_, rfl⟩, hW, hsame.mono (by decide) (by decide)⟩
def own_E (n c0 c1 d0 d1 i : Int32) : Int32 := if i < n then (if i = 0 then c0 else c1) else if i = n then 47 else (if i - n - 1 = 0 then d0 else d1)
theorem own_E1 {n c0 c1 d0 d1 i : Int32} (h : i < n) (h2 : i = 0) : own_E n c0 c1 d0 d1 i = c0 := (if_pos h).trans (if_pos h2)
theorem own_E2 {n c0 c1 d0 d1 i : Int32} (h : i < n) (h2 : ¬ i = 0) : own_E n c0 c1 d0 d1 i = c1 := (if_pos h).trans (if_neg h2)
theorem own_E3 {n c0 c1 d0 d1 i : Int32} (h : ¬ i < n) (h2 : i = n) : own_E n c0 c1 d0 d1 i = 47 := (if_neg h).trans (if_pos h2)
theorem own_E4 {n c0 c1 d0 d1 i : Int32} (h : ¬ i < n) (h2 : ¬ i = n) (h3 : i - n - 1 = 0) : own_E n c0 c1 d0 d1 i = d0 := (if_neg h).trans ((if_neg h2).trans (if_pos h3))
theorem own_E5 {n c0 c1 d0 d1 i : Int32} (h : ¬ i < n) (h2 : ¬ i = n) (h3 : ¬ i - n - 1 = 0) : own_E n c0 c1 d0 d1 i = d1 := (if_neg h).trans ((if_neg h2).trans (if_neg h3))
theorem d37_0 : decode method_4_code 0 = .ok (.iload_n 1, 1) := by decide +kernel
theorem d37_1 : decode method_4_code 1 = .ok (.aload_n 0, 1) := by decide +kernel
theorem d37_2 : decode method_4_code 2 = .ok (.invokevirtual 28, 3) := by decide +kernel
theorem d37_5 : decode method_4_code 5 = .ok (.if_icmp .lt 5, 3) := by decide +kernel
theorem d37_10 : decode method_4_code 10 = .ok (.iload_n 1, 1) := by decide +kernel
theorem d37_11 : decode method_4_code 11 = .ok (.iload_n 2, 1) := by decide +kernel
theorem d37_12 : decode method_4_code 12 = .ok (.if_icmp .ge 18, 3) := by decide +kernel
theorem d37_15 : decode method_4_code 15 = .ok (.iload_n 1, 1) := by decide +kernel
theorem d37_16 : decode method_4_code 16 = .ok (.ifCond .ne 7, 3) := by decide +kernel
theorem d37_19 : decode method_4_code 19 = .ok (.iload_n 3, 1) := by decide +kernel
theorem d37_20 : decode method_4_code 20 = .ok (.goto 5, 3) := by decide +kernel
theorem d37_25 : decode method_4_code 25 = .ok (.istore 7, 2) := by decide +kernel
theorem d37_27 : decode method_4_code 27 = .ok (.goto 32, 3) := by decide +kernel
theorem d37_59 : decode method_4_code 59 = .ok (.aload_n 0, 1) := by decide +kernel
theorem d37_60 : decode method_4_code 60 = .ok (.iload_n 1, 1) := by decide +kernel
theorem d37_61 : decode method_4_code 61 = .ok (.invokevirtual 43, 3) := by decide +kernel
theorem pd_28 : parseMethodDescriptor "(I)C" = some ⟨[.int], some .char⟩ := by decide +kernel
theorem d37_64 : decode method_4_code 64 = .ok (.iload 7, 2) := by decide +kernel
theorem d37_66 : decode method_4_code 66 = .ok (.if_icmp .ne 7, 3) := by decide +kernel
theorem d37_69 : decode method_4_code 69 = .ok (.iconst 1, 1) := by decide +kernel
theorem d37_70 : decode method_4_code 70 = .ok (.goto 4, 3) := by decide +kernel
theorem d37_74 : decode method_4_code 74 = .ok (.ireturn, 1) := by decide +kernel
theorem d37_23 : decode method_4_code 23 = .ok (.iload 4, 2) := by decide +kernel
theorem d37_30 : decode method_4_code 30 = .ok (.iload_n 1, 1) := by decide +kernel
theorem d37_31 : decode method_4_code 31 = .ok (.iload_n 2, 1) := by decide +kernel
theorem d37_32 : decode method_4_code 32 = .ok (.if_icmp .ne 10, 3) := by decide +kernel
theorem d37_35 : decode method_4_code 35 = .ok (.bipush 47, 2) := by decide +kernel
theorem d37_37 : decode method_4_code 37 = .ok (.istore 7, 2) := by decide +kernel
theorem d37_39 : decode method_4_code 39 = .ok (.goto 20, 3) := by decide +kernel
theorem d37_42 : decode method_4_code 42 = .ok (.iload_n 1, 1) := by decide +kernel
theorem d37_43 : decode method_4_code 43 = .ok (.iload_n 2, 1) := by decide +kernel
theorem d37_44 : decode method_4_code 44 = .ok (.isub, 1) := by decide +kernel
theorem d37_45 : decode method_4_code 45 = .ok (.iconst 1, 1) := by decide +kernel
theorem d37_46 : decode method_4_code 46 = .ok (.isub, 1) := by decide +kernel
theorem d37_47 : decode method_4_code 47 = .ok (.ifCond .ne 8, 3) := by decide +kernel
theorem d37_50 : decode method_4_code 50 = .ok (.iload 5, 2) := by decide +kernel
theorem d37_52 : decode method_4_code 52 = .ok (.goto 5, 3) := by decide +kernel
theorem d37_57 : decode method_4_code 57 = .ok (.istore 7, 2) := by decide +kernel
theorem d37_55 : decode method_4_code 55 = .ok (.iload 6, 2) := by decide +kernel
theorem d37_8 : decode method_4_code 8 = .ok (.iconst 1, 1) := by decide +kernel
theorem d37_9 : decode method_4_code 9 = .ok (.ireturn, 1) := by decide +kernel
theorem ef_at_ (m : MethodId) (x0 : Addr) (x1 : Int32) (x2 : Int32) (x3 : Int32) (x4 : Int32) (x5 : Int32) (x6 : Int32) : entryFrame m #[(.ref x0), (.int x1), (.int x2), (.int x3), (.int x4), (.int x5), (.int x6)] 8 = mkF m 0 #[.val (.ref x0), .val (.int x1), .val (.int x2), .val (.int x3), .val (.int x4), .val (.int x5), .val (.int x6), .unset] [] := by first | (simp [entryFrame, mkF, argsToLocals, Value.category]; done) | rfl | (simp [entryFrame, mkF, argsToLocals, own_catI, own_catR, *]; done)
def Q_at_ (Z : State) (sa : Addr) (sb : Addr) (sk : ClassId) (scs : List Int32) (ix : Int32) (n : Int32) (c0 : Int32) (c1 : Int32) (d0 : Int32) (d1 : Int32) (fm : Value) (cps : Int32) (h0 : Heap) (n0 : Nat) (v : Option Value) (h : Heap) (L : List Loc) : Prop := v = some (.int (1 : Int32)) ∧ Fr n0 L ∧ h = h0
set_option maxRecDepth 65536 in
set_option maxHeartbeats 40000000 in
theorem at_ (l : Launch) (Z : State) (a0 : Array Value) (hw : ∀ d ∈ tables_1, d.before a0 Z = true) (ws : List Jvm.Cond) (sa : Addr) (sb : Addr) (sk : ClassId) (scs : List Int32) (ix : Int32) (n : Int32) (c0 : Int32) (c1 : Int32) (d0 : Int32) (d1 : Int32) (fm : Value) (cps : Int32) (h0 : Heap) (n0 : Nat) (Z0 : n0 ≤ h0.size) (F0_sa : Exa Z h0 sa "java/lang/String") (F1_sa_coder : Fld Z h0 sa "java/lang/String" "coder" "B" (.int (0 : Int32))) (F2_sa_value : Fld Z h0 sa "java/lang/String" "value" "[B" (.ref sb)) (F3_sb : Arv Z h0 sb sk .byte (own_ln scs) (scs.map Value.int) (.int (0 : Int32))) (F4_java_lang_String : Sta Z Z.heap "java/lang/String" "COMPACT_STRINGS" "Z" (.int cps)) (F5_jdk_internal_util_Preconditions : Sta Z Z.heap "jdk/internal/util/Preconditions" "SIOOBE_FORMATTER" "Ljava/util/function/BiFunction;" fm) (F6_ : Old Z n0 h0) (hcps : ¬ (cps = (0 : Int32))) (hfm : fm.category = 1) (hpos : ix < own_ln scs → ¬ (ix < (0 : Int32)) ∧ (scs.map Value.int).getD ix.toNatClampNeg (.int (0 : Int32)) = .int (own_E n c0 c1 d0 d1 ix).toInt8.toInt32 ∧ (own_E n c0 c1 d0 d1 ix).toInt8.toInt32 &&& (255 : Int32) = own_E n c0 c1 d0 d1 ix) :
    MetFree l (⟨"com/example/profile_to_target/profiletotarget/SfrIdToStringPinLaw", "at", "(Ljava/lang/String;IICCCC)Z"⟩ : MethodName) (head1 (Jvm.Cond.code (⟨"com/example/profile_to_target/profiletotarget/SfrIdToStringPinLaw", "at", "(Ljava/lang/String;IICCCC)Z"⟩ : MethodName) method_4_code 8 (some .boolean) :: ws) ({ frames := 4, cells := 0, slots := 0, locals := 53 } : Room)) (fun a U => a = #[(.ref sa), (.int ix), (.int n), (.int c0), (.int c1), (.int d0), (.int d1)] ∧ Z.Warmed39 U.vm ∧ U.heap = h0) (fun _ _ _ _ _ => True) (fun _ U o U' => ∃ v L, o = .returned v ∧ Q_at_ Z sa sb sk scs ix n c0 c1 d0 d1 fm cps h0 n0 v U'.heap L ∧ FrameEnd U o U' L ({ frames := 4, cells := 0, slots := 0, locals := 53 } : Room).cells ({ frames := 4, cells := 0, slots := 0, locals := 53 } : Room).slots) := by
  refine MetFree.of_bodySF (plainFor_of_name pn_8) hisR ?_
  intro p e s m args below meth c s₁ Bd hml0 hP hK
  obtain ⟨rfl, hZ, hh⟩ := hP
  have hx := Bd.exec
  have hby := Bd.bytes
  have hml : c.maxLocals = 8 := hml0
  have hown : s.vm.findClass "com/example/profile_to_target/profiletotarget/SfrIdToStringPinLaw" = some m.cls := findClass_of_methodNamed Bd.named
  have hnm := (name_of_methodNamed Bd.named Bd.method).1
  have X0 : Stand p l e ({ frames := 4, cells := 0, slots := 0, locals := 53 } : Room) s m #[(.ref sa), (.int ix), (.int n), (.int c0), (.int c1), (.int d0), (.int d1)] below meth c s₁ [] 0 0 := Stand.of_body Bd
  have e0 : s₁.heap = h0 := by rw [← hh, Bd.state]; rfl
  have N0 := Fr.nil n0
  obtain ⟨G, hG⟩ : ∃ G : State → Prop, G = (fun U' => ∃ o, U'.status = .running ∧ Ended U' below o ∧ ∃ v L, o = .returned v ∧ Q_at_ Z sa sb sk scs ix n c0 c1 d0 d1 fm cps h0 n0 v U'.heap L ∧ FrameEnd s o U' L ({ frames := 4, cells := 0, slots := 0, locals := 53 } : Room).cells ({ frames := 4, cells := 0, slots := 0, locals := 53 } : Room).slots) := ⟨_, rfl⟩
  suffices key : Gl p.tables e below s₁ (mkF m 0 #[.val (.ref sa), .val (.int ix), .val (.int n), .val (.int c0), .val (.int c1), .val (.int d0), .val (.int d1), .unset] []) G by
    obtain ⟨s₂, k1, k2⟩ := key
    rw [hG] at k2
    obtain ⟨o, k3, k4, k5⟩ := k2
    exact ⟨s₂, o, castTop (ef_at_ m sa ix n c0 c1 d0 d1) k1, k3, k4, k5⟩
  show Gl p.tables e below s₁ (mkF m 0 #[.val (.ref sa), .val (.int ix), .val (.int n), .val (.int c0), .val (.int c1), .val (.int d0), .val (.int d1), .unset] []) G
  refine Gl.via (fun _ k => XS.iloadN X0.here hx rfl (hb hby d37_0) rfl k) ?_
  show Gl p.tables e below s₁ (mkF m 1 #[.val (.ref sa), .val (.int ix), .val (.int n), .val (.int c0), .val (.int c1), .val (.int d0), .val (.int d1), .unset] [(.int ix)]) G
  refine Gl.via (fun _ k => XS.aloadN X0.here hx rfl (hb hby d37_1) rfl rfl k) ?_
  show Gl p.tables e below s₁ (mkF m 2 #[.val (.ref sa), .val (.int ix), .val (.int n), .val (.int c0), .val (.int c1), .val (.int d0), .val (.int d1), .unset] [(.ref sa), (.int ix)]) G
  obtain ⟨cq1, kq1, q1a, q1b, q1c⟩ := isOf hZ e0 F0_sa
  obtain ⟨_, _, ⟨T1, L1, k1, n1⟩, -, X1, ⟨Lc1, hQ1, l1, y1, z1⟩, st1⟩ := X0.virtualBack hx (y := (⟨"java/lang/String", "length", "()I"⟩ : MethodName)) (z := (⟨"java/lang/String", "length", "()I"⟩ : MethodName)) hown (mvT hZ (hw _ (List.mem_of_getElem? (i := 188) rfl))) (mvT hZ (hw _ (List.mem_of_getElem? (i := 106) rfl))) (notFace_of_selects (args := #[]) (mvT hZ (hw _ (List.mem_of_getElem? (i := 108) rfl)))) (mvT hZ (hw _ (List.mem_of_getElem? (i := 108) rfl))) (mvT hZ (hw _ (List.mem_of_getElem? (i := 107) rfl))) (by decide) (backOf (W := 1) (st_len l Z a0 hw [] sa sb sk scs cps h0 n0 Z0 F0_sa F1_sa_coder F2_sa_value F3_sb F4_java_lang_String F6_ hcps) hZ (hw _ (List.mem_of_getElem? (i := 109) rfl)) (hw _ (List.mem_of_getElem? (i := 6) rfl)) (by decide) (by decide)) q1a q1c (g := (mkF m 2 #[.val (.ref sa), .val (.int ix), .val (.int n), .val (.int c0), .val (.int c1), .val (.int d0), .val (.int d1), .unset] [(.ref sa), (.int ix)])) rfl (by rw [hml]; rfl) (Steps.refl _) (argsL := []) (rest := [(.int ix)]) (lenOf pd_8 rfl) rfl (by show 2 * 0 + _ ≤ _; exact Nat.le_of_eq rfl) (hb hby d37_2) (fun _ _ => ⟨rfl, e0, (by decide : 0 + 0 ≤ _), (by decide : 0 + 0 ≤ _)⟩)
  dsimp only [Pt.U, Pt.locs, Pt.cells, Pt.slots] at X1 l1 y1 z1 st1 hQ1
  subst l1 y1 z1
  obtain ⟨rfl, N1q, eh1⟩ := hQ1
  have N1_ := Fr.app N0 N1q
  refine Gl.via (fun _ k => st1.trans k) ?_
  show Gl p.tables e below T1 (mkF m 5 #[.val (.ref sa), .val (.int ix), .val (.int n), .val (.int c0), .val (.int c1), .val (.int d0), .val (.int d1), .unset] [(.int (own_ln scs)), (.int ix)]) G
  by_cases hl : ix < (own_ln scs)
  · refine Gl.via (fun _ k => XS.icmpYes X1.here hx rfl (pc0 := 5) (pc' := 10) rfl (hb hby d37_5) rfl (tlt hl).1 (by decide) (by decide) k) ?_
    show Gl p.tables e below T1 (mkF m 10 #[.val (.ref sa), .val (.int ix), .val (.int n), .val (.int c0), .val (.int c1), .val (.int d0), .val (.int d1), .unset] []) G
    refine Gl.via (fun _ k => XS.iloadN X1.here hx rfl (hb hby d37_10) rfl k) ?_
    show Gl p.tables e below T1 (mkF m 11 #[.val (.ref sa), .val (.int ix), .val (.int n), .val (.int c0), .val (.int c1), .val (.int d0), .val (.int d1), .unset] [(.int ix)]) G
    refine Gl.via (fun _ k => XS.iloadN X1.here hx rfl (hb hby d37_11) rfl k) ?_
    show Gl p.tables e below T1 (mkF m 12 #[.val (.ref sa), .val (.int ix), .val (.int n), .val (.int c0), .val (.int c1), .val (.int d0), .val (.int d1), .unset] [(.int n), (.int ix)]) G
    by_cases hk1 : ix < n
    · refine Gl.via (fun _ k => XS.icmpNo X1.here hx rfl (hb hby d37_12) rfl (tlt hk1).2.1 k) ?_
      show Gl p.tables e below T1 (mkF m 15 #[.val (.ref sa), .val (.int ix), .val (.int n), .val (.int c0), .val (.int c1), .val (.int d0), .val (.int d1), .unset] []) G
      refine Gl.via (fun _ k => XS.iloadN X1.here hx rfl (hb hby d37_15) rfl k) ?_
      show Gl p.tables e below T1 (mkF m 16 #[.val (.ref sa), .val (.int ix), .val (.int n), .val (.int c0), .val (.int c1), .val (.int d0), .val (.int d1), .unset] [(.int ix)]) G
      by_cases hk2 : ix = (0 : Int32)
      · refine Gl.via (fun _ k => XS.ifNo X1.here hx rfl (hb hby d37_16) rfl ((if0 _ _).trans (teq hk2).2) k) ?_
        show Gl p.tables e below T1 (mkF m 19 #[.val (.ref sa), .val (.int ix), .val (.int n), .val (.int c0), .val (.int c1), .val (.int d0), .val (.int d1), .unset] []) G
        refine Gl.via (fun _ k => XS.iloadN X1.here hx rfl (hb hby d37_19) rfl k) ?_
        show Gl p.tables e below T1 (mkF m 20 #[.val (.ref sa), .val (.int ix), .val (.int n), .val (.int c0), .val (.int c1), .val (.int d0), .val (.int d1), .unset] [(.int c0)]) G
        refine Gl.via (fun _ k => XS.goto X1.here hx rfl (pc0 := 20) (pc' := 25) rfl (hb hby d37_20) (by decide) (by decide) k) ?_
        show Gl p.tables e below T1 (mkF m 25 #[.val (.ref sa), .val (.int ix), .val (.int n), .val (.int c0), .val (.int c1), .val (.int d0), .val (.int d1), .unset] [(.int c0)]) G
        refine Gl.via (fun _ k => XS.istore X1.here hx rfl (hb hby d37_25) rfl (l' := #[.val (.ref sa), .val (.int ix), .val (.int n), .val (.int c0), .val (.int c1), .val (.int d0), .val (.int d1), .val (.int c0)]) rfl k) ?_
        show Gl p.tables e below T1 (mkF m 27 #[.val (.ref sa), .val (.int ix), .val (.int n), .val (.int c0), .val (.int c1), .val (.int d0), .val (.int d1), .val (.int c0)] []) G
        refine Gl.via (fun _ k => XS.goto X1.here hx rfl (pc0 := 27) (pc' := 59) rfl (hb hby d37_27) (by decide) (by decide) k) ?_
        show Gl p.tables e below T1 (mkF m 59 #[.val (.ref sa), .val (.int ix), .val (.int n), .val (.int c0), .val (.int c1), .val (.int d0), .val (.int d1), .val (.int c0)] []) G
        refine Gl.via (fun _ k => XS.aloadN X1.here hx rfl (hb hby d37_59) rfl rfl k) ?_
        show Gl p.tables e below T1 (mkF m 60 #[.val (.ref sa), .val (.int ix), .val (.int n), .val (.int c0), .val (.int c1), .val (.int d0), .val (.int d1), .val (.int c0)] [(.ref sa)]) G
        refine Gl.via (fun _ k => XS.iloadN X1.here hx rfl (hb hby d37_60) rfl k) ?_
        show Gl p.tables e below T1 (mkF m 61 #[.val (.ref sa), .val (.int ix), .val (.int n), .val (.int c0), .val (.int c1), .val (.int d0), .val (.int d1), .val (.int c0)] [(.int ix), (.ref sa)]) G
        obtain ⟨cq2, kq2, q2a, q2b, q2c⟩ := isOf hZ eh1 F0_sa
        obtain ⟨_, _, ⟨T2, L2, k2, n2⟩, -, X2, ⟨Lc2, hQ2, l2, y2, z2⟩, st2⟩ := X1.virtualBack hx (y := (⟨"java/lang/String", "charAt", "(I)C"⟩ : MethodName)) (z := (⟨"java/lang/String", "charAt", "(I)C"⟩ : MethodName)) hown (mvT hZ (hw _ (List.mem_of_getElem? (i := 192) rfl))) (mvT hZ (hw _ (List.mem_of_getElem? (i := 193) rfl))) (notFace_of_selects (args := #[]) (mvT hZ (hw _ (List.mem_of_getElem? (i := 195) rfl)))) (mvT hZ (hw _ (List.mem_of_getElem? (i := 195) rfl))) (mvT hZ (hw _ (List.mem_of_getElem? (i := 194) rfl))) (by decide) (backOf (W := 0) (st_at l Z a0 hw [] sa sb sk scs ix ((own_E n c0 c1 d0 d1 ix).toInt8.toInt32) fm cps h0 n0 Z0 F0_sa F1_sa_coder F2_sa_value F3_sb F4_java_lang_String F5_jdk_internal_util_Preconditions F6_ hcps hfm (hpos hl).1 hl (hpos hl).2.1) hZ (hw _ (List.mem_of_getElem? (i := 196) rfl)) (hw _ (List.mem_of_getElem? (i := 6) rfl)) (by decide) (by decide)) q2a q2c (g := (mkF m 61 #[.val (.ref sa), .val (.int ix), .val (.int n), .val (.int c0), .val (.int c1), .val (.int d0), .val (.int d1), .val (.int c0)] [(.int ix), (.ref sa)])) rfl (by rw [hml]; rfl) (Steps.refl _) (argsL := [(.int ix)]) (rest := []) (lenOf pd_28 rfl) rfl (by show 2 * 0 + _ ≤ _; exact Nat.le_of_eq rfl) (hb hby d37_61) (fun _ _ => ⟨rfl, eh1, (by decide : 0 + 0 ≤ _), (by decide : 0 + 0 ≤ _)⟩)
        dsimp only [Pt.U, Pt.locs, Pt.cells, Pt.slots] at X2 l2 y2 z2 st2 hQ2
        subst l2 y2 z2
        obtain ⟨rfl, N2q, eh2⟩ := hQ2
        have N2_ := Fr.app N1_ N2q
        refine Gl.via (fun _ k => st2.trans k) ?_
        show Gl p.tables e below T2 (mkF m 64 #[.val (.ref sa), .val (.int ix), .val (.int n), .val (.int c0), .val (.int c1), .val (.int d0), .val (.int d1), .val (.int c0)] [(.int (((own_E n c0 c1 d0 d1 ix).toInt8.toInt32) &&& (255 : Int32)))]) G
        refine Gl.via (fun _ k => XS.iload X2.here hx rfl (hb hby d37_64) rfl k) ?_
        show Gl p.tables e below T2 (mkF m 66 #[.val (.ref sa), .val (.int ix), .val (.int n), .val (.int c0), .val (.int c1), .val (.int d0), .val (.int d1), .val (.int c0)] [(.int c0), (.int (((own_E n c0 c1 d0 d1 ix).toInt8.toInt32) &&& (255 : Int32)))]) G
        refine Gl.via (fun _ k => XS.icmpNo X2.here hx rfl (hb hby d37_66) rfl (teq ((hpos hl).2.2.trans (own_E1 hk1 hk2))).2 k) ?_
        show Gl p.tables e below T2 (mkF m 69 #[.val (.ref sa), .val (.int ix), .val (.int n), .val (.int c0), .val (.int c1), .val (.int d0), .val (.int d1), .val (.int c0)] []) G
        refine Gl.via (fun _ k => XS.iconst X2.here hx rfl (hb hby d37_69) k) ?_
        show Gl p.tables e below T2 (mkF m 70 #[.val (.ref sa), .val (.int ix), .val (.int n), .val (.int c0), .val (.int c1), .val (.int d0), .val (.int d1), .val (.int c0)] [(.int (1 : Int32))]) G
        refine Gl.via (fun _ k => XS.goto X2.here hx rfl (pc0 := 70) (pc' := 74) rfl (hb hby d37_70) (by decide) (by decide) k) ?_
        show Gl p.tables e below T2 (mkF m 74 #[.val (.ref sa), .val (.int ix), .val (.int n), .val (.int c0), .val (.int c1), .val (.int d0), .val (.int d1), .val (.int c0)] [(.int (1 : Int32))]) G
        obtain ⟨fs, hr, hrun, hended, hW, hsame⟩ := X2.leave (v := some (.int (1 : Int32))) (fun h => by rw [Bd.returns] at h; cases h)
        have hq : ∀ L, Fr n0 L → Q_at_ Z sa sb sk scs ix n c0 c1 d0 d1 fm cps h0 n0 (some (.int (1 : Int32))) T2.heap L := by
          intro L hN
          rw [eh2]
          exact ⟨rfl, hN, rfl⟩
        rw [hG]
        exact Gl.fin (retN X2 hx (t := .boolean) Bd.returns (by simp) (hb hby d37_74) hr) ⟨_, hrun, hended, _, _, rfl, hq _ N2_, ⟨_, rfl⟩, hW, hsame.mono (by decide) (by decide)⟩
      · refine Gl.via (fun _ k => XS.ifYes X1.here hx rfl (pc0 := 16) (pc' := 23) rfl (hb hby d37_16) rfl ((if0 _ _).trans (feq hk2).2) (by decide) (by decide) k) ?_
        show Gl p.tables e below T1 (mkF m 23 #[.val (.ref sa), .val (.int ix), .val (.int n), .val (.int c0), .val (.int c1), .val (.int d0), .val (.int d1), .unset] []) G
        refine Gl.via (fun _ k => XS.iload X1.here hx rfl (hb hby d37_23) rfl k) ?_
        show Gl p.tables e below T1 (mkF m 25 #[.val (.ref sa), .val (.int ix), .val (.int n), .val (.int c0), .val (.int c1), .val (.int d0), .val (.int d1), .unset] [(.int c1)]) G
        refine Gl.via (fun _ k => XS.istore X1.here hx rfl (hb hby d37_25) rfl (l' := #[.val (.ref sa), .val (.int ix), .val (.int n), .val (.int c0), .val (.int c1), .val (.int d0), .val (.int d1), .val (.int c1)]) rfl k) ?_
        show Gl p.tables e below T1 (mkF m 27 #[.val (.ref sa), .val (.int ix), .val (.int n), .val (.int c0), .val (.int c1), .val (.int d0), .val (.int d1), .val (.int c1)] []) G
        refine Gl.via (fun _ k => XS.goto X1.here hx rfl (pc0 := 27) (pc' := 59) rfl (hb hby d37_27) (by decide) (by decide) k) ?_
        show Gl p.tables e below T1 (mkF m 59 #[.val (.ref sa), .val (.int ix), .val (.int n), .val (.int c0), .val (.int c1), .val (.int d0), .val (.int d1), .val (.int c1)] []) G
        refine Gl.via (fun _ k => XS.aloadN X1.here hx rfl (hb hby d37_59) rfl rfl k) ?_
        show Gl p.tables e below T1 (mkF m 60 #[.val (.ref sa), .val (.int ix), .val (.int n), .val (.int c0), .val (.int c1), .val (.int d0), .val (.int d1), .val (.int c1)] [(.ref sa)]) G
        refine Gl.via (fun _ k => XS.iloadN X1.here hx rfl (hb hby d37_60) rfl k) ?_
        show Gl p.tables e below T1 (mkF m 61 #[.val (.ref sa), .val (.int ix), .val (.int n), .val (.int c0), .val (.int c1), .val (.int d0), .val (.int d1), .val (.int c1)] [(.int ix), (.ref sa)]) G
        obtain ⟨cq3, kq3, q3a, q3b, q3c⟩ := isOf hZ eh1 F0_sa
        obtain ⟨_, _, ⟨T3, L3, k3, n3⟩, -, X3, ⟨Lc3, hQ3, l3, y3, z3⟩, st3⟩ := X1.virtualBack hx (y := (⟨"java/lang/String", "charAt", "(I)C"⟩ : MethodName)) (z := (⟨"java/lang/String", "charAt", "(I)C"⟩ : MethodName)) hown (mvT hZ (hw _ (List.mem_of_getElem? (i := 192) rfl))) (mvT hZ (hw _ (List.mem_of_getElem? (i := 193) rfl))) (notFace_of_selects (args := #[]) (mvT hZ (hw _ (List.mem_of_getElem? (i := 195) rfl)))) (mvT hZ (hw _ (List.mem_of_getElem? (i := 195) rfl))) (mvT hZ (hw _ (List.mem_of_getElem? (i := 194) rfl))) (by decide) (backOf (W := 0) (st_at l Z a0 hw [] sa sb sk scs ix ((own_E n c0 c1 d0 d1 ix).toInt8.toInt32) fm cps h0 n0 Z0 F0_sa F1_sa_coder F2_sa_value F3_sb F4_java_lang_String F5_jdk_internal_util_Preconditions F6_ hcps hfm (hpos hl).1 hl (hpos hl).2.1) hZ (hw _ (List.mem_of_getElem? (i := 196) rfl)) (hw _ (List.mem_of_getElem? (i := 6) rfl)) (by decide) (by decide)) q3a q3c (g := (mkF m 61 #[.val (.ref sa), .val (.int ix), .val (.int n), .val (.int c0), .val (.int c1), .val (.int d0), .val (.int d1), .val (.int c1)] [(.int ix), (.ref sa)])) rfl (by rw [hml]; rfl) (Steps.refl _) (argsL := [(.int ix)]) (rest := []) (lenOf pd_28 rfl) rfl (by show 2 * 0 + _ ≤ _; exact Nat.le_of_eq rfl) (hb hby d37_61) (fun _ _ => ⟨rfl, eh1, (by decide : 0 + 0 ≤ _), (by decide : 0 + 0 ≤ _)⟩)
        dsimp only [Pt.U, Pt.locs, Pt.cells, Pt.slots] at X3 l3 y3 z3 st3 hQ3
        subst l3 y3 z3
        obtain ⟨rfl, N3q, eh3⟩ := hQ3
        have N3_ := Fr.app N1_ N3q
        refine Gl.via (fun _ k => st3.trans k) ?_
        show Gl p.tables e below T3 (mkF m 64 #[.val (.ref sa), .val (.int ix), .val (.int n), .val (.int c0), .val (.int c1), .val (.int d0), .val (.int d1), .val (.int c1)] [(.int (((own_E n c0 c1 d0 d1 ix).toInt8.toInt32) &&& (255 : Int32)))]) G
        refine Gl.via (fun _ k => XS.iload X3.here hx rfl (hb hby d37_64) rfl k) ?_
        show Gl p.tables e below T3 (mkF m 66 #[.val (.ref sa), .val (.int ix), .val (.int n), .val (.int c0), .val (.int c1), .val (.int d0), .val (.int d1), .val (.int c1)] [(.int c1), (.int (((own_E n c0 c1 d0 d1 ix).toInt8.toInt32) &&& (255 : Int32)))]) G
        refine Gl.via (fun _ k => XS.icmpNo X3.here hx rfl (hb hby d37_66) rfl (teq ((hpos hl).2.2.trans (own_E2 hk1 hk2))).2 k) ?_
        show Gl p.tables e below T3 (mkF m 69 #[.val (.ref sa), .val (.int ix), .val (.int n), .val (.int c0), .val (.int c1), .val (.int d0), .val (.int d1), .val (.int c1)] []) G
        refine Gl.via (fun _ k => XS.iconst X3.here hx rfl (hb hby d37_69) k) ?_
        show Gl p.tables e below T3 (mkF m 70 #[.val (.ref sa), .val (.int ix), .val (.int n), .val (.int c0), .val (.int c1), .val (.int d0), .val (.int d1), .val (.int c1)] [(.int (1 : Int32))]) G
        refine Gl.via (fun _ k => XS.goto X3.here hx rfl (pc0 := 70) (pc' := 74) rfl (hb hby d37_70) (by decide) (by decide) k) ?_
        show Gl p.tables e below T3 (mkF m 74 #[.val (.ref sa), .val (.int ix), .val (.int n), .val (.int c0), .val (.int c1), .val (.int d0), .val (.int d1), .val (.int c1)] [(.int (1 : Int32))]) G
        obtain ⟨fs, hr, hrun, hended, hW, hsame⟩ := X3.leave (v := some (.int (1 : Int32))) (fun h => by rw [Bd.returns] at h; cases h)
        have hq : ∀ L, Fr n0 L → Q_at_ Z sa sb sk scs ix n c0 c1 d0 d1 fm cps h0 n0 (some (.int (1 : Int32))) T3.heap L := by
          intro L hN
          rw [eh3]
          exact ⟨rfl, hN, rfl⟩
        rw [hG]
        exact Gl.fin (retN X3 hx (t := .boolean) Bd.returns (by simp) (hb hby d37_74) hr) ⟨_, hrun, hended, _, _, rfl, hq _ N3_, ⟨_, rfl⟩, hW, hsame.mono (by decide) (by decide)⟩
    · refine Gl.via (fun _ k => XS.icmpYes X1.here hx rfl (pc0 := 12) (pc' := 30) rfl (hb hby d37_12) rfl (flt hk1).2.1 (by decide) (by decide) k) ?_
      show Gl p.tables e below T1 (mkF m 30 #[.val (.ref sa), .val (.int ix), .val (.int n), .val (.int c0), .val (.int c1), .val (.int d0), .val (.int d1), .unset] []) G
      refine Gl.via (fun _ k => XS.iloadN X1.here hx rfl (hb hby d37_30) rfl k) ?_
      show Gl p.tables e below T1 (mkF m 31 #[.val (.ref sa), .val (.int ix), .val (.int n), .val (.int c0), .val (.int c1), .val (.int d0), .val (.int d1), .unset] [(.int ix)]) G
      refine Gl.via (fun _ k => XS.iloadN X1.here hx rfl (hb hby d37_31) rfl k) ?_
      show Gl p.tables e below T1 (mkF m 32 #[.val (.ref sa), .val (.int ix), .val (.int n), .val (.int c0), .val (.int c1), .val (.int d0), .val (.int d1), .unset] [(.int n), (.int ix)]) G
      by_cases hk3 : ix = n
      · refine Gl.via (fun _ k => XS.icmpNo X1.here hx rfl (hb hby d37_32) rfl (teq hk3).2 k) ?_
        show Gl p.tables e below T1 (mkF m 35 #[.val (.ref sa), .val (.int ix), .val (.int n), .val (.int c0), .val (.int c1), .val (.int d0), .val (.int d1), .unset] []) G
        refine Gl.via (fun _ k => XS.bipush X1.here hx rfl (hb hby d37_35) k) ?_
        show Gl p.tables e below T1 (mkF m 37 #[.val (.ref sa), .val (.int ix), .val (.int n), .val (.int c0), .val (.int c1), .val (.int d0), .val (.int d1), .unset] [(.int (47 : Int32))]) G
        refine Gl.via (fun _ k => XS.istore X1.here hx rfl (hb hby d37_37) rfl (l' := #[.val (.ref sa), .val (.int ix), .val (.int n), .val (.int c0), .val (.int c1), .val (.int d0), .val (.int d1), .val (.int (47 : Int32))]) rfl k) ?_
        show Gl p.tables e below T1 (mkF m 39 #[.val (.ref sa), .val (.int ix), .val (.int n), .val (.int c0), .val (.int c1), .val (.int d0), .val (.int d1), .val (.int (47 : Int32))] []) G
        refine Gl.via (fun _ k => XS.goto X1.here hx rfl (pc0 := 39) (pc' := 59) rfl (hb hby d37_39) (by decide) (by decide) k) ?_
        show Gl p.tables e below T1 (mkF m 59 #[.val (.ref sa), .val (.int ix), .val (.int n), .val (.int c0), .val (.int c1), .val (.int d0), .val (.int d1), .val (.int (47 : Int32))] []) G
        refine Gl.via (fun _ k => XS.aloadN X1.here hx rfl (hb hby d37_59) rfl rfl k) ?_
        show Gl p.tables e below T1 (mkF m 60 #[.val (.ref sa), .val (.int ix), .val (.int n), .val (.int c0), .val (.int c1), .val (.int d0), .val (.int d1), .val (.int (47 : Int32))] [(.ref sa)]) G
        refine Gl.via (fun _ k => XS.iloadN X1.here hx rfl (hb hby d37_60) rfl k) ?_
        show Gl p.tables e below T1 (mkF m 61 #[.val (.ref sa), .val (.int ix), .val (.int n), .val (.int c0), .val (.int c1), .val (.int d0), .val (.int d1), .val (.int (47 : Int32))] [(.int ix), (.ref sa)]) G
        obtain ⟨cq4, kq4, q4a, q4b, q4c⟩ := isOf hZ eh1 F0_sa
        obtain ⟨_, _, ⟨T4, L4, k4, n4⟩, -, X4, ⟨Lc4, hQ4, l4, y4, z4⟩, st4⟩ := X1.virtualBack hx (y := (⟨"java/lang/String", "charAt", "(I)C"⟩ : MethodName)) (z := (⟨"java/lang/String", "charAt", "(I)C"⟩ : MethodName)) hown (mvT hZ (hw _ (List.mem_of_getElem? (i := 192) rfl))) (mvT hZ (hw _ (List.mem_of_getElem? (i := 193) rfl))) (notFace_of_selects (args := #[]) (mvT hZ (hw _ (List.mem_of_getElem? (i := 195) rfl)))) (mvT hZ (hw _ (List.mem_of_getElem? (i := 195) rfl))) (mvT hZ (hw _ (List.mem_of_getElem? (i := 194) rfl))) (by decide) (backOf (W := 0) (st_at l Z a0 hw [] sa sb sk scs ix ((own_E n c0 c1 d0 d1 ix).toInt8.toInt32) fm cps h0 n0 Z0 F0_sa F1_sa_coder F2_sa_value F3_sb F4_java_lang_String F5_jdk_internal_util_Preconditions F6_ hcps hfm (hpos hl).1 hl (hpos hl).2.1) hZ (hw _ (List.mem_of_getElem? (i := 196) rfl)) (hw _ (List.mem_of_getElem? (i := 6) rfl)) (by decide) (by decide)) q4a q4c (g := (mkF m 61 #[.val (.ref sa), .val (.int ix), .val (.int n), .val (.int c0), .val (.int c1), .val (.int d0), .val (.int d1), .val (.int (47 : Int32))] [(.int ix), (.ref sa)])) rfl (by rw [hml]; rfl) (Steps.refl _) (argsL := [(.int ix)]) (rest := []) (lenOf pd_28 rfl) rfl (by show 2 * 0 + _ ≤ _; exact Nat.le_of_eq rfl) (hb hby d37_61) (fun _ _ => ⟨rfl, eh1, (by decide : 0 + 0 ≤ _), (by decide : 0 + 0 ≤ _)⟩)
        dsimp only [Pt.U, Pt.locs, Pt.cells, Pt.slots] at X4 l4 y4 z4 st4 hQ4
        subst l4 y4 z4
        obtain ⟨rfl, N4q, eh4⟩ := hQ4
        have N4_ := Fr.app N1_ N4q
        refine Gl.via (fun _ k => st4.trans k) ?_
        show Gl p.tables e below T4 (mkF m 64 #[.val (.ref sa), .val (.int ix), .val (.int n), .val (.int c0), .val (.int c1), .val (.int d0), .val (.int d1), .val (.int (47 : Int32))] [(.int (((own_E n c0 c1 d0 d1 ix).toInt8.toInt32) &&& (255 : Int32)))]) G
        refine Gl.via (fun _ k => XS.iload X4.here hx rfl (hb hby d37_64) rfl k) ?_
        show Gl p.tables e below T4 (mkF m 66 #[.val (.ref sa), .val (.int ix), .val (.int n), .val (.int c0), .val (.int c1), .val (.int d0), .val (.int d1), .val (.int (47 : Int32))] [(.int (47 : Int32)), (.int (((own_E n c0 c1 d0 d1 ix).toInt8.toInt32) &&& (255 : Int32)))]) G
        refine Gl.via (fun _ k => XS.icmpNo X4.here hx rfl (hb hby d37_66) rfl (teq ((hpos hl).2.2.trans (own_E3 hk1 hk3))).2 k) ?_
        show Gl p.tables e below T4 (mkF m 69 #[.val (.ref sa), .val (.int ix), .val (.int n), .val (.int c0), .val (.int c1), .val (.int d0), .val (.int d1), .val (.int (47 : Int32))] []) G
        refine Gl.via (fun _ k => XS.iconst X4.here hx rfl (hb hby d37_69) k) ?_
        show Gl p.tables e below T4 (mkF m 70 #[.val (.ref sa), .val (.int ix), .val (.int n), .val (.int c0), .val (.int c1), .val (.int d0), .val (.int d1), .val (.int (47 : Int32))] [(.int (1 : Int32))]) G
        refine Gl.via (fun _ k => XS.goto X4.here hx rfl (pc0 := 70) (pc' := 74) rfl (hb hby d37_70) (by decide) (by decide) k) ?_
        show Gl p.tables e below T4 (mkF m 74 #[.val (.ref sa), .val (.int ix), .val (.int n), .val (.int c0), .val (.int c1), .val (.int d0), .val (.int d1), .val (.int (47 : Int32))] [(.int (1 : Int32))]) G
        obtain ⟨fs, hr, hrun, hended, hW, hsame⟩ := X4.leave (v := some (.int (1 : Int32))) (fun h => by rw [Bd.returns] at h; cases h)
        have hq : ∀ L, Fr n0 L → Q_at_ Z sa sb sk scs ix n c0 c1 d0 d1 fm cps h0 n0 (some (.int (1 : Int32))) T4.heap L := by
          intro L hN
          rw [eh4]
          exact ⟨rfl, hN, rfl⟩
        rw [hG]
        exact Gl.fin (retN X4 hx (t := .boolean) Bd.returns (by simp) (hb hby d37_74) hr) ⟨_, hrun, hended, _, _, rfl, hq _ N4_, ⟨_, rfl⟩, hW, hsame.mono (by decide) (by decide)⟩
      · refine Gl.via (fun _ k => XS.icmpYes X1.here hx rfl (pc0 := 32) (pc' := 42) rfl (hb hby d37_32) rfl (feq hk3).2 (by decide) (by decide) k) ?_
        show Gl p.tables e below T1 (mkF m 42 #[.val (.ref sa), .val (.int ix), .val (.int n), .val (.int c0), .val (.int c1), .val (.int d0), .val (.int d1), .unset] []) G
        refine Gl.via (fun _ k => XS.iloadN X1.here hx rfl (hb hby d37_42) rfl k) ?_
        show Gl p.tables e below T1 (mkF m 43 #[.val (.ref sa), .val (.int ix), .val (.int n), .val (.int c0), .val (.int c1), .val (.int d0), .val (.int d1), .unset] [(.int ix)]) G
        refine Gl.via (fun _ k => XS.iloadN X1.here hx rfl (hb hby d37_43) rfl k) ?_
        show Gl p.tables e below T1 (mkF m 44 #[.val (.ref sa), .val (.int ix), .val (.int n), .val (.int c0), .val (.int c1), .val (.int d0), .val (.int d1), .unset] [(.int n), (.int ix)]) G
        refine Gl.via (fun _ k => XS.isub X1.here hx rfl (hb hby d37_44) rfl k) ?_
        show Gl p.tables e below T1 (mkF m 45 #[.val (.ref sa), .val (.int ix), .val (.int n), .val (.int c0), .val (.int c1), .val (.int d0), .val (.int d1), .unset] [(.int (ix - n))]) G
        refine Gl.via (fun _ k => XS.iconst X1.here hx rfl (hb hby d37_45) k) ?_
        show Gl p.tables e below T1 (mkF m 46 #[.val (.ref sa), .val (.int ix), .val (.int n), .val (.int c0), .val (.int c1), .val (.int d0), .val (.int d1), .unset] [(.int (1 : Int32)), (.int (ix - n))]) G
        refine Gl.via (fun _ k => XS.isub X1.here hx rfl (hb hby d37_46) rfl k) ?_
        show Gl p.tables e below T1 (mkF m 47 #[.val (.ref sa), .val (.int ix), .val (.int n), .val (.int c0), .val (.int c1), .val (.int d0), .val (.int d1), .unset] [(.int ((ix - n) - (1 : Int32)))]) G
        by_cases hk4 : ((ix - n) - (1 : Int32)) = (0 : Int32)
        · refine Gl.via (fun _ k => XS.ifNo X1.here hx rfl (hb hby d37_47) rfl ((if0 _ _).trans (teq hk4).2) k) ?_
          show Gl p.tables e below T1 (mkF m 50 #[.val (.ref sa), .val (.int ix), .val (.int n), .val (.int c0), .val (.int c1), .val (.int d0), .val (.int d1), .unset] []) G
          refine Gl.via (fun _ k => XS.iload X1.here hx rfl (hb hby d37_50) rfl k) ?_
          show Gl p.tables e below T1 (mkF m 52 #[.val (.ref sa), .val (.int ix), .val (.int n), .val (.int c0), .val (.int c1), .val (.int d0), .val (.int d1), .unset] [(.int d0)]) G
          refine Gl.via (fun _ k => XS.goto X1.here hx rfl (pc0 := 52) (pc' := 57) rfl (hb hby d37_52) (by decide) (by decide) k) ?_
          show Gl p.tables e below T1 (mkF m 57 #[.val (.ref sa), .val (.int ix), .val (.int n), .val (.int c0), .val (.int c1), .val (.int d0), .val (.int d1), .unset] [(.int d0)]) G
          refine Gl.via (fun _ k => XS.istore X1.here hx rfl (hb hby d37_57) rfl (l' := #[.val (.ref sa), .val (.int ix), .val (.int n), .val (.int c0), .val (.int c1), .val (.int d0), .val (.int d1), .val (.int d0)]) rfl k) ?_
          show Gl p.tables e below T1 (mkF m 59 #[.val (.ref sa), .val (.int ix), .val (.int n), .val (.int c0), .val (.int c1), .val (.int d0), .val (.int d1), .val (.int d0)] []) G
          refine Gl.via (fun _ k => XS.aloadN X1.here hx rfl (hb hby d37_59) rfl rfl k) ?_
          show Gl p.tables e below T1 (mkF m 60 #[.val (.ref sa), .val (.int ix), .val (.int n), .val (.int c0), .val (.int c1), .val (.int d0), .val (.int d1), .val (.int d0)] [(.ref sa)]) G
          refine Gl.via (fun _ k => XS.iloadN X1.here hx rfl (hb hby d37_60) rfl k) ?_
          show Gl p.tables e below T1 (mkF m 61 #[.val (.ref sa), .val (.int ix), .val (.int n), .val (.int c0), .val (.int c1), .val (.int d0), .val (.int d1), .val (.int d0)] [(.int ix), (.ref sa)]) G
          obtain ⟨cq5, kq5, q5a, q5b, q5c⟩ := isOf hZ eh1 F0_sa
          obtain ⟨_, _, ⟨T5, L5, k5, n5⟩, -, X5, ⟨Lc5, hQ5, l5, y5, z5⟩, st5⟩ := X1.virtualBack hx (y := (⟨"java/lang/String", "charAt", "(I)C"⟩ : MethodName)) (z := (⟨"java/lang/String", "charAt", "(I)C"⟩ : MethodName)) hown (mvT hZ (hw _ (List.mem_of_getElem? (i := 192) rfl))) (mvT hZ (hw _ (List.mem_of_getElem? (i := 193) rfl))) (notFace_of_selects (args := #[]) (mvT hZ (hw _ (List.mem_of_getElem? (i := 195) rfl)))) (mvT hZ (hw _ (List.mem_of_getElem? (i := 195) rfl))) (mvT hZ (hw _ (List.mem_of_getElem? (i := 194) rfl))) (by decide) (backOf (W := 0) (st_at l Z a0 hw [] sa sb sk scs ix ((own_E n c0 c1 d0 d1 ix).toInt8.toInt32) fm cps h0 n0 Z0 F0_sa F1_sa_coder F2_sa_value F3_sb F4_java_lang_String F5_jdk_internal_util_Preconditions F6_ hcps hfm (hpos hl).1 hl (hpos hl).2.1) hZ (hw _ (List.mem_of_getElem? (i := 196) rfl)) (hw _ (List.mem_of_getElem? (i := 6) rfl)) (by decide) (by decide)) q5a q5c (g := (mkF m 61 #[.val (.ref sa), .val (.int ix), .val (.int n), .val (.int c0), .val (.int c1), .val (.int d0), .val (.int d1), .val (.int d0)] [(.int ix), (.ref sa)])) rfl (by rw [hml]; rfl) (Steps.refl _) (argsL := [(.int ix)]) (rest := []) (lenOf pd_28 rfl) rfl (by show 2 * 0 + _ ≤ _; exact Nat.le_of_eq rfl) (hb hby d37_61) (fun _ _ => ⟨rfl, eh1, (by decide : 0 + 0 ≤ _), (by decide : 0 + 0 ≤ _)⟩)
          dsimp only [Pt.U, Pt.locs, Pt.cells, Pt.slots] at X5 l5 y5 z5 st5 hQ5
          subst l5 y5 z5
          obtain ⟨rfl, N5q, eh5⟩ := hQ5
          have N5_ := Fr.app N1_ N5q
          refine Gl.via (fun _ k => st5.trans k) ?_
          show Gl p.tables e below T5 (mkF m 64 #[.val (.ref sa), .val (.int ix), .val (.int n), .val (.int c0), .val (.int c1), .val (.int d0), .val (.int d1), .val (.int d0)] [(.int (((own_E n c0 c1 d0 d1 ix).toInt8.toInt32) &&& (255 : Int32)))]) G
          refine Gl.via (fun _ k => XS.iload X5.here hx rfl (hb hby d37_64) rfl k) ?_
          show Gl p.tables e below T5 (mkF m 66 #[.val (.ref sa), .val (.int ix), .val (.int n), .val (.int c0), .val (.int c1), .val (.int d0), .val (.int d1), .val (.int d0)] [(.int d0), (.int (((own_E n c0 c1 d0 d1 ix).toInt8.toInt32) &&& (255 : Int32)))]) G
          refine Gl.via (fun _ k => XS.icmpNo X5.here hx rfl (hb hby d37_66) rfl (teq ((hpos hl).2.2.trans (own_E4 hk1 hk3 hk4))).2 k) ?_
          show Gl p.tables e below T5 (mkF m 69 #[.val (.ref sa), .val (.int ix), .val (.int n), .val (.int c0), .val (.int c1), .val (.int d0), .val (.int d1), .val (.int d0)] []) G
          refine Gl.via (fun _ k => XS.iconst X5.here hx rfl (hb hby d37_69) k) ?_
          show Gl p.tables e below T5 (mkF m 70 #[.val (.ref sa), .val (.int ix), .val (.int n), .val (.int c0), .val (.int c1), .val (.int d0), .val (.int d1), .val (.int d0)] [(.int (1 : Int32))]) G
          refine Gl.via (fun _ k => XS.goto X5.here hx rfl (pc0 := 70) (pc' := 74) rfl (hb hby d37_70) (by decide) (by decide) k) ?_
          show Gl p.tables e below T5 (mkF m 74 #[.val (.ref sa), .val (.int ix), .val (.int n), .val (.int c0), .val (.int c1), .val (.int d0), .val (.int d1), .val (.int d0)] [(.int (1 : Int32))]) G
          obtain ⟨fs, hr, hrun, hended, hW, hsame⟩ := X5.leave (v := some (.int (1 : Int32))) (fun h => by rw [Bd.returns] at h; cases h)
          have hq : ∀ L, Fr n0 L → Q_at_ Z sa sb sk scs ix n c0 c1 d0 d1 fm cps h0 n0 (some (.int (1 : Int32))) T5.heap L := by
            intro L hN
            rw [eh5]
            exact ⟨rfl, hN, rfl⟩
          rw [hG]
          exact Gl.fin (retN X5 hx (t := .boolean) Bd.returns (by simp) (hb hby d37_74) hr) ⟨_, hrun, hended, _, _, rfl, hq _ N5_, ⟨_, rfl⟩, hW, hsame.mono (by decide) (by decide)⟩
        · refine Gl.via (fun _ k => XS.ifYes X1.here hx rfl (pc0 := 47) (pc' := 55) rfl (hb hby d37_47) rfl ((if0 _ _).trans (feq hk4).2) (by decide) (by decide) k) ?_
          show Gl p.tables e below T1 (mkF m 55 #[.val (.ref sa), .val (.int ix), .val (.int n), .val (.int c0), .val (.int c1), .val (.int d0), .val (.int d1), .unset] []) G
          refine Gl.via (fun _ k => XS.iload X1.here hx rfl (hb hby d37_55) rfl k) ?_
          show Gl p.tables e below T1 (mkF m 57 #[.val (.ref sa), .val (.int ix), .val (.int n), .val (.int c0), .val (.int c1), .val (.int d0), .val (.int d1), .unset] [(.int d1)]) G
          refine Gl.via (fun _ k => XS.istore X1.here hx rfl (hb hby d37_57) rfl (l' := #[.val (.ref sa), .val (.int ix), .val (.int n), .val (.int c0), .val (.int c1), .val (.int d0), .val (.int d1), .val (.int d1)]) rfl k) ?_
          show Gl p.tables e below T1 (mkF m 59 #[.val (.ref sa), .val (.int ix), .val (.int n), .val (.int c0), .val (.int c1), .val (.int d0), .val (.int d1), .val (.int d1)] []) G
          refine Gl.via (fun _ k => XS.aloadN X1.here hx rfl (hb hby d37_59) rfl rfl k) ?_
          show Gl p.tables e below T1 (mkF m 60 #[.val (.ref sa), .val (.int ix), .val (.int n), .val (.int c0), .val (.int c1), .val (.int d0), .val (.int d1), .val (.int d1)] [(.ref sa)]) G
          refine Gl.via (fun _ k => XS.iloadN X1.here hx rfl (hb hby d37_60) rfl k) ?_
          show Gl p.tables e below T1 (mkF m 61 #[.val (.ref sa), .val (.int ix), .val (.int n), .val (.int c0), .val (.int c1), .val (.int d0), .val (.int d1), .val (.int d1)] [(.int ix), (.ref sa)]) G
          obtain ⟨cq6, kq6, q6a, q6b, q6c⟩ := isOf hZ eh1 F0_sa
          obtain ⟨_, _, ⟨T6, L6, k6, n6⟩, -, X6, ⟨Lc6, hQ6, l6, y6, z6⟩, st6⟩ := X1.virtualBack hx (y := (⟨"java/lang/String", "charAt", "(I)C"⟩ : MethodName)) (z := (⟨"java/lang/String", "charAt", "(I)C"⟩ : MethodName)) hown (mvT hZ (hw _ (List.mem_of_getElem? (i := 192) rfl))) (mvT hZ (hw _ (List.mem_of_getElem? (i := 193) rfl))) (notFace_of_selects (args := #[]) (mvT hZ (hw _ (List.mem_of_getElem? (i := 195) rfl)))) (mvT hZ (hw _ (List.mem_of_getElem? (i := 195) rfl))) (mvT hZ (hw _ (List.mem_of_getElem? (i := 194) rfl))) (by decide) (backOf (W := 0) (st_at l Z a0 hw [] sa sb sk scs ix ((own_E n c0 c1 d0 d1 ix).toInt8.toInt32) fm cps h0 n0 Z0 F0_sa F1_sa_coder F2_sa_value F3_sb F4_java_lang_String F5_jdk_internal_util_Preconditions F6_ hcps hfm (hpos hl).1 hl (hpos hl).2.1) hZ (hw _ (List.mem_of_getElem? (i := 196) rfl)) (hw _ (List.mem_of_getElem? (i := 6) rfl)) (by decide) (by decide)) q6a q6c (g := (mkF m 61 #[.val (.ref sa), .val (.int ix), .val (.int n), .val (.int c0), .val (.int c1), .val (.int d0), .val (.int d1), .val (.int d1)] [(.int ix), (.ref sa)])) rfl (by rw [hml]; rfl) (Steps.refl _) (argsL := [(.int ix)]) (rest := []) (lenOf pd_28 rfl) rfl (by show 2 * 0 + _ ≤ _; exact Nat.le_of_eq rfl) (hb hby d37_61) (fun _ _ => ⟨rfl, eh1, (by decide : 0 + 0 ≤ _), (by decide : 0 + 0 ≤ _)⟩)
          dsimp only [Pt.U, Pt.locs, Pt.cells, Pt.slots] at X6 l6 y6 z6 st6 hQ6
          subst l6 y6 z6
          obtain ⟨rfl, N6q, eh6⟩ := hQ6
          have N6_ := Fr.app N1_ N6q
          refine Gl.via (fun _ k => st6.trans k) ?_
          show Gl p.tables e below T6 (mkF m 64 #[.val (.ref sa), .val (.int ix), .val (.int n), .val (.int c0), .val (.int c1), .val (.int d0), .val (.int d1), .val (.int d1)] [(.int (((own_E n c0 c1 d0 d1 ix).toInt8.toInt32) &&& (255 : Int32)))]) G
          refine Gl.via (fun _ k => XS.iload X6.here hx rfl (hb hby d37_64) rfl k) ?_
          show Gl p.tables e below T6 (mkF m 66 #[.val (.ref sa), .val (.int ix), .val (.int n), .val (.int c0), .val (.int c1), .val (.int d0), .val (.int d1), .val (.int d1)] [(.int d1), (.int (((own_E n c0 c1 d0 d1 ix).toInt8.toInt32) &&& (255 : Int32)))]) G
          refine Gl.via (fun _ k => XS.icmpNo X6.here hx rfl (hb hby d37_66) rfl (teq ((hpos hl).2.2.trans (own_E5 hk1 hk3 hk4))).2 k) ?_
          show Gl p.tables e below T6 (mkF m 69 #[.val (.ref sa), .val (.int ix), .val (.int n), .val (.int c0), .val (.int c1), .val (.int d0), .val (.int d1), .val (.int d1)] []) G
          refine Gl.via (fun _ k => XS.iconst X6.here hx rfl (hb hby d37_69) k) ?_
          show Gl p.tables e below T6 (mkF m 70 #[.val (.ref sa), .val (.int ix), .val (.int n), .val (.int c0), .val (.int c1), .val (.int d0), .val (.int d1), .val (.int d1)] [(.int (1 : Int32))]) G
          refine Gl.via (fun _ k => XS.goto X6.here hx rfl (pc0 := 70) (pc' := 74) rfl (hb hby d37_70) (by decide) (by decide) k) ?_
          show Gl p.tables e below T6 (mkF m 74 #[.val (.ref sa), .val (.int ix), .val (.int n), .val (.int c0), .val (.int c1), .val (.int d0), .val (.int d1), .val (.int d1)] [(.int (1 : Int32))]) G
          obtain ⟨fs, hr, hrun, hended, hW, hsame⟩ := X6.leave (v := some (.int (1 : Int32))) (fun h => by rw [Bd.returns] at h; cases h)
          have hq : ∀ L, Fr n0 L → Q_at_ Z sa sb sk scs ix n c0 c1 d0 d1 fm cps h0 n0 (some (.int (1 : Int32))) T6.heap L := by
            intro L hN
            rw [eh6]
            exact ⟨rfl, hN, rfl⟩
          rw [hG]
          exact Gl.fin (retN X6 hx (t := .boolean) Bd.returns (by simp) (hb hby d37_74) hr) ⟨_, hrun, hended, _, _, rfl, hq _ N6_, ⟨_, rfl⟩, hW, hsame.mono (by decide) (by decide)⟩
  · refine Gl.via (fun _ k => XS.icmpNo X1.here hx rfl (hb hby d37_5) rfl (flt hl).1 k) ?_
    show Gl p.tables e below T1 (mkF m 8 #[.val (.ref sa), .val (.int ix), .val (.int n), .val (.int c0), .val (.int c1), .val (.int d0), .val (.int d1), .unset] []) G
    refine Gl.via (fun _ k => XS.iconst X1.here hx rfl (hb hby d37_8) k) ?_
    show Gl p.tables e below T1 (mkF m 9 #[.val (.ref sa), .val (.int ix), .val (.int n), .val (.int c0), .val (.int c1), .val (.int d0), .val (.int d1), .unset] [(.int (1 : Int32))]) G
    obtain ⟨fs, hr, hrun, hended, hW, hsame⟩ := X1.leave (v := some (.int (1 : Int32))) (fun h => by rw [Bd.returns] at h; cases h)
    have hq : ∀ L, Fr n0 L → Q_at_ Z sa sb sk scs ix n c0 c1 d0 d1 fm cps h0 n0 (some (.int (1 : Int32))) T1.heap L := by
      intro L hN
      rw [eh1]
      exact ⟨rfl, hN, rfl⟩
    rw [hG]
    exact Gl.fin (retN X1 hx (t := .boolean) Bd.returns (by simp) (hb hby d37_9) hr) ⟨_, hrun, hended, _, _, rfl, hq _ N1_, ⟨_, rfl⟩, hW, hsame.mono (by decide) (by decide)⟩
theorem own_pos {n m c0 c1 d0 d1 i : Int32} (hn : own_s2 n) (hm : own_s2 m) (hi : i = 0 ∨ i = 1 ∨ i = 2 ∨ i = 3 ∨ i = 4) (b0 : c0.toInt8.toInt32 &&& (255 : Int32) = c0) (b1 : c1.toInt8.toInt32 &&& (255 : Int32) = c1) (b2 : d0.toInt8.toInt32 &&& (255 : Int32) = d0) (b3 : d1.toInt8.toInt32 &&& (255 : Int32) = d1) : i < own_ln (own_scat (47 : Int32) n c0 c1 (0 : Int32) m d0 d1 (0 : Int32)) → ¬ (i < (0 : Int32)) ∧ ((own_scat (47 : Int32) n c0 c1 (0 : Int32) m d0 d1 (0 : Int32)).map Value.int).getD i.toNatClampNeg (.int (0 : Int32)) = .int (own_E n c0 c1 d0 d1 i).toInt8.toInt32 ∧ (own_E n c0 c1 d0 d1 i).toInt8.toInt32 &&& (255 : Int32) = own_E n c0 c1 d0 d1 i := by
  rw [own_scln (own_s2s hn) (own_s2s hm)]
  intro h
  have b4 : (47 : Int32).toInt8.toInt32 &&& (255 : Int32) = 47 := by decide
  refine ⟨?_, ?_⟩
  · rcases hi with rfl | rfl | rfl | rfl | rfl <;> decide
  · rcases hn with rfl | rfl | rfl <;> rcases hm with rfl | rfl | rfl <;> rcases hi with rfl | rfl | rfl | rfl | rfl <;> first | exact absurd h (by decide) | (rw [own_E1 (by decide) (by decide)]; exact ⟨rfl, b0⟩) | (rw [own_E2 (by decide) (by decide)]; exact ⟨rfl, b1⟩) | (rw [own_E3 (by decide) (by decide)]; exact ⟨rfl, b4⟩) | (rw [own_E4 (by decide) (by decide) (by decide)]; exact ⟨rfl, b2⟩) | (rw [own_E5 (by decide) (by decide) (by decide)]; exact ⟨rfl, b3⟩)
theorem pd_29 : parseMethodDescriptor "(ICC)Ljava/lang/String;" = some ⟨[.int, .char, .char], some (.object "java/lang/String")⟩ := by decide +kernel
theorem pd_30 : parseMethodDescriptor "(Ljava/lang/String;Ljava/lang/String;)V" = some ⟨[(.object "java/lang/String"), (.object "java/lang/String")], none⟩ := by decide +kernel
theorem pd_31 : parseMethodDescriptor "(Ljava/lang/Object;)Z" = some ⟨[(.object "java/lang/Object")], some .boolean⟩ := by decide +kernel
theorem pd_32 : parseMethodDescriptor "(Ljava/lang/String;IICCCC)Z" = some ⟨[(.object "java/lang/String"), .int, .int, .char, .char, .char, .char], some .boolean⟩ := by decide +kernel
theorem ef_rm0 (m : MethodId) (x0 : Int32) (x1 : Int32) (x2 : Int32) : entryFrame m #[(.int x0), (.int x1), (.int x2)] maxLocals = mkF m 0 #[.val (.int x0), .val (.int x1), .val (.int x2), .unset, .unset, .unset, .unset, .unset, .unset, .unset, .unset, .unset, .unset, .unset] [] := by first | (simp [entryFrame, mkF, argsToLocals, Value.category, maxLocals]; done) | rfl | (simp [entryFrame, mkF, argsToLocals, own_catI, own_catR, *]; done)
def Q_rm0 (Z : State) (p0 : Int32) (p1 : Int32) (p2 : Int32) (cps : Int32) (fm : Value) (h0 : Heap) (n0 : Nat) (v : Option Value) (h : Heap) (L : List Loc) : Prop := v = some (.int (1 : Int32)) ∧ Fr n0 L
set_option maxRecDepth 65536 in
set_option maxHeartbeats 40000000 in
theorem rm0 (l : Launch) (Z : State) (a0 : Array Value) (hw : ∀ d ∈ tables_1, d.before a0 Z = true) (ws : List Jvm.Cond) (p0 : Int32) (p1 : Int32) (p2 : Int32) (cps : Int32) (fm : Value) (h0 : Heap) (n0 : Nat) (Z0 : n0 ≤ h0.size) (F0_java_lang_String : Sta Z Z.heap "java/lang/String" "COMPACT_STRINGS" "Z" (.int cps)) (F1_jdk_internal_util_Preconditions : Sta Z Z.heap "jdk/internal/util/Preconditions" "SIOOBE_FORMATTER" "Ljava/util/function/BiFunction;" fm) (F2_ : Old Z n0 h0) (hcps : ¬ (cps = (0 : Int32))) (hfm : fm.category = 1) :
    MetFree l x (head1 (Jvm.Cond.code x code maxLocals ret :: ws) room_1) (fun a U => a = #[(.int p0), (.int p1), (.int p2)] ∧ Z.Warmed39 U.vm ∧ U.heap = h0 ∧ CHv Z own_EL U.vm h0 ∧ ∀ x ∈ ([] : List Addr), Safe Z own_EL U.vm h0 x) (fun _ _ _ _ _ => True) (fun _ U o U' => ∃ v L, o = .returned v ∧ Q_rm0 Z p0 p1 p2 cps fm h0 n0 v U'.heap L ∧ ReturnedEndW U o U' L 19 74) := by
  refine MetFree.of_bodySF (plainFor_of_name pn_8) hisR ?_
  intro p e s m args below meth c s₁ Bd hml0 hP hK
  obtain ⟨rfl, hZ, hh, hCH, hSF⟩ := hP
  have hx := Bd.exec
  have hby := Bd.bytes
  have hml : c.maxLocals = 14 := hml0
  have hown : s.vm.findClass "com/example/profile_to_target/profiletotarget/SfrIdToStringPinLaw" = some m.cls := findClass_of_methodNamed Bd.named
  have hnm := (name_of_methodNamed Bd.named Bd.method).1
  have X0 : Stand p l e room_1 (s.setVm s.vm) m #[(.int p0), (.int p1), (.int p2)] below meth c s₁ [] 0 0 := Stand.of_body Bd
  have e0 : s₁.heap = h0 := by rw [← hh, Bd.state]; rfl
  have N0 := Fr.nil n0
  have hS0 : s.Since s.vm 0 := (State.WarmedH.refl s).since 0
  have hk0 : 0 ≤ h0.size := Nat.zero_le _
  have hEL := own_ew hw
  have CR0 : CHr Z own_EL s.vm h0 s.vm h0 := CHr.refl hCH
  obtain ⟨G, hG⟩ : ∃ G : State → Prop, G = (fun U' => ∃ o, U'.status = .running ∧ Ended U' below o ∧ ∃ v L, o = .returned v ∧ Q_rm0 Z p0 p1 p2 cps fm h0 n0 v U'.heap L ∧ ReturnedEndW s o U' L 19 74) := ⟨_, rfl⟩
  suffices key : Gl p.tables e below s₁ (mkF m 0 #[.val (.int p0), .val (.int p1), .val (.int p2), .unset, .unset, .unset, .unset, .unset, .unset, .unset, .unset, .unset, .unset, .unset] []) G by
    obtain ⟨s₂, k1, k2⟩ := key
    rw [hG] at k2
    obtain ⟨o, k3, k4, k5⟩ := k2
    exact ⟨s₂, o, castTop (ef_rm0 m p0 p1 p2) k1, k3, k4, k5⟩
  show Gl p.tables e below s₁ (mkF m 0 #[.val (.int p0), .val (.int p1), .val (.int p2), .unset, .unset, .unset, .unset, .unset, .unset, .unset, .unset, .unset, .unset, .unset] []) G
  refine Gl.via (fun _ k => XS.iloadN X0.here hx rfl (hb hby at_0) rfl k) ?_
  show Gl p.tables e below s₁ (mkF m 1 #[.val (.int p0), .val (.int p1), .val (.int p2), .unset, .unset, .unset, .unset, .unset, .unset, .unset, .unset, .unset, .unset, .unset] [(.int p0)]) G
  refine Gl.via (fun _ k => XS.sipush X0.here hx rfl (hb hby at_1) k) ?_
  show Gl p.tables e below s₁ (mkF m 4 #[.val (.int p0), .val (.int p1), .val (.int p2), .unset, .unset, .unset, .unset, .unset, .unset, .unset, .unset, .unset, .unset, .unset] [(.int (255 : Int32)), (.int p0)]) G
  refine Gl.via (fun _ k => XS.iand X0.here hx rfl (hb hby at_4) rfl k) ?_
  show Gl p.tables e below s₁ (mkF m 5 #[.val (.int p0), .val (.int p1), .val (.int p2), .unset, .unset, .unset, .unset, .unset, .unset, .unset, .unset, .unset, .unset, .unset] [(.int (p0 &&& (255 : Int32)))]) G
  refine Gl.via (fun _ k => XS.i2c X0.here hx rfl (hb hby at_5) rfl k) ?_
  show Gl p.tables e below s₁ (mkF m 6 #[.val (.int p0), .val (.int p1), .val (.int p2), .unset, .unset, .unset, .unset, .unset, .unset, .unset, .unset, .unset, .unset, .unset] [(.int ((p0 &&& (255 : Int32)).toUInt32.toUInt16.toUInt32.toInt32))]) G
  rw [show ((p0 &&& (255 : Int32)).toUInt32.toUInt16.toUInt32.toInt32) = (p0 &&& (255 : Int32)) from (i2c_mask _)]
  show Gl p.tables e below s₁ (mkF m 6 #[.val (.int p0), .val (.int p1), .val (.int p2), .unset, .unset, .unset, .unset, .unset, .unset, .unset, .unset, .unset, .unset, .unset] [(.int (p0 &&& (255 : Int32)))]) G
  refine Gl.via (fun _ k => XS.istoreN X0.here hx rfl (hb hby at_6) rfl (l' := #[.val (.int p0), .val (.int p1), .val (.int p2), .val (.int (p0 &&& (255 : Int32))), .unset, .unset, .unset, .unset, .unset, .unset, .unset, .unset, .unset, .unset]) rfl k) ?_
  show Gl p.tables e below s₁ (mkF m 7 #[.val (.int p0), .val (.int p1), .val (.int p2), .val (.int (p0 &&& (255 : Int32))), .unset, .unset, .unset, .unset, .unset, .unset, .unset, .unset, .unset, .unset] []) G
  refine Gl.via (fun _ k => XS.iloadN X0.here hx rfl (hb hby at_7) rfl k) ?_
  show Gl p.tables e below s₁ (mkF m 8 #[.val (.int p0), .val (.int p1), .val (.int p2), .val (.int (p0 &&& (255 : Int32))), .unset, .unset, .unset, .unset, .unset, .unset, .unset, .unset, .unset, .unset] [(.int p0)]) G
  refine Gl.via (fun _ k => XS.bipush X0.here hx rfl (hb hby at_8) k) ?_
  show Gl p.tables e below s₁ (mkF m 10 #[.val (.int p0), .val (.int p1), .val (.int p2), .val (.int (p0 &&& (255 : Int32))), .unset, .unset, .unset, .unset, .unset, .unset, .unset, .unset, .unset, .unset] [(.int (8 : Int32)), (.int p0)]) G
  refine Gl.via (fun _ k => XS.iushr X0.here hx rfl (hb hby at_10) rfl k) ?_
  show Gl p.tables e below s₁ (mkF m 11 #[.val (.int p0), .val (.int p1), .val (.int p2), .val (.int (p0 &&& (255 : Int32))), .unset, .unset, .unset, .unset, .unset, .unset, .unset, .unset, .unset, .unset] [(.int ((p0.toUInt32 >>> ((8 : Int32) &&& 31).toUInt32).toInt32))]) G
  refine Gl.via (fun _ k => XS.sipush X0.here hx rfl (hb hby at_11) k) ?_
  show Gl p.tables e below s₁ (mkF m 14 #[.val (.int p0), .val (.int p1), .val (.int p2), .val (.int (p0 &&& (255 : Int32))), .unset, .unset, .unset, .unset, .unset, .unset, .unset, .unset, .unset, .unset] [(.int (255 : Int32)), (.int ((p0.toUInt32 >>> ((8 : Int32) &&& 31).toUInt32).toInt32))]) G
  refine Gl.via (fun _ k => XS.iand X0.here hx rfl (hb hby at_14) rfl k) ?_
  show Gl p.tables e below s₁ (mkF m 15 #[.val (.int p0), .val (.int p1), .val (.int p2), .val (.int (p0 &&& (255 : Int32))), .unset, .unset, .unset, .unset, .unset, .unset, .unset, .unset, .unset, .unset] [(.int (((p0.toUInt32 >>> ((8 : Int32) &&& 31).toUInt32).toInt32) &&& (255 : Int32)))]) G
  refine Gl.via (fun _ k => XS.i2c X0.here hx rfl (hb hby at_15) rfl k) ?_
  show Gl p.tables e below s₁ (mkF m 16 #[.val (.int p0), .val (.int p1), .val (.int p2), .val (.int (p0 &&& (255 : Int32))), .unset, .unset, .unset, .unset, .unset, .unset, .unset, .unset, .unset, .unset] [(.int ((((p0.toUInt32 >>> ((8 : Int32) &&& 31).toUInt32).toInt32) &&& (255 : Int32)).toUInt32.toUInt16.toUInt32.toInt32))]) G
  rw [show ((((p0.toUInt32 >>> ((8 : Int32) &&& 31).toUInt32).toInt32) &&& (255 : Int32)).toUInt32.toUInt16.toUInt32.toInt32) = ((p0.toUInt32 >>> ((8 : Int32) &&& 31).toUInt32).toInt32 &&& (255 : Int32)) from (i2c_mask _)]
  show Gl p.tables e below s₁ (mkF m 16 #[.val (.int p0), .val (.int p1), .val (.int p2), .val (.int (p0 &&& (255 : Int32))), .unset, .unset, .unset, .unset, .unset, .unset, .unset, .unset, .unset, .unset] [(.int ((p0.toUInt32 >>> ((8 : Int32) &&& 31).toUInt32).toInt32 &&& (255 : Int32)))]) G
  refine Gl.via (fun _ k => XS.istore X0.here hx rfl (hb hby at_16) rfl (l' := #[.val (.int p0), .val (.int p1), .val (.int p2), .val (.int (p0 &&& (255 : Int32))), .val (.int ((p0.toUInt32 >>> ((8 : Int32) &&& 31).toUInt32).toInt32 &&& (255 : Int32))), .unset, .unset, .unset, .unset, .unset, .unset, .unset, .unset, .unset]) rfl k) ?_
  show Gl p.tables e below s₁ (mkF m 18 #[.val (.int p0), .val (.int p1), .val (.int p2), .val (.int (p0 &&& (255 : Int32))), .val (.int ((p0.toUInt32 >>> ((8 : Int32) &&& 31).toUInt32).toInt32 &&& (255 : Int32))), .unset, .unset, .unset, .unset, .unset, .unset, .unset, .unset, .unset] []) G
  refine Gl.via (fun _ k => XS.iloadN X0.here hx rfl (hb hby at_18) rfl k) ?_
  show Gl p.tables e below s₁ (mkF m 19 #[.val (.int p0), .val (.int p1), .val (.int p2), .val (.int (p0 &&& (255 : Int32))), .val (.int ((p0.toUInt32 >>> ((8 : Int32) &&& 31).toUInt32).toInt32 &&& (255 : Int32))), .unset, .unset, .unset, .unset, .unset, .unset, .unset, .unset, .unset] [(.int p1)]) G
  refine Gl.via (fun _ k => XS.sipush X0.here hx rfl (hb hby at_19) k) ?_
  show Gl p.tables e below s₁ (mkF m 22 #[.val (.int p0), .val (.int p1), .val (.int p2), .val (.int (p0 &&& (255 : Int32))), .val (.int ((p0.toUInt32 >>> ((8 : Int32) &&& 31).toUInt32).toInt32 &&& (255 : Int32))), .unset, .unset, .unset, .unset, .unset, .unset, .unset, .unset, .unset] [(.int (255 : Int32)), (.int p1)]) G
  refine Gl.via (fun _ k => XS.iand X0.here hx rfl (hb hby at_22) rfl k) ?_
  show Gl p.tables e below s₁ (mkF m 23 #[.val (.int p0), .val (.int p1), .val (.int p2), .val (.int (p0 &&& (255 : Int32))), .val (.int ((p0.toUInt32 >>> ((8 : Int32) &&& 31).toUInt32).toInt32 &&& (255 : Int32))), .unset, .unset, .unset, .unset, .unset, .unset, .unset, .unset, .unset] [(.int (p1 &&& (255 : Int32)))]) G
  refine Gl.via (fun _ k => XS.i2c X0.here hx rfl (hb hby at_23) rfl k) ?_
  show Gl p.tables e below s₁ (mkF m 24 #[.val (.int p0), .val (.int p1), .val (.int p2), .val (.int (p0 &&& (255 : Int32))), .val (.int ((p0.toUInt32 >>> ((8 : Int32) &&& 31).toUInt32).toInt32 &&& (255 : Int32))), .unset, .unset, .unset, .unset, .unset, .unset, .unset, .unset, .unset] [(.int ((p1 &&& (255 : Int32)).toUInt32.toUInt16.toUInt32.toInt32))]) G
  rw [show ((p1 &&& (255 : Int32)).toUInt32.toUInt16.toUInt32.toInt32) = (p1 &&& (255 : Int32)) from (i2c_mask _)]
  show Gl p.tables e below s₁ (mkF m 24 #[.val (.int p0), .val (.int p1), .val (.int p2), .val (.int (p0 &&& (255 : Int32))), .val (.int ((p0.toUInt32 >>> ((8 : Int32) &&& 31).toUInt32).toInt32 &&& (255 : Int32))), .unset, .unset, .unset, .unset, .unset, .unset, .unset, .unset, .unset] [(.int (p1 &&& (255 : Int32)))]) G
  refine Gl.via (fun _ k => XS.istore X0.here hx rfl (hb hby at_24) rfl (l' := #[.val (.int p0), .val (.int p1), .val (.int p2), .val (.int (p0 &&& (255 : Int32))), .val (.int ((p0.toUInt32 >>> ((8 : Int32) &&& 31).toUInt32).toInt32 &&& (255 : Int32))), .val (.int (p1 &&& (255 : Int32))), .unset, .unset, .unset, .unset, .unset, .unset, .unset, .unset]) rfl k) ?_
  show Gl p.tables e below s₁ (mkF m 26 #[.val (.int p0), .val (.int p1), .val (.int p2), .val (.int (p0 &&& (255 : Int32))), .val (.int ((p0.toUInt32 >>> ((8 : Int32) &&& 31).toUInt32).toInt32 &&& (255 : Int32))), .val (.int (p1 &&& (255 : Int32))), .unset, .unset, .unset, .unset, .unset, .unset, .unset, .unset] []) G
  refine Gl.via (fun _ k => XS.iloadN X0.here hx rfl (hb hby at_26) rfl k) ?_
  show Gl p.tables e below s₁ (mkF m 27 #[.val (.int p0), .val (.int p1), .val (.int p2), .val (.int (p0 &&& (255 : Int32))), .val (.int ((p0.toUInt32 >>> ((8 : Int32) &&& 31).toUInt32).toInt32 &&& (255 : Int32))), .val (.int (p1 &&& (255 : Int32))), .unset, .unset, .unset, .unset, .unset, .unset, .unset, .unset] [(.int p1)]) G
  refine Gl.via (fun _ k => XS.bipush X0.here hx rfl (hb hby at_27) k) ?_
  show Gl p.tables e below s₁ (mkF m 29 #[.val (.int p0), .val (.int p1), .val (.int p2), .val (.int (p0 &&& (255 : Int32))), .val (.int ((p0.toUInt32 >>> ((8 : Int32) &&& 31).toUInt32).toInt32 &&& (255 : Int32))), .val (.int (p1 &&& (255 : Int32))), .unset, .unset, .unset, .unset, .unset, .unset, .unset, .unset] [(.int (8 : Int32)), (.int p1)]) G
  refine Gl.via (fun _ k => XS.iushr X0.here hx rfl (hb hby at_29) rfl k) ?_
  show Gl p.tables e below s₁ (mkF m 30 #[.val (.int p0), .val (.int p1), .val (.int p2), .val (.int (p0 &&& (255 : Int32))), .val (.int ((p0.toUInt32 >>> ((8 : Int32) &&& 31).toUInt32).toInt32 &&& (255 : Int32))), .val (.int (p1 &&& (255 : Int32))), .unset, .unset, .unset, .unset, .unset, .unset, .unset, .unset] [(.int ((p1.toUInt32 >>> ((8 : Int32) &&& 31).toUInt32).toInt32))]) G
  refine Gl.via (fun _ k => XS.sipush X0.here hx rfl (hb hby at_30) k) ?_
  show Gl p.tables e below s₁ (mkF m 33 #[.val (.int p0), .val (.int p1), .val (.int p2), .val (.int (p0 &&& (255 : Int32))), .val (.int ((p0.toUInt32 >>> ((8 : Int32) &&& 31).toUInt32).toInt32 &&& (255 : Int32))), .val (.int (p1 &&& (255 : Int32))), .unset, .unset, .unset, .unset, .unset, .unset, .unset, .unset] [(.int (255 : Int32)), (.int ((p1.toUInt32 >>> ((8 : Int32) &&& 31).toUInt32).toInt32))]) G
  refine Gl.via (fun _ k => XS.iand X0.here hx rfl (hb hby at_33) rfl k) ?_
  show Gl p.tables e below s₁ (mkF m 34 #[.val (.int p0), .val (.int p1), .val (.int p2), .val (.int (p0 &&& (255 : Int32))), .val (.int ((p0.toUInt32 >>> ((8 : Int32) &&& 31).toUInt32).toInt32 &&& (255 : Int32))), .val (.int (p1 &&& (255 : Int32))), .unset, .unset, .unset, .unset, .unset, .unset, .unset, .unset] [(.int (((p1.toUInt32 >>> ((8 : Int32) &&& 31).toUInt32).toInt32) &&& (255 : Int32)))]) G
  refine Gl.via (fun _ k => XS.i2c X0.here hx rfl (hb hby at_34) rfl k) ?_
  show Gl p.tables e below s₁ (mkF m 35 #[.val (.int p0), .val (.int p1), .val (.int p2), .val (.int (p0 &&& (255 : Int32))), .val (.int ((p0.toUInt32 >>> ((8 : Int32) &&& 31).toUInt32).toInt32 &&& (255 : Int32))), .val (.int (p1 &&& (255 : Int32))), .unset, .unset, .unset, .unset, .unset, .unset, .unset, .unset] [(.int ((((p1.toUInt32 >>> ((8 : Int32) &&& 31).toUInt32).toInt32) &&& (255 : Int32)).toUInt32.toUInt16.toUInt32.toInt32))]) G
  rw [show ((((p1.toUInt32 >>> ((8 : Int32) &&& 31).toUInt32).toInt32) &&& (255 : Int32)).toUInt32.toUInt16.toUInt32.toInt32) = ((p1.toUInt32 >>> ((8 : Int32) &&& 31).toUInt32).toInt32 &&& (255 : Int32)) from (i2c_mask _)]
  show Gl p.tables e below s₁ (mkF m 35 #[.val (.int p0), .val (.int p1), .val (.int p2), .val (.int (p0 &&& (255 : Int32))), .val (.int ((p0.toUInt32 >>> ((8 : Int32) &&& 31).toUInt32).toInt32 &&& (255 : Int32))), .val (.int (p1 &&& (255 : Int32))), .unset, .unset, .unset, .unset, .unset, .unset, .unset, .unset] [(.int ((p1.toUInt32 >>> ((8 : Int32) &&& 31).toUInt32).toInt32 &&& (255 : Int32)))]) G
  refine Gl.via (fun _ k => XS.istore X0.here hx rfl (hb hby at_35) rfl (l' := #[.val (.int p0), .val (.int p1), .val (.int p2), .val (.int (p0 &&& (255 : Int32))), .val (.int ((p0.toUInt32 >>> ((8 : Int32) &&& 31).toUInt32).toInt32 &&& (255 : Int32))), .val (.int (p1 &&& (255 : Int32))), .val (.int ((p1.toUInt32 >>> ((8 : Int32) &&& 31).toUInt32).toInt32 &&& (255 : Int32))), .unset, .unset, .unset, .unset, .unset, .unset, .unset]) rfl k) ?_
  show Gl p.tables e below s₁ (mkF m 37 #[.val (.int p0), .val (.int p1), .val (.int p2), .val (.int (p0 &&& (255 : Int32))), .val (.int ((p0.toUInt32 >>> ((8 : Int32) &&& 31).toUInt32).toInt32 &&& (255 : Int32))), .val (.int (p1 &&& (255 : Int32))), .val (.int ((p1.toUInt32 >>> ((8 : Int32) &&& 31).toUInt32).toInt32 &&& (255 : Int32))), .unset, .unset, .unset, .unset, .unset, .unset, .unset] []) G
  refine Gl.via (fun _ k => XS.iloadN X0.here hx rfl (hb hby at_37) rfl k) ?_
  show Gl p.tables e below s₁ (mkF m 38 #[.val (.int p0), .val (.int p1), .val (.int p2), .val (.int (p0 &&& (255 : Int32))), .val (.int ((p0.toUInt32 >>> ((8 : Int32) &&& 31).toUInt32).toInt32 &&& (255 : Int32))), .val (.int (p1 &&& (255 : Int32))), .val (.int ((p1.toUInt32 >>> ((8 : Int32) &&& 31).toUInt32).toInt32 &&& (255 : Int32))), .unset, .unset, .unset, .unset, .unset, .unset, .unset] [(.int p2)]) G
  refine Gl.via (fun _ k => XS.iconst X0.here hx rfl (hb hby at_38) k) ?_
  show Gl p.tables e below s₁ (mkF m 39 #[.val (.int p0), .val (.int p1), .val (.int p2), .val (.int (p0 &&& (255 : Int32))), .val (.int ((p0.toUInt32 >>> ((8 : Int32) &&& 31).toUInt32).toInt32 &&& (255 : Int32))), .val (.int (p1 &&& (255 : Int32))), .val (.int ((p1.toUInt32 >>> ((8 : Int32) &&& 31).toUInt32).toInt32 &&& (255 : Int32))), .unset, .unset, .unset, .unset, .unset, .unset, .unset] [(.int (3 : Int32)), (.int p2)]) G
  refine Gl.via (fun _ k => XS.iand X0.here hx rfl (hb hby at_39) rfl k) ?_
  show Gl p.tables e below s₁ (mkF m 40 #[.val (.int p0), .val (.int p1), .val (.int p2), .val (.int (p0 &&& (255 : Int32))), .val (.int ((p0.toUInt32 >>> ((8 : Int32) &&& 31).toUInt32).toInt32 &&& (255 : Int32))), .val (.int (p1 &&& (255 : Int32))), .val (.int ((p1.toUInt32 >>> ((8 : Int32) &&& 31).toUInt32).toInt32 &&& (255 : Int32))), .unset, .unset, .unset, .unset, .unset, .unset, .unset] [(.int (p2 &&& (3 : Int32)))]) G
  refine Gl.via (fun _ k => XS.iconst X0.here hx rfl (hb hby at_40) k) ?_
  show Gl p.tables e below s₁ (mkF m 41 #[.val (.int p0), .val (.int p1), .val (.int p2), .val (.int (p0 &&& (255 : Int32))), .val (.int ((p0.toUInt32 >>> ((8 : Int32) &&& 31).toUInt32).toInt32 &&& (255 : Int32))), .val (.int (p1 &&& (255 : Int32))), .val (.int ((p1.toUInt32 >>> ((8 : Int32) &&& 31).toUInt32).toInt32 &&& (255 : Int32))), .unset, .unset, .unset, .unset, .unset, .unset, .unset] [(.int (3 : Int32)), (.int (p2 &&& (3 : Int32)))]) G
  refine Gl.via (fun _ k => XS.irem X0.here hx rfl (hb hby at_41) rfl (by decide) k) ?_
  show Gl p.tables e below s₁ (mkF m 42 #[.val (.int p0), .val (.int p1), .val (.int p2), .val (.int (p0 &&& (255 : Int32))), .val (.int ((p0.toUInt32 >>> ((8 : Int32) &&& 31).toUInt32).toInt32 &&& (255 : Int32))), .val (.int (p1 &&& (255 : Int32))), .val (.int ((p1.toUInt32 >>> ((8 : Int32) &&& 31).toUInt32).toInt32 &&& (255 : Int32))), .unset, .unset, .unset, .unset, .unset, .unset, .unset] [(.int ((p2 &&& (3 : Int32)) - ((p2 &&& (3 : Int32)) / (3 : Int32)) * (3 : Int32)))]) G
  refine Gl.via (fun _ k => XS.istore X0.here hx rfl (hb hby at_42) rfl (l' := #[.val (.int p0), .val (.int p1), .val (.int p2), .val (.int (p0 &&& (255 : Int32))), .val (.int ((p0.toUInt32 >>> ((8 : Int32) &&& 31).toUInt32).toInt32 &&& (255 : Int32))), .val (.int (p1 &&& (255 : Int32))), .val (.int ((p1.toUInt32 >>> ((8 : Int32) &&& 31).toUInt32).toInt32 &&& (255 : Int32))), .val (.int ((p2 &&& (3 : Int32)) - ((p2 &&& (3 : Int32)) / (3 : Int32)) * (3 : Int32))), .unset, .unset, .unset, .unset, .unset, .unset]) rfl k) ?_
  show Gl p.tables e below s₁ (mkF m 44 #[.val (.int p0), .val (.int p1), .val (.int p2), .val (.int (p0 &&& (255 : Int32))), .val (.int ((p0.toUInt32 >>> ((8 : Int32) &&& 31).toUInt32).toInt32 &&& (255 : Int32))), .val (.int (p1 &&& (255 : Int32))), .val (.int ((p1.toUInt32 >>> ((8 : Int32) &&& 31).toUInt32).toInt32 &&& (255 : Int32))), .val (.int ((p2 &&& (3 : Int32)) - ((p2 &&& (3 : Int32)) / (3 : Int32)) * (3 : Int32))), .unset, .unset, .unset, .unset, .unset, .unset] []) G
  refine Gl.via (fun _ k => XS.iloadN X0.here hx rfl (hb hby at_44) rfl k) ?_
  show Gl p.tables e below s₁ (mkF m 45 #[.val (.int p0), .val (.int p1), .val (.int p2), .val (.int (p0 &&& (255 : Int32))), .val (.int ((p0.toUInt32 >>> ((8 : Int32) &&& 31).toUInt32).toInt32 &&& (255 : Int32))), .val (.int (p1 &&& (255 : Int32))), .val (.int ((p1.toUInt32 >>> ((8 : Int32) &&& 31).toUInt32).toInt32 &&& (255 : Int32))), .val (.int ((p2 &&& (3 : Int32)) - ((p2 &&& (3 : Int32)) / (3 : Int32)) * (3 : Int32))), .unset, .unset, .unset, .unset, .unset, .unset] [(.int p2)]) G
  refine Gl.via (fun _ k => XS.iconst X0.here hx rfl (hb hby at_45) k) ?_
  show Gl p.tables e below s₁ (mkF m 46 #[.val (.int p0), .val (.int p1), .val (.int p2), .val (.int (p0 &&& (255 : Int32))), .val (.int ((p0.toUInt32 >>> ((8 : Int32) &&& 31).toUInt32).toInt32 &&& (255 : Int32))), .val (.int (p1 &&& (255 : Int32))), .val (.int ((p1.toUInt32 >>> ((8 : Int32) &&& 31).toUInt32).toInt32 &&& (255 : Int32))), .val (.int ((p2 &&& (3 : Int32)) - ((p2 &&& (3 : Int32)) / (3 : Int32)) * (3 : Int32))), .unset, .unset, .unset, .unset, .unset, .unset] [(.int (2 : Int32)), (.int p2)]) G
  refine Gl.via (fun _ k => XS.iushr X0.here hx rfl (hb hby at_46) rfl k) ?_
  show Gl p.tables e below s₁ (mkF m 47 #[.val (.int p0), .val (.int p1), .val (.int p2), .val (.int (p0 &&& (255 : Int32))), .val (.int ((p0.toUInt32 >>> ((8 : Int32) &&& 31).toUInt32).toInt32 &&& (255 : Int32))), .val (.int (p1 &&& (255 : Int32))), .val (.int ((p1.toUInt32 >>> ((8 : Int32) &&& 31).toUInt32).toInt32 &&& (255 : Int32))), .val (.int ((p2 &&& (3 : Int32)) - ((p2 &&& (3 : Int32)) / (3 : Int32)) * (3 : Int32))), .unset, .unset, .unset, .unset, .unset, .unset] [(.int ((p2.toUInt32 >>> ((2 : Int32) &&& 31).toUInt32).toInt32))]) G
  refine Gl.via (fun _ k => XS.iconst X0.here hx rfl (hb hby at_47) k) ?_
  show Gl p.tables e below s₁ (mkF m 48 #[.val (.int p0), .val (.int p1), .val (.int p2), .val (.int (p0 &&& (255 : Int32))), .val (.int ((p0.toUInt32 >>> ((8 : Int32) &&& 31).toUInt32).toInt32 &&& (255 : Int32))), .val (.int (p1 &&& (255 : Int32))), .val (.int ((p1.toUInt32 >>> ((8 : Int32) &&& 31).toUInt32).toInt32 &&& (255 : Int32))), .val (.int ((p2 &&& (3 : Int32)) - ((p2 &&& (3 : Int32)) / (3 : Int32)) * (3 : Int32))), .unset, .unset, .unset, .unset, .unset, .unset] [(.int (3 : Int32)), (.int ((p2.toUInt32 >>> ((2 : Int32) &&& 31).toUInt32).toInt32))]) G
  refine Gl.via (fun _ k => XS.iand X0.here hx rfl (hb hby at_48) rfl k) ?_
  show Gl p.tables e below s₁ (mkF m 49 #[.val (.int p0), .val (.int p1), .val (.int p2), .val (.int (p0 &&& (255 : Int32))), .val (.int ((p0.toUInt32 >>> ((8 : Int32) &&& 31).toUInt32).toInt32 &&& (255 : Int32))), .val (.int (p1 &&& (255 : Int32))), .val (.int ((p1.toUInt32 >>> ((8 : Int32) &&& 31).toUInt32).toInt32 &&& (255 : Int32))), .val (.int ((p2 &&& (3 : Int32)) - ((p2 &&& (3 : Int32)) / (3 : Int32)) * (3 : Int32))), .unset, .unset, .unset, .unset, .unset, .unset] [(.int (((p2.toUInt32 >>> ((2 : Int32) &&& 31).toUInt32).toInt32) &&& (3 : Int32)))]) G
  refine Gl.via (fun _ k => XS.iconst X0.here hx rfl (hb hby at_49) k) ?_
  show Gl p.tables e below s₁ (mkF m 50 #[.val (.int p0), .val (.int p1), .val (.int p2), .val (.int (p0 &&& (255 : Int32))), .val (.int ((p0.toUInt32 >>> ((8 : Int32) &&& 31).toUInt32).toInt32 &&& (255 : Int32))), .val (.int (p1 &&& (255 : Int32))), .val (.int ((p1.toUInt32 >>> ((8 : Int32) &&& 31).toUInt32).toInt32 &&& (255 : Int32))), .val (.int ((p2 &&& (3 : Int32)) - ((p2 &&& (3 : Int32)) / (3 : Int32)) * (3 : Int32))), .unset, .unset, .unset, .unset, .unset, .unset] [(.int (3 : Int32)), (.int (((p2.toUInt32 >>> ((2 : Int32) &&& 31).toUInt32).toInt32) &&& (3 : Int32)))]) G
  refine Gl.via (fun _ k => XS.irem X0.here hx rfl (hb hby at_50) rfl (by decide) k) ?_
  show Gl p.tables e below s₁ (mkF m 51 #[.val (.int p0), .val (.int p1), .val (.int p2), .val (.int (p0 &&& (255 : Int32))), .val (.int ((p0.toUInt32 >>> ((8 : Int32) &&& 31).toUInt32).toInt32 &&& (255 : Int32))), .val (.int (p1 &&& (255 : Int32))), .val (.int ((p1.toUInt32 >>> ((8 : Int32) &&& 31).toUInt32).toInt32 &&& (255 : Int32))), .val (.int ((p2 &&& (3 : Int32)) - ((p2 &&& (3 : Int32)) / (3 : Int32)) * (3 : Int32))), .unset, .unset, .unset, .unset, .unset, .unset] [(.int ((((p2.toUInt32 >>> ((2 : Int32) &&& 31).toUInt32).toInt32) &&& (3 : Int32)) - ((((p2.toUInt32 >>> ((2 : Int32) &&& 31).toUInt32).toInt32) &&& (3 : Int32)) / (3 : Int32)) * (3 : Int32)))]) G
  refine Gl.via (fun _ k => XS.istore X0.here hx rfl (hb hby at_51) rfl (l' := #[.val (.int p0), .val (.int p1), .val (.int p2), .val (.int (p0 &&& (255 : Int32))), .val (.int ((p0.toUInt32 >>> ((8 : Int32) &&& 31).toUInt32).toInt32 &&& (255 : Int32))), .val (.int (p1 &&& (255 : Int32))), .val (.int ((p1.toUInt32 >>> ((8 : Int32) &&& 31).toUInt32).toInt32 &&& (255 : Int32))), .val (.int ((p2 &&& (3 : Int32)) - ((p2 &&& (3 : Int32)) / (3 : Int32)) * (3 : Int32))), .val (.int ((((p2.toUInt32 >>> ((2 : Int32) &&& 31).toUInt32).toInt32) &&& (3 : Int32)) - ((((p2.toUInt32 >>> ((2 : Int32) &&& 31).toUInt32).toInt32) &&& (3 : Int32)) / (3 : Int32)) * (3 : Int32))), .unset, .unset, .unset, .unset, .unset]) rfl k) ?_
  show Gl p.tables e below s₁ (mkF m 53 #[.val (.int p0), .val (.int p1), .val (.int p2), .val (.int (p0 &&& (255 : Int32))), .val (.int ((p0.toUInt32 >>> ((8 : Int32) &&& 31).toUInt32).toInt32 &&& (255 : Int32))), .val (.int (p1 &&& (255 : Int32))), .val (.int ((p1.toUInt32 >>> ((8 : Int32) &&& 31).toUInt32).toInt32 &&& (255 : Int32))), .val (.int ((p2 &&& (3 : Int32)) - ((p2 &&& (3 : Int32)) / (3 : Int32)) * (3 : Int32))), .val (.int ((((p2.toUInt32 >>> ((2 : Int32) &&& 31).toUInt32).toInt32) &&& (3 : Int32)) - ((((p2.toUInt32 >>> ((2 : Int32) &&& 31).toUInt32).toInt32) &&& (3 : Int32)) / (3 : Int32)) * (3 : Int32))), .unset, .unset, .unset, .unset, .unset] []) G
  refine Gl.via (fun _ k => XS.iloadN X0.here hx rfl (hb hby at_53) rfl k) ?_
  show Gl p.tables e below s₁ (mkF m 54 #[.val (.int p0), .val (.int p1), .val (.int p2), .val (.int (p0 &&& (255 : Int32))), .val (.int ((p0.toUInt32 >>> ((8 : Int32) &&& 31).toUInt32).toInt32 &&& (255 : Int32))), .val (.int (p1 &&& (255 : Int32))), .val (.int ((p1.toUInt32 >>> ((8 : Int32) &&& 31).toUInt32).toInt32 &&& (255 : Int32))), .val (.int ((p2 &&& (3 : Int32)) - ((p2 &&& (3 : Int32)) / (3 : Int32)) * (3 : Int32))), .val (.int ((((p2.toUInt32 >>> ((2 : Int32) &&& 31).toUInt32).toInt32) &&& (3 : Int32)) - ((((p2.toUInt32 >>> ((2 : Int32) &&& 31).toUInt32).toInt32) &&& (3 : Int32)) / (3 : Int32)) * (3 : Int32))), .unset, .unset, .unset, .unset, .unset] [(.int p2)]) G
  refine Gl.via (fun _ k => XS.iconst X0.here hx rfl (hb hby at_54) k) ?_
  show Gl p.tables e below s₁ (mkF m 55 #[.val (.int p0), .val (.int p1), .val (.int p2), .val (.int (p0 &&& (255 : Int32))), .val (.int ((p0.toUInt32 >>> ((8 : Int32) &&& 31).toUInt32).toInt32 &&& (255 : Int32))), .val (.int (p1 &&& (255 : Int32))), .val (.int ((p1.toUInt32 >>> ((8 : Int32) &&& 31).toUInt32).toInt32 &&& (255 : Int32))), .val (.int ((p2 &&& (3 : Int32)) - ((p2 &&& (3 : Int32)) / (3 : Int32)) * (3 : Int32))), .val (.int ((((p2.toUInt32 >>> ((2 : Int32) &&& 31).toUInt32).toInt32) &&& (3 : Int32)) - ((((p2.toUInt32 >>> ((2 : Int32) &&& 31).toUInt32).toInt32) &&& (3 : Int32)) / (3 : Int32)) * (3 : Int32))), .unset, .unset, .unset, .unset, .unset] [(.int (4 : Int32)), (.int p2)]) G
  refine Gl.via (fun _ k => XS.iushr X0.here hx rfl (hb hby at_55) rfl k) ?_
  show Gl p.tables e below s₁ (mkF m 56 #[.val (.int p0), .val (.int p1), .val (.int p2), .val (.int (p0 &&& (255 : Int32))), .val (.int ((p0.toUInt32 >>> ((8 : Int32) &&& 31).toUInt32).toInt32 &&& (255 : Int32))), .val (.int (p1 &&& (255 : Int32))), .val (.int ((p1.toUInt32 >>> ((8 : Int32) &&& 31).toUInt32).toInt32 &&& (255 : Int32))), .val (.int ((p2 &&& (3 : Int32)) - ((p2 &&& (3 : Int32)) / (3 : Int32)) * (3 : Int32))), .val (.int ((((p2.toUInt32 >>> ((2 : Int32) &&& 31).toUInt32).toInt32) &&& (3 : Int32)) - ((((p2.toUInt32 >>> ((2 : Int32) &&& 31).toUInt32).toInt32) &&& (3 : Int32)) / (3 : Int32)) * (3 : Int32))), .unset, .unset, .unset, .unset, .unset] [(.int ((p2.toUInt32 >>> ((4 : Int32) &&& 31).toUInt32).toInt32))]) G
  refine Gl.via (fun _ k => XS.iconst X0.here hx rfl (hb hby at_56) k) ?_
  show Gl p.tables e below s₁ (mkF m 57 #[.val (.int p0), .val (.int p1), .val (.int p2), .val (.int (p0 &&& (255 : Int32))), .val (.int ((p0.toUInt32 >>> ((8 : Int32) &&& 31).toUInt32).toInt32 &&& (255 : Int32))), .val (.int (p1 &&& (255 : Int32))), .val (.int ((p1.toUInt32 >>> ((8 : Int32) &&& 31).toUInt32).toInt32 &&& (255 : Int32))), .val (.int ((p2 &&& (3 : Int32)) - ((p2 &&& (3 : Int32)) / (3 : Int32)) * (3 : Int32))), .val (.int ((((p2.toUInt32 >>> ((2 : Int32) &&& 31).toUInt32).toInt32) &&& (3 : Int32)) - ((((p2.toUInt32 >>> ((2 : Int32) &&& 31).toUInt32).toInt32) &&& (3 : Int32)) / (3 : Int32)) * (3 : Int32))), .unset, .unset, .unset, .unset, .unset] [(.int (1 : Int32)), (.int ((p2.toUInt32 >>> ((4 : Int32) &&& 31).toUInt32).toInt32))]) G
  refine Gl.via (fun _ k => XS.iand X0.here hx rfl (hb hby at_57) rfl k) ?_
  show Gl p.tables e below s₁ (mkF m 58 #[.val (.int p0), .val (.int p1), .val (.int p2), .val (.int (p0 &&& (255 : Int32))), .val (.int ((p0.toUInt32 >>> ((8 : Int32) &&& 31).toUInt32).toInt32 &&& (255 : Int32))), .val (.int (p1 &&& (255 : Int32))), .val (.int ((p1.toUInt32 >>> ((8 : Int32) &&& 31).toUInt32).toInt32 &&& (255 : Int32))), .val (.int ((p2 &&& (3 : Int32)) - ((p2 &&& (3 : Int32)) / (3 : Int32)) * (3 : Int32))), .val (.int ((((p2.toUInt32 >>> ((2 : Int32) &&& 31).toUInt32).toInt32) &&& (3 : Int32)) - ((((p2.toUInt32 >>> ((2 : Int32) &&& 31).toUInt32).toInt32) &&& (3 : Int32)) / (3 : Int32)) * (3 : Int32))), .unset, .unset, .unset, .unset, .unset] [(.int (((p2.toUInt32 >>> ((4 : Int32) &&& 31).toUInt32).toInt32) &&& (1 : Int32)))]) G
  by_cases hz : (((p2.toUInt32 >>> ((4 : Int32) &&& 31).toUInt32).toInt32) &&& (1 : Int32)) = (0 : Int32)
  · refine Gl.via (fun _ k => XS.ifYes X0.here hx rfl (pc0 := 58) (pc' := 65) rfl (hb hby at_58) rfl ((if0 _ _).trans (teq hz).1) (by decide) (by decide) k) ?_
    show Gl p.tables e below s₁ (mkF m 65 #[.val (.int p0), .val (.int p1), .val (.int p2), .val (.int (p0 &&& (255 : Int32))), .val (.int ((p0.toUInt32 >>> ((8 : Int32) &&& 31).toUInt32).toInt32 &&& (255 : Int32))), .val (.int (p1 &&& (255 : Int32))), .val (.int ((p1.toUInt32 >>> ((8 : Int32) &&& 31).toUInt32).toInt32 &&& (255 : Int32))), .val (.int ((p2 &&& (3 : Int32)) - ((p2 &&& (3 : Int32)) / (3 : Int32)) * (3 : Int32))), .val (.int ((((p2.toUInt32 >>> ((2 : Int32) &&& 31).toUInt32).toInt32) &&& (3 : Int32)) - ((((p2.toUInt32 >>> ((2 : Int32) &&& 31).toUInt32).toInt32) &&& (3 : Int32)) / (3 : Int32)) * (3 : Int32))), .unset, .unset, .unset, .unset, .unset] []) G
    refine Gl.via (fun _ k => XS.iconst X0.here hx rfl (hb hby at_65) k) ?_
    show Gl p.tables e below s₁ (mkF m 66 #[.val (.int p0), .val (.int p1), .val (.int p2), .val (.int (p0 &&& (255 : Int32))), .val (.int ((p0.toUInt32 >>> ((8 : Int32) &&& 31).toUInt32).toInt32 &&& (255 : Int32))), .val (.int (p1 &&& (255 : Int32))), .val (.int ((p1.toUInt32 >>> ((8 : Int32) &&& 31).toUInt32).toInt32 &&& (255 : Int32))), .val (.int ((p2 &&& (3 : Int32)) - ((p2 &&& (3 : Int32)) / (3 : Int32)) * (3 : Int32))), .val (.int ((((p2.toUInt32 >>> ((2 : Int32) &&& 31).toUInt32).toInt32) &&& (3 : Int32)) - ((((p2.toUInt32 >>> ((2 : Int32) &&& 31).toUInt32).toInt32) &&& (3 : Int32)) / (3 : Int32)) * (3 : Int32))), .unset, .unset, .unset, .unset, .unset] [(.int (0 : Int32))]) G
    refine Gl.via (fun _ k => XS.istore X0.here hx rfl (hb hby at_66) rfl (l' := #[.val (.int p0), .val (.int p1), .val (.int p2), .val (.int (p0 &&& (255 : Int32))), .val (.int ((p0.toUInt32 >>> ((8 : Int32) &&& 31).toUInt32).toInt32 &&& (255 : Int32))), .val (.int (p1 &&& (255 : Int32))), .val (.int ((p1.toUInt32 >>> ((8 : Int32) &&& 31).toUInt32).toInt32 &&& (255 : Int32))), .val (.int ((p2 &&& (3 : Int32)) - ((p2 &&& (3 : Int32)) / (3 : Int32)) * (3 : Int32))), .val (.int ((((p2.toUInt32 >>> ((2 : Int32) &&& 31).toUInt32).toInt32) &&& (3 : Int32)) - ((((p2.toUInt32 >>> ((2 : Int32) &&& 31).toUInt32).toInt32) &&& (3 : Int32)) / (3 : Int32)) * (3 : Int32))), .val (.int (0 : Int32)), .unset, .unset, .unset, .unset]) rfl k) ?_
    show Gl p.tables e below s₁ (mkF m 68 #[.val (.int p0), .val (.int p1), .val (.int p2), .val (.int (p0 &&& (255 : Int32))), .val (.int ((p0.toUInt32 >>> ((8 : Int32) &&& 31).toUInt32).toInt32 &&& (255 : Int32))), .val (.int (p1 &&& (255 : Int32))), .val (.int ((p1.toUInt32 >>> ((8 : Int32) &&& 31).toUInt32).toInt32 &&& (255 : Int32))), .val (.int ((p2 &&& (3 : Int32)) - ((p2 &&& (3 : Int32)) / (3 : Int32)) * (3 : Int32))), .val (.int ((((p2.toUInt32 >>> ((2 : Int32) &&& 31).toUInt32).toInt32) &&& (3 : Int32)) - ((((p2.toUInt32 >>> ((2 : Int32) &&& 31).toUInt32).toInt32) &&& (3 : Int32)) / (3 : Int32)) * (3 : Int32))), .val (.int (0 : Int32)), .unset, .unset, .unset, .unset] []) G
    refine Gl.via (fun _ k => XS.iload X0.here hx rfl (hb hby at_68) rfl k) ?_
    show Gl p.tables e below s₁ (mkF m 70 #[.val (.int p0), .val (.int p1), .val (.int p2), .val (.int (p0 &&& (255 : Int32))), .val (.int ((p0.toUInt32 >>> ((8 : Int32) &&& 31).toUInt32).toInt32 &&& (255 : Int32))), .val (.int (p1 &&& (255 : Int32))), .val (.int ((p1.toUInt32 >>> ((8 : Int32) &&& 31).toUInt32).toInt32 &&& (255 : Int32))), .val (.int ((p2 &&& (3 : Int32)) - ((p2 &&& (3 : Int32)) / (3 : Int32)) * (3 : Int32))), .val (.int ((((p2.toUInt32 >>> ((2 : Int32) &&& 31).toUInt32).toInt32) &&& (3 : Int32)) - ((((p2.toUInt32 >>> ((2 : Int32) &&& 31).toUInt32).toInt32) &&& (3 : Int32)) / (3 : Int32)) * (3 : Int32))), .val (.int (0 : Int32)), .unset, .unset, .unset, .unset] [(.int ((p2 &&& (3 : Int32)) - ((p2 &&& (3 : Int32)) / (3 : Int32)) * (3 : Int32)))]) G
    refine Gl.via (fun _ k => XS.iloadN X0.here hx rfl (hb hby at_70) rfl k) ?_
    show Gl p.tables e below s₁ (mkF m 71 #[.val (.int p0), .val (.int p1), .val (.int p2), .val (.int (p0 &&& (255 : Int32))), .val (.int ((p0.toUInt32 >>> ((8 : Int32) &&& 31).toUInt32).toInt32 &&& (255 : Int32))), .val (.int (p1 &&& (255 : Int32))), .val (.int ((p1.toUInt32 >>> ((8 : Int32) &&& 31).toUInt32).toInt32 &&& (255 : Int32))), .val (.int ((p2 &&& (3 : Int32)) - ((p2 &&& (3 : Int32)) / (3 : Int32)) * (3 : Int32))), .val (.int ((((p2.toUInt32 >>> ((2 : Int32) &&& 31).toUInt32).toInt32) &&& (3 : Int32)) - ((((p2.toUInt32 >>> ((2 : Int32) &&& 31).toUInt32).toInt32) &&& (3 : Int32)) / (3 : Int32)) * (3 : Int32))), .val (.int (0 : Int32)), .unset, .unset, .unset, .unset] [(.int (p0 &&& (255 : Int32))), (.int ((p2 &&& (3 : Int32)) - ((p2 &&& (3 : Int32)) / (3 : Int32)) * (3 : Int32)))]) G
    refine Gl.via (fun _ k => XS.iload X0.here hx rfl (hb hby at_71) rfl k) ?_
    show Gl p.tables e below s₁ (mkF m 73 #[.val (.int p0), .val (.int p1), .val (.int p2), .val (.int (p0 &&& (255 : Int32))), .val (.int ((p0.toUInt32 >>> ((8 : Int32) &&& 31).toUInt32).toInt32 &&& (255 : Int32))), .val (.int (p1 &&& (255 : Int32))), .val (.int ((p1.toUInt32 >>> ((8 : Int32) &&& 31).toUInt32).toInt32 &&& (255 : Int32))), .val (.int ((p2 &&& (3 : Int32)) - ((p2 &&& (3 : Int32)) / (3 : Int32)) * (3 : Int32))), .val (.int ((((p2.toUInt32 >>> ((2 : Int32) &&& 31).toUInt32).toInt32) &&& (3 : Int32)) - ((((p2.toUInt32 >>> ((2 : Int32) &&& 31).toUInt32).toInt32) &&& (3 : Int32)) / (3 : Int32)) * (3 : Int32))), .val (.int (0 : Int32)), .unset, .unset, .unset, .unset] [(.int ((p0.toUInt32 >>> ((8 : Int32) &&& 31).toUInt32).toInt32 &&& (255 : Int32))), (.int (p0 &&& (255 : Int32))), (.int ((p2 &&& (3 : Int32)) - ((p2 &&& (3 : Int32)) / (3 : Int32)) * (3 : Int32)))]) G
    obtain ⟨_, _, ⟨T1, L1, k1, n1⟩, -, Xb1, hSb1, hgb1, ⟨Lc1, hQ1, l1, y1, z1, hC1⟩, st1⟩ := callSS X0 hx (y := (⟨"com/example/profile_to_target/profiletotarget/SfrIdToStringPinLaw", "make", "(ICC)Ljava/lang/String;"⟩ : MethodName)) hown (mvT hZ (hw _ (List.mem_of_getElem? (i := 0) rfl))) (mvT hZ (hw _ (List.mem_of_getElem? (i := 1) rfl))) (mvT hZ (hw _ (List.mem_of_getElem? (i := 2) rfl))) (mvT hZ (hw _ (List.mem_of_getElem? (i := 3) rfl))) (by decide) (own_back (W := 0) (mkstr l Z a0 hw [] ((p2 &&& (3 : Int32)) - ((p2 &&& (3 : Int32)) / (3 : Int32)) * (3 : Int32)) (p0 &&& (255 : Int32)) ((p0.toUInt32 >>> ((8 : Int32) &&& 31).toUInt32).toInt32 &&& (255 : Int32)) cps h0 n0 Z0 F0_java_lang_String F2_ hcps (own_mb _).2 (own_mb _).2 (own_mb _).1 (own_mb _).1 (own_r3 _)) hZ (hw _ (List.mem_of_getElem? (i := 3) rfl)) (hw _ (List.mem_of_getElem? (i := 2) rfl)) (by decide) (by decide) hEL CR0.1 (fun _ z => nomatch z)) (g := (mkF m 73 #[.val (.int p0), .val (.int p1), .val (.int p2), .val (.int (p0 &&& (255 : Int32))), .val (.int ((p0.toUInt32 >>> ((8 : Int32) &&& 31).toUInt32).toInt32 &&& (255 : Int32))), .val (.int (p1 &&& (255 : Int32))), .val (.int ((p1.toUInt32 >>> ((8 : Int32) &&& 31).toUInt32).toInt32 &&& (255 : Int32))), .val (.int ((p2 &&& (3 : Int32)) - ((p2 &&& (3 : Int32)) / (3 : Int32)) * (3 : Int32))), .val (.int ((((p2.toUInt32 >>> ((2 : Int32) &&& 31).toUInt32).toInt32) &&& (3 : Int32)) - ((((p2.toUInt32 >>> ((2 : Int32) &&& 31).toUInt32).toInt32) &&& (3 : Int32)) / (3 : Int32)) * (3 : Int32))), .val (.int (0 : Int32)), .unset, .unset, .unset, .unset] [(.int ((p0.toUInt32 >>> ((8 : Int32) &&& 31).toUInt32).toInt32 &&& (255 : Int32))), (.int (p0 &&& (255 : Int32))), (.int ((p2 &&& (3 : Int32)) - ((p2 &&& (3 : Int32)) / (3 : Int32)) * (3 : Int32)))])) rfl (by rw [hml]; rfl) (argsL := [(.int ((p2 &&& (3 : Int32)) - ((p2 &&& (3 : Int32)) / (3 : Int32)) * (3 : Int32))), (.int (p0 &&& (255 : Int32))), (.int ((p0.toUInt32 >>> ((8 : Int32) &&& 31).toUInt32).toInt32 &&& (255 : Int32)))]) (rest := []) (lenOf pd_29 rfl) rfl (by show 2 * 0 + _ ≤ _; exact Nat.le_of_eq rfl) (hb hby at_73) (fun _ _ => ⟨rfl, e0, (by decide : 0 + 6 ≤ _), (by decide : 0 + 12 ≤ _)⟩)
    dsimp only [Pt.U, Pt.locs, Pt.cells, Pt.slots] at Xb1 hSb1 hgb1 l1 y1 z1 st1 hQ1 hC1
    subst l1 y1 z1
    obtain ⟨X1, hS1, hZ1, hown1⟩ := rebS hS0 (by rw [e0]; exact hk0) Xb1 hSb1 hgb1 hZ hown
    have hk1 : T1.heap.size ≤ T1.heap.size := Nat.le_refl _
    obtain ⟨sa_1, sb_1, sk_1, rfl, N1q, K1, P2, P3, P4, P5, R6⟩ := hQ1
    have N1_ := Fr.app N0 N1q
    refine Gl.via (fun _ k => st1.trans k) ?_
    have ge7 : n0 ≤ sa_1 := Nat.le_trans Z0 R6
    have gz8 : h0.size ≤ sa_1 := Nat.le_trans (Nat.le_refl h0.size) R6
    have CR9 : CHr Z own_EL s.vm h0 T1.vm T1.heap := CHr.trans CR0 hC1
    have Z10 : n0 ≤ T1.heap.size := Nat.le_trans Z0 K1.1
    have Y11 : h0.size ≤ T1.heap.size := Nat.le_trans (Nat.le_refl h0.size) K1.1
    have hl12 := Nat.le_trans hk0 K1.1
    show Gl p.tables e below T1 (mkF m 76 #[.val (.int p0), .val (.int p1), .val (.int p2), .val (.int (p0 &&& (255 : Int32))), .val (.int ((p0.toUInt32 >>> ((8 : Int32) &&& 31).toUInt32).toInt32 &&& (255 : Int32))), .val (.int (p1 &&& (255 : Int32))), .val (.int ((p1.toUInt32 >>> ((8 : Int32) &&& 31).toUInt32).toInt32 &&& (255 : Int32))), .val (.int ((p2 &&& (3 : Int32)) - ((p2 &&& (3 : Int32)) / (3 : Int32)) * (3 : Int32))), .val (.int ((((p2.toUInt32 >>> ((2 : Int32) &&& 31).toUInt32).toInt32) &&& (3 : Int32)) - ((((p2.toUInt32 >>> ((2 : Int32) &&& 31).toUInt32).toInt32) &&& (3 : Int32)) / (3 : Int32)) * (3 : Int32))), .val (.int (0 : Int32)), .unset, .unset, .unset, .unset] [(.ref sa_1)]) G
    refine Gl.via (fun _ k => XS.astore X1.here hx rfl (hb hby at_76) rfl rfl (l' := #[.val (.int p0), .val (.int p1), .val (.int p2), .val (.int (p0 &&& (255 : Int32))), .val (.int ((p0.toUInt32 >>> ((8 : Int32) &&& 31).toUInt32).toInt32 &&& (255 : Int32))), .val (.int (p1 &&& (255 : Int32))), .val (.int ((p1.toUInt32 >>> ((8 : Int32) &&& 31).toUInt32).toInt32 &&& (255 : Int32))), .val (.int ((p2 &&& (3 : Int32)) - ((p2 &&& (3 : Int32)) / (3 : Int32)) * (3 : Int32))), .val (.int ((((p2.toUInt32 >>> ((2 : Int32) &&& 31).toUInt32).toInt32) &&& (3 : Int32)) - ((((p2.toUInt32 >>> ((2 : Int32) &&& 31).toUInt32).toInt32) &&& (3 : Int32)) / (3 : Int32)) * (3 : Int32))), .val (.int (0 : Int32)), .val (.ref sa_1), .unset, .unset, .unset]) rfl k) ?_
    show Gl p.tables e below T1 (mkF m 78 #[.val (.int p0), .val (.int p1), .val (.int p2), .val (.int (p0 &&& (255 : Int32))), .val (.int ((p0.toUInt32 >>> ((8 : Int32) &&& 31).toUInt32).toInt32 &&& (255 : Int32))), .val (.int (p1 &&& (255 : Int32))), .val (.int ((p1.toUInt32 >>> ((8 : Int32) &&& 31).toUInt32).toInt32 &&& (255 : Int32))), .val (.int ((p2 &&& (3 : Int32)) - ((p2 &&& (3 : Int32)) / (3 : Int32)) * (3 : Int32))), .val (.int ((((p2.toUInt32 >>> ((2 : Int32) &&& 31).toUInt32).toInt32) &&& (3 : Int32)) - ((((p2.toUInt32 >>> ((2 : Int32) &&& 31).toUInt32).toInt32) &&& (3 : Int32)) / (3 : Int32)) * (3 : Int32))), .val (.int (0 : Int32)), .val (.ref sa_1), .unset, .unset, .unset] []) G
    refine Gl.via (fun _ k => XS.iload X1.here hx rfl (hb hby at_78) rfl k) ?_
    show Gl p.tables e below T1 (mkF m 80 #[.val (.int p0), .val (.int p1), .val (.int p2), .val (.int (p0 &&& (255 : Int32))), .val (.int ((p0.toUInt32 >>> ((8 : Int32) &&& 31).toUInt32).toInt32 &&& (255 : Int32))), .val (.int (p1 &&& (255 : Int32))), .val (.int ((p1.toUInt32 >>> ((8 : Int32) &&& 31).toUInt32).toInt32 &&& (255 : Int32))), .val (.int ((p2 &&& (3 : Int32)) - ((p2 &&& (3 : Int32)) / (3 : Int32)) * (3 : Int32))), .val (.int ((((p2.toUInt32 >>> ((2 : Int32) &&& 31).toUInt32).toInt32) &&& (3 : Int32)) - ((((p2.toUInt32 >>> ((2 : Int32) &&& 31).toUInt32).toInt32) &&& (3 : Int32)) / (3 : Int32)) * (3 : Int32))), .val (.int (0 : Int32)), .val (.ref sa_1), .unset, .unset, .unset] [(.int (0 : Int32))]) G
    refine Gl.via (fun _ k => XS.ifYes X1.here hx rfl (pc0 := 80) (pc' := 95) rfl (hb hby at_80) rfl ((if0 _ _).trans (teq (by decide)).1) (by decide) (by decide) k) ?_
    show Gl p.tables e below T1 (mkF m 95 #[.val (.int p0), .val (.int p1), .val (.int p2), .val (.int (p0 &&& (255 : Int32))), .val (.int ((p0.toUInt32 >>> ((8 : Int32) &&& 31).toUInt32).toInt32 &&& (255 : Int32))), .val (.int (p1 &&& (255 : Int32))), .val (.int ((p1.toUInt32 >>> ((8 : Int32) &&& 31).toUInt32).toInt32 &&& (255 : Int32))), .val (.int ((p2 &&& (3 : Int32)) - ((p2 &&& (3 : Int32)) / (3 : Int32)) * (3 : Int32))), .val (.int ((((p2.toUInt32 >>> ((2 : Int32) &&& 31).toUInt32).toInt32) &&& (3 : Int32)) - ((((p2.toUInt32 >>> ((2 : Int32) &&& 31).toUInt32).toInt32) &&& (3 : Int32)) / (3 : Int32)) * (3 : Int32))), .val (.int (0 : Int32)), .val (.ref sa_1), .unset, .unset, .unset] []) G
    refine Gl.via (fun _ k => XS.aconstNull X1.here hx rfl (hb hby at_95) k) ?_
    show Gl p.tables e below T1 (mkF m 96 #[.val (.int p0), .val (.int p1), .val (.int p2), .val (.int (p0 &&& (255 : Int32))), .val (.int ((p0.toUInt32 >>> ((8 : Int32) &&& 31).toUInt32).toInt32 &&& (255 : Int32))), .val (.int (p1 &&& (255 : Int32))), .val (.int ((p1.toUInt32 >>> ((8 : Int32) &&& 31).toUInt32).toInt32 &&& (255 : Int32))), .val (.int ((p2 &&& (3 : Int32)) - ((p2 &&& (3 : Int32)) / (3 : Int32)) * (3 : Int32))), .val (.int ((((p2.toUInt32 >>> ((2 : Int32) &&& 31).toUInt32).toInt32) &&& (3 : Int32)) - ((((p2.toUInt32 >>> ((2 : Int32) &&& 31).toUInt32).toInt32) &&& (3 : Int32)) / (3 : Int32)) * (3 : Int32))), .val (.int (0 : Int32)), .val (.ref sa_1), .unset, .unset, .unset] [.null]) G
    refine Gl.via (fun _ k => XS.astore X1.here hx rfl (hb hby at_96) rfl rfl (l' := #[.val (.int p0), .val (.int p1), .val (.int p2), .val (.int (p0 &&& (255 : Int32))), .val (.int ((p0.toUInt32 >>> ((8 : Int32) &&& 31).toUInt32).toInt32 &&& (255 : Int32))), .val (.int (p1 &&& (255 : Int32))), .val (.int ((p1.toUInt32 >>> ((8 : Int32) &&& 31).toUInt32).toInt32 &&& (255 : Int32))), .val (.int ((p2 &&& (3 : Int32)) - ((p2 &&& (3 : Int32)) / (3 : Int32)) * (3 : Int32))), .val (.int ((((p2.toUInt32 >>> ((2 : Int32) &&& 31).toUInt32).toInt32) &&& (3 : Int32)) - ((((p2.toUInt32 >>> ((2 : Int32) &&& 31).toUInt32).toInt32) &&& (3 : Int32)) / (3 : Int32)) * (3 : Int32))), .val (.int (0 : Int32)), .val (.ref sa_1), .val .null, .unset, .unset]) rfl k) ?_
    show Gl p.tables e below T1 (mkF m 98 #[.val (.int p0), .val (.int p1), .val (.int p2), .val (.int (p0 &&& (255 : Int32))), .val (.int ((p0.toUInt32 >>> ((8 : Int32) &&& 31).toUInt32).toInt32 &&& (255 : Int32))), .val (.int (p1 &&& (255 : Int32))), .val (.int ((p1.toUInt32 >>> ((8 : Int32) &&& 31).toUInt32).toInt32 &&& (255 : Int32))), .val (.int ((p2 &&& (3 : Int32)) - ((p2 &&& (3 : Int32)) / (3 : Int32)) * (3 : Int32))), .val (.int ((((p2.toUInt32 >>> ((2 : Int32) &&& 31).toUInt32).toInt32) &&& (3 : Int32)) - ((((p2.toUInt32 >>> ((2 : Int32) &&& 31).toUInt32).toInt32) &&& (3 : Int32)) / (3 : Int32)) * (3 : Int32))), .val (.int (0 : Int32)), .val (.ref sa_1), .val .null, .unset, .unset] []) G
    obtain ⟨T13, h13, X13, e13, E13, A13, D13, -, st13⟩ := newO X1 hx hZ1 hown1 (hw _ (List.mem_of_getElem? (i := 34) rfl)) (hw _ (List.mem_of_getElem? (i := 35) rfl)) (hw _ (List.mem_of_getElem? (i := 36) rfl)) rfl (g := (mkF m 98 #[.val (.int p0), .val (.int p1), .val (.int p2), .val (.int (p0 &&& (255 : Int32))), .val (.int ((p0.toUInt32 >>> ((8 : Int32) &&& 31).toUInt32).toInt32 &&& (255 : Int32))), .val (.int (p1 &&& (255 : Int32))), .val (.int ((p1.toUInt32 >>> ((8 : Int32) &&& 31).toUInt32).toInt32 &&& (255 : Int32))), .val (.int ((p2 &&& (3 : Int32)) - ((p2 &&& (3 : Int32)) / (3 : Int32)) * (3 : Int32))), .val (.int ((((p2.toUInt32 >>> ((2 : Int32) &&& 31).toUInt32).toInt32) &&& (3 : Int32)) - ((((p2.toUInt32 >>> ((2 : Int32) &&& 31).toUInt32).toInt32) &&& (3 : Int32)) / (3 : Int32)) * (3 : Int32))), .val (.int (0 : Int32)), .val (.ref sa_1), .val .null, .unset, .unset] [])) rfl (hb hby at_98) (by decide) (by decide)
    obtain ⟨b13, g13⟩ : ∃ z, z = T1.heap.size := ⟨_, rfl⟩
    rw [← g13] at A13 D13 st13
    have ne14 : sa_1 ≠ b13 := Nat.ne_of_lt (Nat.lt_of_lt_of_le P2.lt (Nat.le_of_eq g13.symm))
    have ne15 : sb_1 ≠ b13 := Nat.ne_of_lt (Nat.lt_of_lt_of_le P5.lt (Nat.le_of_eq g13.symm))
    have ge16 : n0 ≤ b13 := Nat.le_trans Z10 (Nat.le_of_eq g13.symm)
    have gz17 : h0.size ≤ b13 := Nat.le_trans Y11 (Nat.le_of_eq g13.symm)
    have CR18 : CHr Z own_EL s.vm h0 T1.vm h13 := CHr.trans CR9 (CHr.ext E13 CR9.1)
    have SF19 : Safe Z own_EL T1.vm h13 b13 := Safe.ext E13 CR9.1 (Safe.new (Nat.le_of_eq g13.symm))
    refine Gl.via st13 ?_
    have Z20 : n0 ≤ h13.size := Nat.le_trans Z10 E13.1
    have Y21 : h0.size ≤ h13.size := Nat.le_trans Y11 E13.1
    have hl22 := Nat.le_trans hk1 E13.1
    have F23 : Fld Z h13 b13 "com/example/profile_to_target/profiletotarget/SfrId" "component" "Ljava/lang/String;" .null := D13 (Or.inr (hw _ (List.mem_of_getElem? (i := 47) rfl))) (ty := (.object "java/lang/String")) (by decide)
    have F24 : Fld Z h13 b13 "com/example/profile_to_target/profiletotarget/SfrId" "iteration" "Ljava/lang/String;" .null := D13 (Or.inr (hw _ (List.mem_of_getElem? (i := 49) rfl))) (ty := (.object "java/lang/String")) (by decide)
    show Gl p.tables e below T13 (mkF m 101 #[.val (.int p0), .val (.int p1), .val (.int p2), .val (.int (p0 &&& (255 : Int32))), .val (.int ((p0.toUInt32 >>> ((8 : Int32) &&& 31).toUInt32).toInt32 &&& (255 : Int32))), .val (.int (p1 &&& (255 : Int32))), .val (.int ((p1.toUInt32 >>> ((8 : Int32) &&& 31).toUInt32).toInt32 &&& (255 : Int32))), .val (.int ((p2 &&& (3 : Int32)) - ((p2 &&& (3 : Int32)) / (3 : Int32)) * (3 : Int32))), .val (.int ((((p2.toUInt32 >>> ((2 : Int32) &&& 31).toUInt32).toInt32) &&& (3 : Int32)) - ((((p2.toUInt32 >>> ((2 : Int32) &&& 31).toUInt32).toInt32) &&& (3 : Int32)) / (3 : Int32)) * (3 : Int32))), .val (.int (0 : Int32)), .val (.ref sa_1), .val .null, .unset, .unset] [(.ref b13)]) G
    refine Gl.via (fun _ k => XS.dup X13.here hx rfl (hb hby at_101) rfl rfl k) ?_
    show Gl p.tables e below T13 (mkF m 102 #[.val (.int p0), .val (.int p1), .val (.int p2), .val (.int (p0 &&& (255 : Int32))), .val (.int ((p0.toUInt32 >>> ((8 : Int32) &&& 31).toUInt32).toInt32 &&& (255 : Int32))), .val (.int (p1 &&& (255 : Int32))), .val (.int ((p1.toUInt32 >>> ((8 : Int32) &&& 31).toUInt32).toInt32 &&& (255 : Int32))), .val (.int ((p2 &&& (3 : Int32)) - ((p2 &&& (3 : Int32)) / (3 : Int32)) * (3 : Int32))), .val (.int ((((p2.toUInt32 >>> ((2 : Int32) &&& 31).toUInt32).toInt32) &&& (3 : Int32)) - ((((p2.toUInt32 >>> ((2 : Int32) &&& 31).toUInt32).toInt32) &&& (3 : Int32)) / (3 : Int32)) * (3 : Int32))), .val (.int (0 : Int32)), .val (.ref sa_1), .val .null, .unset, .unset] [(.ref b13), (.ref b13)]) G
    refine Gl.via (fun _ k => XS.aload X13.here hx rfl (hb hby at_102) rfl rfl k) ?_
    show Gl p.tables e below T13 (mkF m 104 #[.val (.int p0), .val (.int p1), .val (.int p2), .val (.int (p0 &&& (255 : Int32))), .val (.int ((p0.toUInt32 >>> ((8 : Int32) &&& 31).toUInt32).toInt32 &&& (255 : Int32))), .val (.int (p1 &&& (255 : Int32))), .val (.int ((p1.toUInt32 >>> ((8 : Int32) &&& 31).toUInt32).toInt32 &&& (255 : Int32))), .val (.int ((p2 &&& (3 : Int32)) - ((p2 &&& (3 : Int32)) / (3 : Int32)) * (3 : Int32))), .val (.int ((((p2.toUInt32 >>> ((2 : Int32) &&& 31).toUInt32).toInt32) &&& (3 : Int32)) - ((((p2.toUInt32 >>> ((2 : Int32) &&& 31).toUInt32).toInt32) &&& (3 : Int32)) / (3 : Int32)) * (3 : Int32))), .val (.int (0 : Int32)), .val (.ref sa_1), .val .null, .unset, .unset] [(.ref sa_1), (.ref b13), (.ref b13)]) G
    refine Gl.via (fun _ k => XS.aload X13.here hx rfl (hb hby at_104) rfl rfl k) ?_
    show Gl p.tables e below T13 (mkF m 106 #[.val (.int p0), .val (.int p1), .val (.int p2), .val (.int (p0 &&& (255 : Int32))), .val (.int ((p0.toUInt32 >>> ((8 : Int32) &&& 31).toUInt32).toInt32 &&& (255 : Int32))), .val (.int (p1 &&& (255 : Int32))), .val (.int ((p1.toUInt32 >>> ((8 : Int32) &&& 31).toUInt32).toInt32 &&& (255 : Int32))), .val (.int ((p2 &&& (3 : Int32)) - ((p2 &&& (3 : Int32)) / (3 : Int32)) * (3 : Int32))), .val (.int ((((p2.toUInt32 >>> ((2 : Int32) &&& 31).toUInt32).toInt32) &&& (3 : Int32)) - ((((p2.toUInt32 >>> ((2 : Int32) &&& 31).toUInt32).toInt32) &&& (3 : Int32)) / (3 : Int32)) * (3 : Int32))), .val (.int (0 : Int32)), .val (.ref sa_1), .val .null, .unset, .unset] [.null, (.ref sa_1), (.ref b13), (.ref b13)]) G
    obtain ⟨_, _, ⟨T25, L25, k25, n25⟩, -, X25, ⟨Lc25, hQ25, l25, y25, z25⟩, st25⟩ := X13.specialBack hx (y := (⟨"com/example/profile_to_target/profiletotarget/SfrId", "<init>", "(Ljava/lang/String;Ljava/lang/String;)V"⟩ : MethodName)) rfl hown1 (mvT hZ1 (hw _ (List.mem_of_getElem? (i := 37) rfl))) (mvT hZ1 (hw _ (List.mem_of_getElem? (i := 38) rfl))) (mvT hZ1 (hw _ (List.mem_of_getElem? (i := 39) rfl))) (by decide) (backOf (W := 1) (sf_init0 l Z a0 hw [] b13 sa_1 .null .null h13 n0 Z20 A13 F23 F24 ge16) hZ1 (hw _ (List.mem_of_getElem? (i := 39) rfl)) (hw _ (List.mem_of_getElem? (i := 36) rfl)) (by decide) (by decide)) (g := (mkF m 106 #[.val (.int p0), .val (.int p1), .val (.int p2), .val (.int (p0 &&& (255 : Int32))), .val (.int ((p0.toUInt32 >>> ((8 : Int32) &&& 31).toUInt32).toInt32 &&& (255 : Int32))), .val (.int (p1 &&& (255 : Int32))), .val (.int ((p1.toUInt32 >>> ((8 : Int32) &&& 31).toUInt32).toInt32 &&& (255 : Int32))), .val (.int ((p2 &&& (3 : Int32)) - ((p2 &&& (3 : Int32)) / (3 : Int32)) * (3 : Int32))), .val (.int ((((p2.toUInt32 >>> ((2 : Int32) &&& 31).toUInt32).toInt32) &&& (3 : Int32)) - ((((p2.toUInt32 >>> ((2 : Int32) &&& 31).toUInt32).toInt32) &&& (3 : Int32)) / (3 : Int32)) * (3 : Int32))), .val (.int (0 : Int32)), .val (.ref sa_1), .val .null, .unset, .unset] [.null, (.ref sa_1), (.ref b13), (.ref b13)])) rfl (by rw [hml]; rfl) (Steps.refl _) (a := b13) (argsL := [(.ref sa_1), .null]) (rest := [(.ref b13)]) (lenOf pd_30 rfl) rfl (by show 2 * 0 + _ ≤ _; exact Nat.le_of_eq rfl) (hb hby at_106) (fun _ _ => ⟨rfl, e13, (by decide : 7 + 0 ≤ _), (by decide : 14 + 0 ≤ _)⟩)
    dsimp only [Pt.U, Pt.locs, Pt.cells, Pt.slots] at X25 l25 y25 z25 st25 hQ25
    subst l25 y25 z25
    obtain ⟨rfl, N25q, K25, P26, P27, P28⟩ := hQ25
    have N25_ := Fr.app N1_ N25q
    refine Gl.via (fun _ k => st25.trans k) ?_
    have CR29 : CHr Z own_EL s.vm h0 T1.vm T25.heap := CHr.trans CR18 (CHr.keep K25 (sfS SF19 sf0) CR18.1)
    have SF30 : Safe Z own_EL T1.vm T25.heap b13 := Safe.keep K25 (sfS SF19 sf0) CR18.1 SF19
    have Z31 : n0 ≤ T25.heap.size := Nat.le_trans Z20 K25.1
    have Y32 : h0.size ≤ T25.heap.size := Nat.le_trans Y21 K25.1
    have hl33 := Nat.le_trans hl22 K25.1
    show Gl p.tables e below T25 (mkF m 109 #[.val (.int p0), .val (.int p1), .val (.int p2), .val (.int (p0 &&& (255 : Int32))), .val (.int ((p0.toUInt32 >>> ((8 : Int32) &&& 31).toUInt32).toInt32 &&& (255 : Int32))), .val (.int (p1 &&& (255 : Int32))), .val (.int ((p1.toUInt32 >>> ((8 : Int32) &&& 31).toUInt32).toInt32 &&& (255 : Int32))), .val (.int ((p2 &&& (3 : Int32)) - ((p2 &&& (3 : Int32)) / (3 : Int32)) * (3 : Int32))), .val (.int ((((p2.toUInt32 >>> ((2 : Int32) &&& 31).toUInt32).toInt32) &&& (3 : Int32)) - ((((p2.toUInt32 >>> ((2 : Int32) &&& 31).toUInt32).toInt32) &&& (3 : Int32)) / (3 : Int32)) * (3 : Int32))), .val (.int (0 : Int32)), .val (.ref sa_1), .val .null, .unset, .unset] [(.ref b13)]) G
    obtain ⟨cq34, kq34, q34a, q34b, q34c⟩ := isOf hZ1 rfl P26
    obtain ⟨_, _, ⟨T34, L34, k34, n34⟩, -, X34, ⟨Lc34, hQ34, l34, y34, z34⟩, st34⟩ := X25.virtualBack hx (y := (⟨"com/example/profile_to_target/profiletotarget/SfrId", "toString", "()Ljava/lang/String;"⟩ : MethodName)) (z := (⟨"com/example/profile_to_target/profiletotarget/SfrId", "toString", "()Ljava/lang/String;"⟩ : MethodName)) hown1 (mvT hZ1 (hw _ (List.mem_of_getElem? (i := 50) rfl))) (mvT hZ1 (hw _ (List.mem_of_getElem? (i := 51) rfl))) (notFace_of_selects (args := #[]) (mvT hZ1 (hw _ (List.mem_of_getElem? (i := 53) rfl)))) (mvT hZ1 (hw _ (List.mem_of_getElem? (i := 53) rfl))) (mvT hZ1 (hw _ (List.mem_of_getElem? (i := 52) rfl))) (by decide) (backOf (W := 0) (sf_str0 l Z a0 hw [] b13 sa_1 T25.heap n0 Z31 P27 P28) hZ1 (hw _ (List.mem_of_getElem? (i := 54) rfl)) (hw _ (List.mem_of_getElem? (i := 36) rfl)) (by decide) (by decide)) q34a q34c (g := (mkF m 109 #[.val (.int p0), .val (.int p1), .val (.int p2), .val (.int (p0 &&& (255 : Int32))), .val (.int ((p0.toUInt32 >>> ((8 : Int32) &&& 31).toUInt32).toInt32 &&& (255 : Int32))), .val (.int (p1 &&& (255 : Int32))), .val (.int ((p1.toUInt32 >>> ((8 : Int32) &&& 31).toUInt32).toInt32 &&& (255 : Int32))), .val (.int ((p2 &&& (3 : Int32)) - ((p2 &&& (3 : Int32)) / (3 : Int32)) * (3 : Int32))), .val (.int ((((p2.toUInt32 >>> ((2 : Int32) &&& 31).toUInt32).toInt32) &&& (3 : Int32)) - ((((p2.toUInt32 >>> ((2 : Int32) &&& 31).toUInt32).toInt32) &&& (3 : Int32)) / (3 : Int32)) * (3 : Int32))), .val (.int (0 : Int32)), .val (.ref sa_1), .val .null, .unset, .unset] [(.ref b13)])) rfl (by rw [hml]; rfl) (Steps.refl _) (argsL := []) (rest := []) (lenOf pd_27 rfl) rfl (by show 2 * 0 + _ ≤ _; exact Nat.le_of_eq rfl) (hb hby at_109) (fun _ _ => ⟨rfl, rfl, (by decide : 7 + 0 ≤ _), (by decide : 14 + 0 ≤ _)⟩)
    dsimp only [Pt.U, Pt.locs, Pt.cells, Pt.slots] at X34 l34 y34 z34 st34 hQ34
    subst l34 y34 z34
    obtain ⟨rfl, N34q, eh34⟩ := hQ34
    have N34_ := Fr.app N25_ N34q
    refine Gl.via (fun _ k => st34.trans k) ?_
    show Gl p.tables e below T34 (mkF m 112 #[.val (.int p0), .val (.int p1), .val (.int p2), .val (.int (p0 &&& (255 : Int32))), .val (.int ((p0.toUInt32 >>> ((8 : Int32) &&& 31).toUInt32).toInt32 &&& (255 : Int32))), .val (.int (p1 &&& (255 : Int32))), .val (.int ((p1.toUInt32 >>> ((8 : Int32) &&& 31).toUInt32).toInt32 &&& (255 : Int32))), .val (.int ((p2 &&& (3 : Int32)) - ((p2 &&& (3 : Int32)) / (3 : Int32)) * (3 : Int32))), .val (.int ((((p2.toUInt32 >>> ((2 : Int32) &&& 31).toUInt32).toInt32) &&& (3 : Int32)) - ((((p2.toUInt32 >>> ((2 : Int32) &&& 31).toUInt32).toInt32) &&& (3 : Int32)) / (3 : Int32)) * (3 : Int32))), .val (.int (0 : Int32)), .val (.ref sa_1), .val .null, .unset, .unset] [(.ref sa_1)]) G
    refine Gl.via (fun _ k => XS.astore X34.here hx rfl (hb hby at_112) rfl rfl (l' := #[.val (.int p0), .val (.int p1), .val (.int p2), .val (.int (p0 &&& (255 : Int32))), .val (.int ((p0.toUInt32 >>> ((8 : Int32) &&& 31).toUInt32).toInt32 &&& (255 : Int32))), .val (.int (p1 &&& (255 : Int32))), .val (.int ((p1.toUInt32 >>> ((8 : Int32) &&& 31).toUInt32).toInt32 &&& (255 : Int32))), .val (.int ((p2 &&& (3 : Int32)) - ((p2 &&& (3 : Int32)) / (3 : Int32)) * (3 : Int32))), .val (.int ((((p2.toUInt32 >>> ((2 : Int32) &&& 31).toUInt32).toInt32) &&& (3 : Int32)) - ((((p2.toUInt32 >>> ((2 : Int32) &&& 31).toUInt32).toInt32) &&& (3 : Int32)) / (3 : Int32)) * (3 : Int32))), .val (.int (0 : Int32)), .val (.ref sa_1), .val .null, .val (.ref sa_1), .unset]) rfl k) ?_
    show Gl p.tables e below T34 (mkF m 114 #[.val (.int p0), .val (.int p1), .val (.int p2), .val (.int (p0 &&& (255 : Int32))), .val (.int ((p0.toUInt32 >>> ((8 : Int32) &&& 31).toUInt32).toInt32 &&& (255 : Int32))), .val (.int (p1 &&& (255 : Int32))), .val (.int ((p1.toUInt32 >>> ((8 : Int32) &&& 31).toUInt32).toInt32 &&& (255 : Int32))), .val (.int ((p2 &&& (3 : Int32)) - ((p2 &&& (3 : Int32)) / (3 : Int32)) * (3 : Int32))), .val (.int ((((p2.toUInt32 >>> ((2 : Int32) &&& 31).toUInt32).toInt32) &&& (3 : Int32)) - ((((p2.toUInt32 >>> ((2 : Int32) &&& 31).toUInt32).toInt32) &&& (3 : Int32)) / (3 : Int32)) * (3 : Int32))), .val (.int (0 : Int32)), .val (.ref sa_1), .val .null, .val (.ref sa_1), .unset] []) G
    refine Gl.via (fun _ k => XS.aload X34.here hx rfl (hb hby at_114) rfl rfl k) ?_
    show Gl p.tables e below T34 (mkF m 116 #[.val (.int p0), .val (.int p1), .val (.int p2), .val (.int (p0 &&& (255 : Int32))), .val (.int ((p0.toUInt32 >>> ((8 : Int32) &&& 31).toUInt32).toInt32 &&& (255 : Int32))), .val (.int (p1 &&& (255 : Int32))), .val (.int ((p1.toUInt32 >>> ((8 : Int32) &&& 31).toUInt32).toInt32 &&& (255 : Int32))), .val (.int ((p2 &&& (3 : Int32)) - ((p2 &&& (3 : Int32)) / (3 : Int32)) * (3 : Int32))), .val (.int ((((p2.toUInt32 >>> ((2 : Int32) &&& 31).toUInt32).toInt32) &&& (3 : Int32)) - ((((p2.toUInt32 >>> ((2 : Int32) &&& 31).toUInt32).toInt32) &&& (3 : Int32)) / (3 : Int32)) * (3 : Int32))), .val (.int (0 : Int32)), .val (.ref sa_1), .val .null, .val (.ref sa_1), .unset] [(.ref sa_1)]) G
    refine Gl.via (fun _ k => XS.ifnonnullYes X34.here hx rfl (pc0 := 116) (pc' := 121) rfl (hb hby at_116) rfl (by decide) (by decide) k) ?_
    show Gl p.tables e below T34 (mkF m 121 #[.val (.int p0), .val (.int p1), .val (.int p2), .val (.int (p0 &&& (255 : Int32))), .val (.int ((p0.toUInt32 >>> ((8 : Int32) &&& 31).toUInt32).toInt32 &&& (255 : Int32))), .val (.int (p1 &&& (255 : Int32))), .val (.int ((p1.toUInt32 >>> ((8 : Int32) &&& 31).toUInt32).toInt32 &&& (255 : Int32))), .val (.int ((p2 &&& (3 : Int32)) - ((p2 &&& (3 : Int32)) / (3 : Int32)) * (3 : Int32))), .val (.int ((((p2.toUInt32 >>> ((2 : Int32) &&& 31).toUInt32).toInt32) &&& (3 : Int32)) - ((((p2.toUInt32 >>> ((2 : Int32) &&& 31).toUInt32).toInt32) &&& (3 : Int32)) / (3 : Int32)) * (3 : Int32))), .val (.int (0 : Int32)), .val (.ref sa_1), .val .null, .val (.ref sa_1), .unset] []) G
    refine Gl.via (fun _ k => XS.iload X34.here hx rfl (hb hby at_121) rfl k) ?_
    show Gl p.tables e below T34 (mkF m 123 #[.val (.int p0), .val (.int p1), .val (.int p2), .val (.int (p0 &&& (255 : Int32))), .val (.int ((p0.toUInt32 >>> ((8 : Int32) &&& 31).toUInt32).toInt32 &&& (255 : Int32))), .val (.int (p1 &&& (255 : Int32))), .val (.int ((p1.toUInt32 >>> ((8 : Int32) &&& 31).toUInt32).toInt32 &&& (255 : Int32))), .val (.int ((p2 &&& (3 : Int32)) - ((p2 &&& (3 : Int32)) / (3 : Int32)) * (3 : Int32))), .val (.int ((((p2.toUInt32 >>> ((2 : Int32) &&& 31).toUInt32).toInt32) &&& (3 : Int32)) - ((((p2.toUInt32 >>> ((2 : Int32) &&& 31).toUInt32).toInt32) &&& (3 : Int32)) / (3 : Int32)) * (3 : Int32))), .val (.int (0 : Int32)), .val (.ref sa_1), .val .null, .val (.ref sa_1), .unset] [(.int (0 : Int32))]) G
    refine Gl.via (fun _ k => XS.ifNo X34.here hx rfl (hb hby at_123) rfl ((if0 _ _).trans (teq (by decide)).2) k) ?_
    show Gl p.tables e below T34 (mkF m 126 #[.val (.int p0), .val (.int p1), .val (.int p2), .val (.int (p0 &&& (255 : Int32))), .val (.int ((p0.toUInt32 >>> ((8 : Int32) &&& 31).toUInt32).toInt32 &&& (255 : Int32))), .val (.int (p1 &&& (255 : Int32))), .val (.int ((p1.toUInt32 >>> ((8 : Int32) &&& 31).toUInt32).toInt32 &&& (255 : Int32))), .val (.int ((p2 &&& (3 : Int32)) - ((p2 &&& (3 : Int32)) / (3 : Int32)) * (3 : Int32))), .val (.int ((((p2.toUInt32 >>> ((2 : Int32) &&& 31).toUInt32).toInt32) &&& (3 : Int32)) - ((((p2.toUInt32 >>> ((2 : Int32) &&& 31).toUInt32).toInt32) &&& (3 : Int32)) / (3 : Int32)) * (3 : Int32))), .val (.int (0 : Int32)), .val (.ref sa_1), .val .null, .val (.ref sa_1), .unset] []) G
    refine Gl.via (fun _ k => XS.aload X34.here hx rfl (hb hby at_126) rfl rfl k) ?_
    show Gl p.tables e below T34 (mkF m 128 #[.val (.int p0), .val (.int p1), .val (.int p2), .val (.int (p0 &&& (255 : Int32))), .val (.int ((p0.toUInt32 >>> ((8 : Int32) &&& 31).toUInt32).toInt32 &&& (255 : Int32))), .val (.int (p1 &&& (255 : Int32))), .val (.int ((p1.toUInt32 >>> ((8 : Int32) &&& 31).toUInt32).toInt32 &&& (255 : Int32))), .val (.int ((p2 &&& (3 : Int32)) - ((p2 &&& (3 : Int32)) / (3 : Int32)) * (3 : Int32))), .val (.int ((((p2.toUInt32 >>> ((2 : Int32) &&& 31).toUInt32).toInt32) &&& (3 : Int32)) - ((((p2.toUInt32 >>> ((2 : Int32) &&& 31).toUInt32).toInt32) &&& (3 : Int32)) / (3 : Int32)) * (3 : Int32))), .val (.int (0 : Int32)), .val (.ref sa_1), .val .null, .val (.ref sa_1), .unset] [(.ref sa_1)]) G
    refine Gl.via (fun _ k => XS.aload X34.here hx rfl (hb hby at_128) rfl rfl k) ?_
    show Gl p.tables e below T34 (mkF m 130 #[.val (.int p0), .val (.int p1), .val (.int p2), .val (.int (p0 &&& (255 : Int32))), .val (.int ((p0.toUInt32 >>> ((8 : Int32) &&& 31).toUInt32).toInt32 &&& (255 : Int32))), .val (.int (p1 &&& (255 : Int32))), .val (.int ((p1.toUInt32 >>> ((8 : Int32) &&& 31).toUInt32).toInt32 &&& (255 : Int32))), .val (.int ((p2 &&& (3 : Int32)) - ((p2 &&& (3 : Int32)) / (3 : Int32)) * (3 : Int32))), .val (.int ((((p2.toUInt32 >>> ((2 : Int32) &&& 31).toUInt32).toInt32) &&& (3 : Int32)) - ((((p2.toUInt32 >>> ((2 : Int32) &&& 31).toUInt32).toInt32) &&& (3 : Int32)) / (3 : Int32)) * (3 : Int32))), .val (.int (0 : Int32)), .val (.ref sa_1), .val .null, .val (.ref sa_1), .unset] [(.ref sa_1), (.ref sa_1)]) G
    have G36 : Exa Z T25.heap sa_1 "java/lang/String" := ((P2.ext E13).keep K25)
    obtain ⟨cq35, kq35, q35a, q35b, q35c⟩ := isOf hZ1 eh34 G36
    obtain ⟨_, _, ⟨T35, L35, k35, n35⟩, -, X35, ⟨Lc35, hQ35, l35, y35, z35⟩, st35⟩ := X34.virtualBack hx (y := (⟨"java/lang/String", "equals", "(Ljava/lang/Object;)Z"⟩ : MethodName)) (z := (⟨"java/lang/String", "equals", "(Ljava/lang/Object;)Z"⟩ : MethodName)) hown1 (mvT hZ1 (hw _ (List.mem_of_getElem? (i := 55) rfl))) (mvT hZ1 (hw _ (List.mem_of_getElem? (i := 56) rfl))) (notFace_of_selects (args := #[]) (mvT hZ1 (hw _ (List.mem_of_getElem? (i := 58) rfl)))) (mvT hZ1 (hw _ (List.mem_of_getElem? (i := 58) rfl))) (mvT hZ1 (hw _ (List.mem_of_getElem? (i := 57) rfl))) (by decide) (backOf (W := 0) (s_eq l Z a0 hw [] sa_1 T25.heap n0 Z31 ) hZ1 (hw _ (List.mem_of_getElem? (i := 59) rfl)) (hw _ (List.mem_of_getElem? (i := 6) rfl)) (by decide) (by decide)) q35a q35c (g := (mkF m 130 #[.val (.int p0), .val (.int p1), .val (.int p2), .val (.int (p0 &&& (255 : Int32))), .val (.int ((p0.toUInt32 >>> ((8 : Int32) &&& 31).toUInt32).toInt32 &&& (255 : Int32))), .val (.int (p1 &&& (255 : Int32))), .val (.int ((p1.toUInt32 >>> ((8 : Int32) &&& 31).toUInt32).toInt32 &&& (255 : Int32))), .val (.int ((p2 &&& (3 : Int32)) - ((p2 &&& (3 : Int32)) / (3 : Int32)) * (3 : Int32))), .val (.int ((((p2.toUInt32 >>> ((2 : Int32) &&& 31).toUInt32).toInt32) &&& (3 : Int32)) - ((((p2.toUInt32 >>> ((2 : Int32) &&& 31).toUInt32).toInt32) &&& (3 : Int32)) / (3 : Int32)) * (3 : Int32))), .val (.int (0 : Int32)), .val (.ref sa_1), .val .null, .val (.ref sa_1), .unset] [(.ref sa_1), (.ref sa_1)])) rfl (by rw [hml]; rfl) (Steps.refl _) (argsL := [(.ref sa_1)]) (rest := []) (lenOf pd_31 rfl) rfl (by show 2 * 0 + _ ≤ _; exact Nat.le_of_eq rfl) (hb hby at_130) (fun _ _ => ⟨rfl, eh34, (by decide : 7 + 0 ≤ _), (by decide : 14 + 0 ≤ _)⟩)
    dsimp only [Pt.U, Pt.locs, Pt.cells, Pt.slots] at X35 l35 y35 z35 st35 hQ35
    subst l35 y35 z35
    obtain ⟨rfl, N35q, eh35⟩ := hQ35
    have N35_ := Fr.app N34_ N35q
    refine Gl.via (fun _ k => st35.trans k) ?_
    show Gl p.tables e below T35 (mkF m 133 #[.val (.int p0), .val (.int p1), .val (.int p2), .val (.int (p0 &&& (255 : Int32))), .val (.int ((p0.toUInt32 >>> ((8 : Int32) &&& 31).toUInt32).toInt32 &&& (255 : Int32))), .val (.int (p1 &&& (255 : Int32))), .val (.int ((p1.toUInt32 >>> ((8 : Int32) &&& 31).toUInt32).toInt32 &&& (255 : Int32))), .val (.int ((p2 &&& (3 : Int32)) - ((p2 &&& (3 : Int32)) / (3 : Int32)) * (3 : Int32))), .val (.int ((((p2.toUInt32 >>> ((2 : Int32) &&& 31).toUInt32).toInt32) &&& (3 : Int32)) - ((((p2.toUInt32 >>> ((2 : Int32) &&& 31).toUInt32).toInt32) &&& (3 : Int32)) / (3 : Int32)) * (3 : Int32))), .val (.int (0 : Int32)), .val (.ref sa_1), .val .null, .val (.ref sa_1), .unset] [(.int (1 : Int32))]) G
    obtain ⟨fs, hr, hrun, hended, hRW⟩ := X35.leaveW hS1 (by rw [eh35]; exact hl33) (v := some (.int (1 : Int32))) (fun h => by rw [Bd.returns] at h; cases h)
    have hq : ∀ L, Fr n0 L → Q_rm0 Z p0 p1 p2 cps fm h0 n0 (some (.int (1 : Int32))) T35.heap L := by
      intro L hN
      rw [eh35]
      exact ⟨rfl, hN⟩
    rw [hG]
    exact Gl.fin (retN X35 hx (t := .boolean) Bd.returns (by simp) (hb hby at_133) hr) ⟨_, hrun, hended, _, _, rfl, hq _ N35_, ⟨hRW.1, hRW.2.1, hRW.2.2.1, hRW.2.2.2.mono (by decide) (by decide)⟩⟩
  · refine Gl.via (fun _ k => XS.ifNo X0.here hx rfl (hb hby at_58) rfl ((if0 _ _).trans (feq hz).1) k) ?_
    show Gl p.tables e below s₁ (mkF m 61 #[.val (.int p0), .val (.int p1), .val (.int p2), .val (.int (p0 &&& (255 : Int32))), .val (.int ((p0.toUInt32 >>> ((8 : Int32) &&& 31).toUInt32).toInt32 &&& (255 : Int32))), .val (.int (p1 &&& (255 : Int32))), .val (.int ((p1.toUInt32 >>> ((8 : Int32) &&& 31).toUInt32).toInt32 &&& (255 : Int32))), .val (.int ((p2 &&& (3 : Int32)) - ((p2 &&& (3 : Int32)) / (3 : Int32)) * (3 : Int32))), .val (.int ((((p2.toUInt32 >>> ((2 : Int32) &&& 31).toUInt32).toInt32) &&& (3 : Int32)) - ((((p2.toUInt32 >>> ((2 : Int32) &&& 31).toUInt32).toInt32) &&& (3 : Int32)) / (3 : Int32)) * (3 : Int32))), .unset, .unset, .unset, .unset, .unset] []) G
    refine Gl.via (fun _ k => XS.iconst X0.here hx rfl (hb hby at_61) k) ?_
    show Gl p.tables e below s₁ (mkF m 62 #[.val (.int p0), .val (.int p1), .val (.int p2), .val (.int (p0 &&& (255 : Int32))), .val (.int ((p0.toUInt32 >>> ((8 : Int32) &&& 31).toUInt32).toInt32 &&& (255 : Int32))), .val (.int (p1 &&& (255 : Int32))), .val (.int ((p1.toUInt32 >>> ((8 : Int32) &&& 31).toUInt32).toInt32 &&& (255 : Int32))), .val (.int ((p2 &&& (3 : Int32)) - ((p2 &&& (3 : Int32)) / (3 : Int32)) * (3 : Int32))), .val (.int ((((p2.toUInt32 >>> ((2 : Int32) &&& 31).toUInt32).toInt32) &&& (3 : Int32)) - ((((p2.toUInt32 >>> ((2 : Int32) &&& 31).toUInt32).toInt32) &&& (3 : Int32)) / (3 : Int32)) * (3 : Int32))), .unset, .unset, .unset, .unset, .unset] [(.int (1 : Int32))]) G
    refine Gl.via (fun _ k => XS.goto X0.here hx rfl (pc0 := 62) (pc' := 66) rfl (hb hby at_62) (by decide) (by decide) k) ?_
    show Gl p.tables e below s₁ (mkF m 66 #[.val (.int p0), .val (.int p1), .val (.int p2), .val (.int (p0 &&& (255 : Int32))), .val (.int ((p0.toUInt32 >>> ((8 : Int32) &&& 31).toUInt32).toInt32 &&& (255 : Int32))), .val (.int (p1 &&& (255 : Int32))), .val (.int ((p1.toUInt32 >>> ((8 : Int32) &&& 31).toUInt32).toInt32 &&& (255 : Int32))), .val (.int ((p2 &&& (3 : Int32)) - ((p2 &&& (3 : Int32)) / (3 : Int32)) * (3 : Int32))), .val (.int ((((p2.toUInt32 >>> ((2 : Int32) &&& 31).toUInt32).toInt32) &&& (3 : Int32)) - ((((p2.toUInt32 >>> ((2 : Int32) &&& 31).toUInt32).toInt32) &&& (3 : Int32)) / (3 : Int32)) * (3 : Int32))), .unset, .unset, .unset, .unset, .unset] [(.int (1 : Int32))]) G
    refine Gl.via (fun _ k => XS.istore X0.here hx rfl (hb hby at_66) rfl (l' := #[.val (.int p0), .val (.int p1), .val (.int p2), .val (.int (p0 &&& (255 : Int32))), .val (.int ((p0.toUInt32 >>> ((8 : Int32) &&& 31).toUInt32).toInt32 &&& (255 : Int32))), .val (.int (p1 &&& (255 : Int32))), .val (.int ((p1.toUInt32 >>> ((8 : Int32) &&& 31).toUInt32).toInt32 &&& (255 : Int32))), .val (.int ((p2 &&& (3 : Int32)) - ((p2 &&& (3 : Int32)) / (3 : Int32)) * (3 : Int32))), .val (.int ((((p2.toUInt32 >>> ((2 : Int32) &&& 31).toUInt32).toInt32) &&& (3 : Int32)) - ((((p2.toUInt32 >>> ((2 : Int32) &&& 31).toUInt32).toInt32) &&& (3 : Int32)) / (3 : Int32)) * (3 : Int32))), .val (.int (1 : Int32)), .unset, .unset, .unset, .unset]) rfl k) ?_
    show Gl p.tables e below s₁ (mkF m 68 #[.val (.int p0), .val (.int p1), .val (.int p2), .val (.int (p0 &&& (255 : Int32))), .val (.int ((p0.toUInt32 >>> ((8 : Int32) &&& 31).toUInt32).toInt32 &&& (255 : Int32))), .val (.int (p1 &&& (255 : Int32))), .val (.int ((p1.toUInt32 >>> ((8 : Int32) &&& 31).toUInt32).toInt32 &&& (255 : Int32))), .val (.int ((p2 &&& (3 : Int32)) - ((p2 &&& (3 : Int32)) / (3 : Int32)) * (3 : Int32))), .val (.int ((((p2.toUInt32 >>> ((2 : Int32) &&& 31).toUInt32).toInt32) &&& (3 : Int32)) - ((((p2.toUInt32 >>> ((2 : Int32) &&& 31).toUInt32).toInt32) &&& (3 : Int32)) / (3 : Int32)) * (3 : Int32))), .val (.int (1 : Int32)), .unset, .unset, .unset, .unset] []) G
    refine Gl.via (fun _ k => XS.iload X0.here hx rfl (hb hby at_68) rfl k) ?_
    show Gl p.tables e below s₁ (mkF m 70 #[.val (.int p0), .val (.int p1), .val (.int p2), .val (.int (p0 &&& (255 : Int32))), .val (.int ((p0.toUInt32 >>> ((8 : Int32) &&& 31).toUInt32).toInt32 &&& (255 : Int32))), .val (.int (p1 &&& (255 : Int32))), .val (.int ((p1.toUInt32 >>> ((8 : Int32) &&& 31).toUInt32).toInt32 &&& (255 : Int32))), .val (.int ((p2 &&& (3 : Int32)) - ((p2 &&& (3 : Int32)) / (3 : Int32)) * (3 : Int32))), .val (.int ((((p2.toUInt32 >>> ((2 : Int32) &&& 31).toUInt32).toInt32) &&& (3 : Int32)) - ((((p2.toUInt32 >>> ((2 : Int32) &&& 31).toUInt32).toInt32) &&& (3 : Int32)) / (3 : Int32)) * (3 : Int32))), .val (.int (1 : Int32)), .unset, .unset, .unset, .unset] [(.int ((p2 &&& (3 : Int32)) - ((p2 &&& (3 : Int32)) / (3 : Int32)) * (3 : Int32)))]) G
    refine Gl.via (fun _ k => XS.iloadN X0.here hx rfl (hb hby at_70) rfl k) ?_
    show Gl p.tables e below s₁ (mkF m 71 #[.val (.int p0), .val (.int p1), .val (.int p2), .val (.int (p0 &&& (255 : Int32))), .val (.int ((p0.toUInt32 >>> ((8 : Int32) &&& 31).toUInt32).toInt32 &&& (255 : Int32))), .val (.int (p1 &&& (255 : Int32))), .val (.int ((p1.toUInt32 >>> ((8 : Int32) &&& 31).toUInt32).toInt32 &&& (255 : Int32))), .val (.int ((p2 &&& (3 : Int32)) - ((p2 &&& (3 : Int32)) / (3 : Int32)) * (3 : Int32))), .val (.int ((((p2.toUInt32 >>> ((2 : Int32) &&& 31).toUInt32).toInt32) &&& (3 : Int32)) - ((((p2.toUInt32 >>> ((2 : Int32) &&& 31).toUInt32).toInt32) &&& (3 : Int32)) / (3 : Int32)) * (3 : Int32))), .val (.int (1 : Int32)), .unset, .unset, .unset, .unset] [(.int (p0 &&& (255 : Int32))), (.int ((p2 &&& (3 : Int32)) - ((p2 &&& (3 : Int32)) / (3 : Int32)) * (3 : Int32)))]) G
    refine Gl.via (fun _ k => XS.iload X0.here hx rfl (hb hby at_71) rfl k) ?_
    show Gl p.tables e below s₁ (mkF m 73 #[.val (.int p0), .val (.int p1), .val (.int p2), .val (.int (p0 &&& (255 : Int32))), .val (.int ((p0.toUInt32 >>> ((8 : Int32) &&& 31).toUInt32).toInt32 &&& (255 : Int32))), .val (.int (p1 &&& (255 : Int32))), .val (.int ((p1.toUInt32 >>> ((8 : Int32) &&& 31).toUInt32).toInt32 &&& (255 : Int32))), .val (.int ((p2 &&& (3 : Int32)) - ((p2 &&& (3 : Int32)) / (3 : Int32)) * (3 : Int32))), .val (.int ((((p2.toUInt32 >>> ((2 : Int32) &&& 31).toUInt32).toInt32) &&& (3 : Int32)) - ((((p2.toUInt32 >>> ((2 : Int32) &&& 31).toUInt32).toInt32) &&& (3 : Int32)) / (3 : Int32)) * (3 : Int32))), .val (.int (1 : Int32)), .unset, .unset, .unset, .unset] [(.int ((p0.toUInt32 >>> ((8 : Int32) &&& 31).toUInt32).toInt32 &&& (255 : Int32))), (.int (p0 &&& (255 : Int32))), (.int ((p2 &&& (3 : Int32)) - ((p2 &&& (3 : Int32)) / (3 : Int32)) * (3 : Int32)))]) G
    obtain ⟨_, _, ⟨T37, L37, k37, n37⟩, -, Xb37, hSb37, hgb37, ⟨Lc37, hQ37, l37, y37, z37, hC37⟩, st37⟩ := callSS X0 hx (y := (⟨"com/example/profile_to_target/profiletotarget/SfrIdToStringPinLaw", "make", "(ICC)Ljava/lang/String;"⟩ : MethodName)) hown (mvT hZ (hw _ (List.mem_of_getElem? (i := 0) rfl))) (mvT hZ (hw _ (List.mem_of_getElem? (i := 1) rfl))) (mvT hZ (hw _ (List.mem_of_getElem? (i := 2) rfl))) (mvT hZ (hw _ (List.mem_of_getElem? (i := 3) rfl))) (by decide) (own_back (W := 0) (mkstr l Z a0 hw [] ((p2 &&& (3 : Int32)) - ((p2 &&& (3 : Int32)) / (3 : Int32)) * (3 : Int32)) (p0 &&& (255 : Int32)) ((p0.toUInt32 >>> ((8 : Int32) &&& 31).toUInt32).toInt32 &&& (255 : Int32)) cps h0 n0 Z0 F0_java_lang_String F2_ hcps (own_mb _).2 (own_mb _).2 (own_mb _).1 (own_mb _).1 (own_r3 _)) hZ (hw _ (List.mem_of_getElem? (i := 3) rfl)) (hw _ (List.mem_of_getElem? (i := 2) rfl)) (by decide) (by decide) hEL CR0.1 (fun _ z => nomatch z)) (g := (mkF m 73 #[.val (.int p0), .val (.int p1), .val (.int p2), .val (.int (p0 &&& (255 : Int32))), .val (.int ((p0.toUInt32 >>> ((8 : Int32) &&& 31).toUInt32).toInt32 &&& (255 : Int32))), .val (.int (p1 &&& (255 : Int32))), .val (.int ((p1.toUInt32 >>> ((8 : Int32) &&& 31).toUInt32).toInt32 &&& (255 : Int32))), .val (.int ((p2 &&& (3 : Int32)) - ((p2 &&& (3 : Int32)) / (3 : Int32)) * (3 : Int32))), .val (.int ((((p2.toUInt32 >>> ((2 : Int32) &&& 31).toUInt32).toInt32) &&& (3 : Int32)) - ((((p2.toUInt32 >>> ((2 : Int32) &&& 31).toUInt32).toInt32) &&& (3 : Int32)) / (3 : Int32)) * (3 : Int32))), .val (.int (1 : Int32)), .unset, .unset, .unset, .unset] [(.int ((p0.toUInt32 >>> ((8 : Int32) &&& 31).toUInt32).toInt32 &&& (255 : Int32))), (.int (p0 &&& (255 : Int32))), (.int ((p2 &&& (3 : Int32)) - ((p2 &&& (3 : Int32)) / (3 : Int32)) * (3 : Int32)))])) rfl (by rw [hml]; rfl) (argsL := [(.int ((p2 &&& (3 : Int32)) - ((p2 &&& (3 : Int32)) / (3 : Int32)) * (3 : Int32))), (.int (p0 &&& (255 : Int32))), (.int ((p0.toUInt32 >>> ((8 : Int32) &&& 31).toUInt32).toInt32 &&& (255 : Int32)))]) (rest := []) (lenOf pd_29 rfl) rfl (by show 2 * 0 + _ ≤ _; exact Nat.le_of_eq rfl) (hb hby at_73) (fun _ _ => ⟨rfl, e0, (by decide : 0 + 6 ≤ _), (by decide : 0 + 12 ≤ _)⟩)
    dsimp only [Pt.U, Pt.locs, Pt.cells, Pt.slots] at Xb37 hSb37 hgb37 l37 y37 z37 st37 hQ37 hC37
    subst l37 y37 z37
    obtain ⟨X37, hS37, hZ37, hown37⟩ := rebS hS0 (by rw [e0]; exact hk0) Xb37 hSb37 hgb37 hZ hown
    have hk37 : T37.heap.size ≤ T37.heap.size := Nat.le_refl _
    obtain ⟨sa_37, sb_37, sk_37, rfl, N37q, K37, P38, P39, P40, P41, R42⟩ := hQ37
    have N37_ := Fr.app N0 N37q
    refine Gl.via (fun _ k => st37.trans k) ?_
    have ge43 : n0 ≤ sa_37 := Nat.le_trans Z0 R42
    have gz44 : h0.size ≤ sa_37 := Nat.le_trans (Nat.le_refl h0.size) R42
    have CR45 : CHr Z own_EL s.vm h0 T37.vm T37.heap := CHr.trans CR0 hC37
    have Z46 : n0 ≤ T37.heap.size := Nat.le_trans Z0 K37.1
    have Y47 : h0.size ≤ T37.heap.size := Nat.le_trans (Nat.le_refl h0.size) K37.1
    have hl48 := Nat.le_trans hk0 K37.1
    show Gl p.tables e below T37 (mkF m 76 #[.val (.int p0), .val (.int p1), .val (.int p2), .val (.int (p0 &&& (255 : Int32))), .val (.int ((p0.toUInt32 >>> ((8 : Int32) &&& 31).toUInt32).toInt32 &&& (255 : Int32))), .val (.int (p1 &&& (255 : Int32))), .val (.int ((p1.toUInt32 >>> ((8 : Int32) &&& 31).toUInt32).toInt32 &&& (255 : Int32))), .val (.int ((p2 &&& (3 : Int32)) - ((p2 &&& (3 : Int32)) / (3 : Int32)) * (3 : Int32))), .val (.int ((((p2.toUInt32 >>> ((2 : Int32) &&& 31).toUInt32).toInt32) &&& (3 : Int32)) - ((((p2.toUInt32 >>> ((2 : Int32) &&& 31).toUInt32).toInt32) &&& (3 : Int32)) / (3 : Int32)) * (3 : Int32))), .val (.int (1 : Int32)), .unset, .unset, .unset, .unset] [(.ref sa_37)]) G
    refine Gl.via (fun _ k => XS.astore X37.here hx rfl (hb hby at_76) rfl rfl (l' := #[.val (.int p0), .val (.int p1), .val (.int p2), .val (.int (p0 &&& (255 : Int32))), .val (.int ((p0.toUInt32 >>> ((8 : Int32) &&& 31).toUInt32).toInt32 &&& (255 : Int32))), .val (.int (p1 &&& (255 : Int32))), .val (.int ((p1.toUInt32 >>> ((8 : Int32) &&& 31).toUInt32).toInt32 &&& (255 : Int32))), .val (.int ((p2 &&& (3 : Int32)) - ((p2 &&& (3 : Int32)) / (3 : Int32)) * (3 : Int32))), .val (.int ((((p2.toUInt32 >>> ((2 : Int32) &&& 31).toUInt32).toInt32) &&& (3 : Int32)) - ((((p2.toUInt32 >>> ((2 : Int32) &&& 31).toUInt32).toInt32) &&& (3 : Int32)) / (3 : Int32)) * (3 : Int32))), .val (.int (1 : Int32)), .val (.ref sa_37), .unset, .unset, .unset]) rfl k) ?_
    show Gl p.tables e below T37 (mkF m 78 #[.val (.int p0), .val (.int p1), .val (.int p2), .val (.int (p0 &&& (255 : Int32))), .val (.int ((p0.toUInt32 >>> ((8 : Int32) &&& 31).toUInt32).toInt32 &&& (255 : Int32))), .val (.int (p1 &&& (255 : Int32))), .val (.int ((p1.toUInt32 >>> ((8 : Int32) &&& 31).toUInt32).toInt32 &&& (255 : Int32))), .val (.int ((p2 &&& (3 : Int32)) - ((p2 &&& (3 : Int32)) / (3 : Int32)) * (3 : Int32))), .val (.int ((((p2.toUInt32 >>> ((2 : Int32) &&& 31).toUInt32).toInt32) &&& (3 : Int32)) - ((((p2.toUInt32 >>> ((2 : Int32) &&& 31).toUInt32).toInt32) &&& (3 : Int32)) / (3 : Int32)) * (3 : Int32))), .val (.int (1 : Int32)), .val (.ref sa_37), .unset, .unset, .unset] []) G
    refine Gl.via (fun _ k => XS.iload X37.here hx rfl (hb hby at_78) rfl k) ?_
    show Gl p.tables e below T37 (mkF m 80 #[.val (.int p0), .val (.int p1), .val (.int p2), .val (.int (p0 &&& (255 : Int32))), .val (.int ((p0.toUInt32 >>> ((8 : Int32) &&& 31).toUInt32).toInt32 &&& (255 : Int32))), .val (.int (p1 &&& (255 : Int32))), .val (.int ((p1.toUInt32 >>> ((8 : Int32) &&& 31).toUInt32).toInt32 &&& (255 : Int32))), .val (.int ((p2 &&& (3 : Int32)) - ((p2 &&& (3 : Int32)) / (3 : Int32)) * (3 : Int32))), .val (.int ((((p2.toUInt32 >>> ((2 : Int32) &&& 31).toUInt32).toInt32) &&& (3 : Int32)) - ((((p2.toUInt32 >>> ((2 : Int32) &&& 31).toUInt32).toInt32) &&& (3 : Int32)) / (3 : Int32)) * (3 : Int32))), .val (.int (1 : Int32)), .val (.ref sa_37), .unset, .unset, .unset] [(.int (1 : Int32))]) G
    refine Gl.via (fun _ k => XS.ifNo X37.here hx rfl (hb hby at_80) rfl ((if0 _ _).trans (feq (by decide)).1) k) ?_
    show Gl p.tables e below T37 (mkF m 83 #[.val (.int p0), .val (.int p1), .val (.int p2), .val (.int (p0 &&& (255 : Int32))), .val (.int ((p0.toUInt32 >>> ((8 : Int32) &&& 31).toUInt32).toInt32 &&& (255 : Int32))), .val (.int (p1 &&& (255 : Int32))), .val (.int ((p1.toUInt32 >>> ((8 : Int32) &&& 31).toUInt32).toInt32 &&& (255 : Int32))), .val (.int ((p2 &&& (3 : Int32)) - ((p2 &&& (3 : Int32)) / (3 : Int32)) * (3 : Int32))), .val (.int ((((p2.toUInt32 >>> ((2 : Int32) &&& 31).toUInt32).toInt32) &&& (3 : Int32)) - ((((p2.toUInt32 >>> ((2 : Int32) &&& 31).toUInt32).toInt32) &&& (3 : Int32)) / (3 : Int32)) * (3 : Int32))), .val (.int (1 : Int32)), .val (.ref sa_37), .unset, .unset, .unset] []) G
    refine Gl.via (fun _ k => XS.iload X37.here hx rfl (hb hby at_83) rfl k) ?_
    show Gl p.tables e below T37 (mkF m 85 #[.val (.int p0), .val (.int p1), .val (.int p2), .val (.int (p0 &&& (255 : Int32))), .val (.int ((p0.toUInt32 >>> ((8 : Int32) &&& 31).toUInt32).toInt32 &&& (255 : Int32))), .val (.int (p1 &&& (255 : Int32))), .val (.int ((p1.toUInt32 >>> ((8 : Int32) &&& 31).toUInt32).toInt32 &&& (255 : Int32))), .val (.int ((p2 &&& (3 : Int32)) - ((p2 &&& (3 : Int32)) / (3 : Int32)) * (3 : Int32))), .val (.int ((((p2.toUInt32 >>> ((2 : Int32) &&& 31).toUInt32).toInt32) &&& (3 : Int32)) - ((((p2.toUInt32 >>> ((2 : Int32) &&& 31).toUInt32).toInt32) &&& (3 : Int32)) / (3 : Int32)) * (3 : Int32))), .val (.int (1 : Int32)), .val (.ref sa_37), .unset, .unset, .unset] [(.int ((((p2.toUInt32 >>> ((2 : Int32) &&& 31).toUInt32).toInt32) &&& (3 : Int32)) - ((((p2.toUInt32 >>> ((2 : Int32) &&& 31).toUInt32).toInt32) &&& (3 : Int32)) / (3 : Int32)) * (3 : Int32)))]) G
    refine Gl.via (fun _ k => XS.iload X37.here hx rfl (hb hby at_85) rfl k) ?_
    show Gl p.tables e below T37 (mkF m 87 #[.val (.int p0), .val (.int p1), .val (.int p2), .val (.int (p0 &&& (255 : Int32))), .val (.int ((p0.toUInt32 >>> ((8 : Int32) &&& 31).toUInt32).toInt32 &&& (255 : Int32))), .val (.int (p1 &&& (255 : Int32))), .val (.int ((p1.toUInt32 >>> ((8 : Int32) &&& 31).toUInt32).toInt32 &&& (255 : Int32))), .val (.int ((p2 &&& (3 : Int32)) - ((p2 &&& (3 : Int32)) / (3 : Int32)) * (3 : Int32))), .val (.int ((((p2.toUInt32 >>> ((2 : Int32) &&& 31).toUInt32).toInt32) &&& (3 : Int32)) - ((((p2.toUInt32 >>> ((2 : Int32) &&& 31).toUInt32).toInt32) &&& (3 : Int32)) / (3 : Int32)) * (3 : Int32))), .val (.int (1 : Int32)), .val (.ref sa_37), .unset, .unset, .unset] [(.int (p1 &&& (255 : Int32))), (.int ((((p2.toUInt32 >>> ((2 : Int32) &&& 31).toUInt32).toInt32) &&& (3 : Int32)) - ((((p2.toUInt32 >>> ((2 : Int32) &&& 31).toUInt32).toInt32) &&& (3 : Int32)) / (3 : Int32)) * (3 : Int32)))]) G
    refine Gl.via (fun _ k => XS.iload X37.here hx rfl (hb hby at_87) rfl k) ?_
    show Gl p.tables e below T37 (mkF m 89 #[.val (.int p0), .val (.int p1), .val (.int p2), .val (.int (p0 &&& (255 : Int32))), .val (.int ((p0.toUInt32 >>> ((8 : Int32) &&& 31).toUInt32).toInt32 &&& (255 : Int32))), .val (.int (p1 &&& (255 : Int32))), .val (.int ((p1.toUInt32 >>> ((8 : Int32) &&& 31).toUInt32).toInt32 &&& (255 : Int32))), .val (.int ((p2 &&& (3 : Int32)) - ((p2 &&& (3 : Int32)) / (3 : Int32)) * (3 : Int32))), .val (.int ((((p2.toUInt32 >>> ((2 : Int32) &&& 31).toUInt32).toInt32) &&& (3 : Int32)) - ((((p2.toUInt32 >>> ((2 : Int32) &&& 31).toUInt32).toInt32) &&& (3 : Int32)) / (3 : Int32)) * (3 : Int32))), .val (.int (1 : Int32)), .val (.ref sa_37), .unset, .unset, .unset] [(.int ((p1.toUInt32 >>> ((8 : Int32) &&& 31).toUInt32).toInt32 &&& (255 : Int32))), (.int (p1 &&& (255 : Int32))), (.int ((((p2.toUInt32 >>> ((2 : Int32) &&& 31).toUInt32).toInt32) &&& (3 : Int32)) - ((((p2.toUInt32 >>> ((2 : Int32) &&& 31).toUInt32).toInt32) &&& (3 : Int32)) / (3 : Int32)) * (3 : Int32)))]) G
    have G50 : Old Z n0 T37.heap := (F2_.keep K37 all0)
    obtain ⟨_, _, ⟨T49, L49, k49, n49⟩, -, Xb49, hSb49, hgb49, ⟨Lc49, hQ49, l49, y49, z49, hC49⟩, st49⟩ := callSS X37 hx (y := (⟨"com/example/profile_to_target/profiletotarget/SfrIdToStringPinLaw", "make", "(ICC)Ljava/lang/String;"⟩ : MethodName)) hown37 (mvT hZ37 (hw _ (List.mem_of_getElem? (i := 0) rfl))) (mvT hZ37 (hw _ (List.mem_of_getElem? (i := 1) rfl))) (mvT hZ37 (hw _ (List.mem_of_getElem? (i := 2) rfl))) (mvT hZ37 (hw _ (List.mem_of_getElem? (i := 3) rfl))) (by decide) (own_back (W := 0) (mkstr l Z a0 hw [] ((((p2.toUInt32 >>> ((2 : Int32) &&& 31).toUInt32).toInt32) &&& (3 : Int32)) - ((((p2.toUInt32 >>> ((2 : Int32) &&& 31).toUInt32).toInt32) &&& (3 : Int32)) / (3 : Int32)) * (3 : Int32)) (p1 &&& (255 : Int32)) ((p1.toUInt32 >>> ((8 : Int32) &&& 31).toUInt32).toInt32 &&& (255 : Int32)) cps T37.heap n0 Z46 F0_java_lang_String G50 hcps (own_mb _).2 (own_mb _).2 (own_mb _).1 (own_mb _).1 (own_r3 _)) hZ37 (hw _ (List.mem_of_getElem? (i := 3) rfl)) (hw _ (List.mem_of_getElem? (i := 2) rfl)) (by decide) (by decide) hEL CR45.1 (fun _ z => nomatch z)) (g := (mkF m 89 #[.val (.int p0), .val (.int p1), .val (.int p2), .val (.int (p0 &&& (255 : Int32))), .val (.int ((p0.toUInt32 >>> ((8 : Int32) &&& 31).toUInt32).toInt32 &&& (255 : Int32))), .val (.int (p1 &&& (255 : Int32))), .val (.int ((p1.toUInt32 >>> ((8 : Int32) &&& 31).toUInt32).toInt32 &&& (255 : Int32))), .val (.int ((p2 &&& (3 : Int32)) - ((p2 &&& (3 : Int32)) / (3 : Int32)) * (3 : Int32))), .val (.int ((((p2.toUInt32 >>> ((2 : Int32) &&& 31).toUInt32).toInt32) &&& (3 : Int32)) - ((((p2.toUInt32 >>> ((2 : Int32) &&& 31).toUInt32).toInt32) &&& (3 : Int32)) / (3 : Int32)) * (3 : Int32))), .val (.int (1 : Int32)), .val (.ref sa_37), .unset, .unset, .unset] [(.int ((p1.toUInt32 >>> ((8 : Int32) &&& 31).toUInt32).toInt32 &&& (255 : Int32))), (.int (p1 &&& (255 : Int32))), (.int ((((p2.toUInt32 >>> ((2 : Int32) &&& 31).toUInt32).toInt32) &&& (3 : Int32)) - ((((p2.toUInt32 >>> ((2 : Int32) &&& 31).toUInt32).toInt32) &&& (3 : Int32)) / (3 : Int32)) * (3 : Int32)))])) rfl (by rw [hml]; rfl) (argsL := [(.int ((((p2.toUInt32 >>> ((2 : Int32) &&& 31).toUInt32).toInt32) &&& (3 : Int32)) - ((((p2.toUInt32 >>> ((2 : Int32) &&& 31).toUInt32).toInt32) &&& (3 : Int32)) / (3 : Int32)) * (3 : Int32))), (.int (p1 &&& (255 : Int32))), (.int ((p1.toUInt32 >>> ((8 : Int32) &&& 31).toUInt32).toInt32 &&& (255 : Int32)))]) (rest := []) (lenOf pd_29 rfl) rfl (by show 2 * 0 + _ ≤ _; exact Nat.le_of_eq rfl) (hb hby at_89) (fun _ _ => ⟨rfl, rfl, (by decide : 6 + 6 ≤ _), (by decide : 12 + 12 ≤ _)⟩)
    dsimp only [Pt.U, Pt.locs, Pt.cells, Pt.slots] at Xb49 hSb49 hgb49 l49 y49 z49 st49 hQ49 hC49
    subst l49 y49 z49
    obtain ⟨X49, hS49, hZ49, hown49⟩ := rebS hS37 hk37 Xb49 hSb49 hgb49 hZ37 hown37
    have hk49 : T49.heap.size ≤ T49.heap.size := Nat.le_refl _
    obtain ⟨sa_49, sb_49, sk_49, rfl, N49q, K49, P51, P52, P53, P54, R55⟩ := hQ49
    have N49_ := Fr.app N37_ N49q
    refine Gl.via (fun _ k => st49.trans k) ?_
    have ne56 : sa_37 ≠ sa_49 := Nat.ne_of_lt (Nat.lt_of_lt_of_le P38.lt R55)
    have ne57 : sb_37 ≠ sa_49 := Nat.ne_of_lt (Nat.lt_of_lt_of_le P41.lt R55)
    have ge58 : n0 ≤ sa_49 := Nat.le_trans Z46 R55
    have gz59 : h0.size ≤ sa_49 := Nat.le_trans Y47 R55
    have CR60 : CHr Z own_EL s.vm h0 T49.vm T49.heap := CHr.trans CR45 hC49
    have Z61 : n0 ≤ T49.heap.size := Nat.le_trans Z46 K49.1
    have Y62 : h0.size ≤ T49.heap.size := Nat.le_trans Y47 K49.1
    have hl63 := Nat.le_trans hk37 K49.1
    show Gl p.tables e below T49 (mkF m 92 #[.val (.int p0), .val (.int p1), .val (.int p2), .val (.int (p0 &&& (255 : Int32))), .val (.int ((p0.toUInt32 >>> ((8 : Int32) &&& 31).toUInt32).toInt32 &&& (255 : Int32))), .val (.int (p1 &&& (255 : Int32))), .val (.int ((p1.toUInt32 >>> ((8 : Int32) &&& 31).toUInt32).toInt32 &&& (255 : Int32))), .val (.int ((p2 &&& (3 : Int32)) - ((p2 &&& (3 : Int32)) / (3 : Int32)) * (3 : Int32))), .val (.int ((((p2.toUInt32 >>> ((2 : Int32) &&& 31).toUInt32).toInt32) &&& (3 : Int32)) - ((((p2.toUInt32 >>> ((2 : Int32) &&& 31).toUInt32).toInt32) &&& (3 : Int32)) / (3 : Int32)) * (3 : Int32))), .val (.int (1 : Int32)), .val (.ref sa_37), .unset, .unset, .unset] [(.ref sa_49)]) G
    refine Gl.via (fun _ k => XS.goto X49.here hx rfl (pc0 := 92) (pc' := 96) rfl (hb hby at_92) (by decide) (by decide) k) ?_
    show Gl p.tables e below T49 (mkF m 96 #[.val (.int p0), .val (.int p1), .val (.int p2), .val (.int (p0 &&& (255 : Int32))), .val (.int ((p0.toUInt32 >>> ((8 : Int32) &&& 31).toUInt32).toInt32 &&& (255 : Int32))), .val (.int (p1 &&& (255 : Int32))), .val (.int ((p1.toUInt32 >>> ((8 : Int32) &&& 31).toUInt32).toInt32 &&& (255 : Int32))), .val (.int ((p2 &&& (3 : Int32)) - ((p2 &&& (3 : Int32)) / (3 : Int32)) * (3 : Int32))), .val (.int ((((p2.toUInt32 >>> ((2 : Int32) &&& 31).toUInt32).toInt32) &&& (3 : Int32)) - ((((p2.toUInt32 >>> ((2 : Int32) &&& 31).toUInt32).toInt32) &&& (3 : Int32)) / (3 : Int32)) * (3 : Int32))), .val (.int (1 : Int32)), .val (.ref sa_37), .unset, .unset, .unset] [(.ref sa_49)]) G
    refine Gl.via (fun _ k => XS.astore X49.here hx rfl (hb hby at_96) rfl rfl (l' := #[.val (.int p0), .val (.int p1), .val (.int p2), .val (.int (p0 &&& (255 : Int32))), .val (.int ((p0.toUInt32 >>> ((8 : Int32) &&& 31).toUInt32).toInt32 &&& (255 : Int32))), .val (.int (p1 &&& (255 : Int32))), .val (.int ((p1.toUInt32 >>> ((8 : Int32) &&& 31).toUInt32).toInt32 &&& (255 : Int32))), .val (.int ((p2 &&& (3 : Int32)) - ((p2 &&& (3 : Int32)) / (3 : Int32)) * (3 : Int32))), .val (.int ((((p2.toUInt32 >>> ((2 : Int32) &&& 31).toUInt32).toInt32) &&& (3 : Int32)) - ((((p2.toUInt32 >>> ((2 : Int32) &&& 31).toUInt32).toInt32) &&& (3 : Int32)) / (3 : Int32)) * (3 : Int32))), .val (.int (1 : Int32)), .val (.ref sa_37), .val (.ref sa_49), .unset, .unset]) rfl k) ?_
    show Gl p.tables e below T49 (mkF m 98 #[.val (.int p0), .val (.int p1), .val (.int p2), .val (.int (p0 &&& (255 : Int32))), .val (.int ((p0.toUInt32 >>> ((8 : Int32) &&& 31).toUInt32).toInt32 &&& (255 : Int32))), .val (.int (p1 &&& (255 : Int32))), .val (.int ((p1.toUInt32 >>> ((8 : Int32) &&& 31).toUInt32).toInt32 &&& (255 : Int32))), .val (.int ((p2 &&& (3 : Int32)) - ((p2 &&& (3 : Int32)) / (3 : Int32)) * (3 : Int32))), .val (.int ((((p2.toUInt32 >>> ((2 : Int32) &&& 31).toUInt32).toInt32) &&& (3 : Int32)) - ((((p2.toUInt32 >>> ((2 : Int32) &&& 31).toUInt32).toInt32) &&& (3 : Int32)) / (3 : Int32)) * (3 : Int32))), .val (.int (1 : Int32)), .val (.ref sa_37), .val (.ref sa_49), .unset, .unset] []) G
    obtain ⟨T64, h64, X64, e64, E64, A64, D64, -, st64⟩ := newO X49 hx hZ49 hown49 (hw _ (List.mem_of_getElem? (i := 34) rfl)) (hw _ (List.mem_of_getElem? (i := 35) rfl)) (hw _ (List.mem_of_getElem? (i := 36) rfl)) rfl (g := (mkF m 98 #[.val (.int p0), .val (.int p1), .val (.int p2), .val (.int (p0 &&& (255 : Int32))), .val (.int ((p0.toUInt32 >>> ((8 : Int32) &&& 31).toUInt32).toInt32 &&& (255 : Int32))), .val (.int (p1 &&& (255 : Int32))), .val (.int ((p1.toUInt32 >>> ((8 : Int32) &&& 31).toUInt32).toInt32 &&& (255 : Int32))), .val (.int ((p2 &&& (3 : Int32)) - ((p2 &&& (3 : Int32)) / (3 : Int32)) * (3 : Int32))), .val (.int ((((p2.toUInt32 >>> ((2 : Int32) &&& 31).toUInt32).toInt32) &&& (3 : Int32)) - ((((p2.toUInt32 >>> ((2 : Int32) &&& 31).toUInt32).toInt32) &&& (3 : Int32)) / (3 : Int32)) * (3 : Int32))), .val (.int (1 : Int32)), .val (.ref sa_37), .val (.ref sa_49), .unset, .unset] [])) rfl (hb hby at_98) (by decide) (by decide)
    obtain ⟨b64, g64⟩ : ∃ z, z = T49.heap.size := ⟨_, rfl⟩
    rw [← g64] at A64 D64 st64
    have G65 : Exa Z T49.heap sa_37 "java/lang/String" := (P38.keep K49)
    have ne66 : sa_37 ≠ b64 := Nat.ne_of_lt (Nat.lt_of_lt_of_le G65.lt (Nat.le_of_eq g64.symm))
    have G67 : Arv Z T49.heap sb_37 sk_37 .byte (own_ln (own_mk ((p2 &&& (3 : Int32)) - ((p2 &&& (3 : Int32)) / (3 : Int32)) * (3 : Int32)) (p0 &&& (255 : Int32)) ((p0.toUInt32 >>> ((8 : Int32) &&& 31).toUInt32).toInt32 &&& (255 : Int32)) (0 : Int32))) ((own_mk ((p2 &&& (3 : Int32)) - ((p2 &&& (3 : Int32)) / (3 : Int32)) * (3 : Int32)) (p0 &&& (255 : Int32)) ((p0.toUInt32 >>> ((8 : Int32) &&& 31).toUInt32).toInt32 &&& (255 : Int32)) (0 : Int32)).map Value.int) (.int (0 : Int32)) := (P41.keep K49 nin0)
    have ne68 : sb_37 ≠ b64 := Nat.ne_of_lt (Nat.lt_of_lt_of_le G67.lt (Nat.le_of_eq g64.symm))
    have ne69 : sa_49 ≠ b64 := Nat.ne_of_lt (Nat.lt_of_lt_of_le P51.lt (Nat.le_of_eq g64.symm))
    have ne70 : sb_49 ≠ b64 := Nat.ne_of_lt (Nat.lt_of_lt_of_le P54.lt (Nat.le_of_eq g64.symm))
    have ge71 : n0 ≤ b64 := Nat.le_trans Z61 (Nat.le_of_eq g64.symm)
    have gz72 : h0.size ≤ b64 := Nat.le_trans Y62 (Nat.le_of_eq g64.symm)
    have CR73 : CHr Z own_EL s.vm h0 T49.vm h64 := CHr.trans CR60 (CHr.ext E64 CR60.1)
    have SF74 : Safe Z own_EL T49.vm h64 b64 := Safe.ext E64 CR60.1 (Safe.new (Nat.le_of_eq g64.symm))
    refine Gl.via st64 ?_
    have Z75 : n0 ≤ h64.size := Nat.le_trans Z61 E64.1
    have Y76 : h0.size ≤ h64.size := Nat.le_trans Y62 E64.1
    have hl77 := Nat.le_trans hk49 E64.1
    have F78 : Fld Z h64 b64 "com/example/profile_to_target/profiletotarget/SfrId" "component" "Ljava/lang/String;" .null := D64 (Or.inr (hw _ (List.mem_of_getElem? (i := 47) rfl))) (ty := (.object "java/lang/String")) (by decide)
    have F79 : Fld Z h64 b64 "com/example/profile_to_target/profiletotarget/SfrId" "iteration" "Ljava/lang/String;" .null := D64 (Or.inr (hw _ (List.mem_of_getElem? (i := 49) rfl))) (ty := (.object "java/lang/String")) (by decide)
    show Gl p.tables e below T64 (mkF m 101 #[.val (.int p0), .val (.int p1), .val (.int p2), .val (.int (p0 &&& (255 : Int32))), .val (.int ((p0.toUInt32 >>> ((8 : Int32) &&& 31).toUInt32).toInt32 &&& (255 : Int32))), .val (.int (p1 &&& (255 : Int32))), .val (.int ((p1.toUInt32 >>> ((8 : Int32) &&& 31).toUInt32).toInt32 &&& (255 : Int32))), .val (.int ((p2 &&& (3 : Int32)) - ((p2 &&& (3 : Int32)) / (3 : Int32)) * (3 : Int32))), .val (.int ((((p2.toUInt32 >>> ((2 : Int32) &&& 31).toUInt32).toInt32) &&& (3 : Int32)) - ((((p2.toUInt32 >>> ((2 : Int32) &&& 31).toUInt32).toInt32) &&& (3 : Int32)) / (3 : Int32)) * (3 : Int32))), .val (.int (1 : Int32)), .val (.ref sa_37), .val (.ref sa_49), .unset, .unset] [(.ref b64)]) G
    refine Gl.via (fun _ k => XS.dup X64.here hx rfl (hb hby at_101) rfl rfl k) ?_
    show Gl p.tables e below T64 (mkF m 102 #[.val (.int p0), .val (.int p1), .val (.int p2), .val (.int (p0 &&& (255 : Int32))), .val (.int ((p0.toUInt32 >>> ((8 : Int32) &&& 31).toUInt32).toInt32 &&& (255 : Int32))), .val (.int (p1 &&& (255 : Int32))), .val (.int ((p1.toUInt32 >>> ((8 : Int32) &&& 31).toUInt32).toInt32 &&& (255 : Int32))), .val (.int ((p2 &&& (3 : Int32)) - ((p2 &&& (3 : Int32)) / (3 : Int32)) * (3 : Int32))), .val (.int ((((p2.toUInt32 >>> ((2 : Int32) &&& 31).toUInt32).toInt32) &&& (3 : Int32)) - ((((p2.toUInt32 >>> ((2 : Int32) &&& 31).toUInt32).toInt32) &&& (3 : Int32)) / (3 : Int32)) * (3 : Int32))), .val (.int (1 : Int32)), .val (.ref sa_37), .val (.ref sa_49), .unset, .unset] [(.ref b64), (.ref b64)]) G
    refine Gl.via (fun _ k => XS.aload X64.here hx rfl (hb hby at_102) rfl rfl k) ?_
    show Gl p.tables e below T64 (mkF m 104 #[.val (.int p0), .val (.int p1), .val (.int p2), .val (.int (p0 &&& (255 : Int32))), .val (.int ((p0.toUInt32 >>> ((8 : Int32) &&& 31).toUInt32).toInt32 &&& (255 : Int32))), .val (.int (p1 &&& (255 : Int32))), .val (.int ((p1.toUInt32 >>> ((8 : Int32) &&& 31).toUInt32).toInt32 &&& (255 : Int32))), .val (.int ((p2 &&& (3 : Int32)) - ((p2 &&& (3 : Int32)) / (3 : Int32)) * (3 : Int32))), .val (.int ((((p2.toUInt32 >>> ((2 : Int32) &&& 31).toUInt32).toInt32) &&& (3 : Int32)) - ((((p2.toUInt32 >>> ((2 : Int32) &&& 31).toUInt32).toInt32) &&& (3 : Int32)) / (3 : Int32)) * (3 : Int32))), .val (.int (1 : Int32)), .val (.ref sa_37), .val (.ref sa_49), .unset, .unset] [(.ref sa_37), (.ref b64), (.ref b64)]) G
    refine Gl.via (fun _ k => XS.aload X64.here hx rfl (hb hby at_104) rfl rfl k) ?_
    show Gl p.tables e below T64 (mkF m 106 #[.val (.int p0), .val (.int p1), .val (.int p2), .val (.int (p0 &&& (255 : Int32))), .val (.int ((p0.toUInt32 >>> ((8 : Int32) &&& 31).toUInt32).toInt32 &&& (255 : Int32))), .val (.int (p1 &&& (255 : Int32))), .val (.int ((p1.toUInt32 >>> ((8 : Int32) &&& 31).toUInt32).toInt32 &&& (255 : Int32))), .val (.int ((p2 &&& (3 : Int32)) - ((p2 &&& (3 : Int32)) / (3 : Int32)) * (3 : Int32))), .val (.int ((((p2.toUInt32 >>> ((2 : Int32) &&& 31).toUInt32).toInt32) &&& (3 : Int32)) - ((((p2.toUInt32 >>> ((2 : Int32) &&& 31).toUInt32).toInt32) &&& (3 : Int32)) / (3 : Int32)) * (3 : Int32))), .val (.int (1 : Int32)), .val (.ref sa_37), .val (.ref sa_49), .unset, .unset] [(.ref sa_49), (.ref sa_37), (.ref b64), (.ref b64)]) G
    obtain ⟨_, _, ⟨T80, L80, k80, n80⟩, -, X80, ⟨Lc80, hQ80, l80, y80, z80⟩, st80⟩ := X64.specialBack hx (y := (⟨"com/example/profile_to_target/profiletotarget/SfrId", "<init>", "(Ljava/lang/String;Ljava/lang/String;)V"⟩ : MethodName)) rfl hown49 (mvT hZ49 (hw _ (List.mem_of_getElem? (i := 37) rfl))) (mvT hZ49 (hw _ (List.mem_of_getElem? (i := 38) rfl))) (mvT hZ49 (hw _ (List.mem_of_getElem? (i := 39) rfl))) (by decide) (backOf (W := 1) (sf_init l Z a0 hw [] b64 sa_37 sa_49 .null .null h64 n0 Z75 A64 F78 F79 ge71) hZ49 (hw _ (List.mem_of_getElem? (i := 39) rfl)) (hw _ (List.mem_of_getElem? (i := 36) rfl)) (by decide) (by decide)) (g := (mkF m 106 #[.val (.int p0), .val (.int p1), .val (.int p2), .val (.int (p0 &&& (255 : Int32))), .val (.int ((p0.toUInt32 >>> ((8 : Int32) &&& 31).toUInt32).toInt32 &&& (255 : Int32))), .val (.int (p1 &&& (255 : Int32))), .val (.int ((p1.toUInt32 >>> ((8 : Int32) &&& 31).toUInt32).toInt32 &&& (255 : Int32))), .val (.int ((p2 &&& (3 : Int32)) - ((p2 &&& (3 : Int32)) / (3 : Int32)) * (3 : Int32))), .val (.int ((((p2.toUInt32 >>> ((2 : Int32) &&& 31).toUInt32).toInt32) &&& (3 : Int32)) - ((((p2.toUInt32 >>> ((2 : Int32) &&& 31).toUInt32).toInt32) &&& (3 : Int32)) / (3 : Int32)) * (3 : Int32))), .val (.int (1 : Int32)), .val (.ref sa_37), .val (.ref sa_49), .unset, .unset] [(.ref sa_49), (.ref sa_37), (.ref b64), (.ref b64)])) rfl (by rw [hml]; rfl) (Steps.refl _) (a := b64) (argsL := [(.ref sa_37), (.ref sa_49)]) (rest := [(.ref b64)]) (lenOf pd_30 rfl) rfl (by show 2 * 0 + _ ≤ _; exact Nat.le_of_eq rfl) (hb hby at_106) (fun _ _ => ⟨rfl, e64, (by decide : 13 + 0 ≤ _), (by decide : 26 + 0 ≤ _)⟩)
    dsimp only [Pt.U, Pt.locs, Pt.cells, Pt.slots] at X80 l80 y80 z80 st80 hQ80
    subst l80 y80 z80
    obtain ⟨rfl, N80q, K80, P81, P82, P83⟩ := hQ80
    have N80_ := Fr.app N49_ N80q
    refine Gl.via (fun _ k => st80.trans k) ?_
    have CR84 : CHr Z own_EL s.vm h0 T49.vm T80.heap := CHr.trans CR73 (CHr.keep K80 (sfS SF74 sf0) CR73.1)
    have SF85 : Safe Z own_EL T49.vm T80.heap b64 := Safe.keep K80 (sfS SF74 sf0) CR73.1 SF74
    have Z86 : n0 ≤ T80.heap.size := Nat.le_trans Z75 K80.1
    have Y87 : h0.size ≤ T80.heap.size := Nat.le_trans Y76 K80.1
    have hl88 := Nat.le_trans hl77 K80.1
    show Gl p.tables e below T80 (mkF m 109 #[.val (.int p0), .val (.int p1), .val (.int p2), .val (.int (p0 &&& (255 : Int32))), .val (.int ((p0.toUInt32 >>> ((8 : Int32) &&& 31).toUInt32).toInt32 &&& (255 : Int32))), .val (.int (p1 &&& (255 : Int32))), .val (.int ((p1.toUInt32 >>> ((8 : Int32) &&& 31).toUInt32).toInt32 &&& (255 : Int32))), .val (.int ((p2 &&& (3 : Int32)) - ((p2 &&& (3 : Int32)) / (3 : Int32)) * (3 : Int32))), .val (.int ((((p2.toUInt32 >>> ((2 : Int32) &&& 31).toUInt32).toInt32) &&& (3 : Int32)) - ((((p2.toUInt32 >>> ((2 : Int32) &&& 31).toUInt32).toInt32) &&& (3 : Int32)) / (3 : Int32)) * (3 : Int32))), .val (.int (1 : Int32)), .val (.ref sa_37), .val (.ref sa_49), .unset, .unset] [(.ref b64)]) G
    have G90 : Exa Z T80.heap sa_37 "java/lang/String" := ((G65.ext E64).keep K80)
    have G91 : Fld Z T80.heap sa_37 "java/lang/String" "coder" "B" (.int (0 : Int32)) := (((P39.keep K49 nin0).ext E64).keep K80 (ninS ne66 nin0))
    have G92 : Fld Z T80.heap sa_37 "java/lang/String" "value" "[B" (.ref sb_37) := (((P40.keep K49 nin0).ext E64).keep K80 (ninS ne66 nin0))
    have G93 : Arv Z T80.heap sb_37 sk_37 .byte (own_ln (own_mk ((p2 &&& (3 : Int32)) - ((p2 &&& (3 : Int32)) / (3 : Int32)) * (3 : Int32)) (p0 &&& (255 : Int32)) ((p0.toUInt32 >>> ((8 : Int32) &&& 31).toUInt32).toInt32 &&& (255 : Int32)) (0 : Int32))) ((own_mk ((p2 &&& (3 : Int32)) - ((p2 &&& (3 : Int32)) / (3 : Int32)) * (3 : Int32)) (p0 &&& (255 : Int32)) ((p0.toUInt32 >>> ((8 : Int32) &&& 31).toUInt32).toInt32 &&& (255 : Int32)) (0 : Int32)).map Value.int) (.int (0 : Int32)) := ((G67.ext E64).keep K80 (ninS ne68 nin0))
    have G94 : Exa Z T80.heap sa_49 "java/lang/String" := ((P51.ext E64).keep K80)
    have G95 : Fld Z T80.heap sa_49 "java/lang/String" "coder" "B" (.int (0 : Int32)) := ((P52.ext E64).keep K80 (ninS ne69 nin0))
    have G96 : Fld Z T80.heap sa_49 "java/lang/String" "value" "[B" (.ref sb_49) := ((P53.ext E64).keep K80 (ninS ne69 nin0))
    have G97 : Arv Z T80.heap sb_49 sk_49 .byte (own_ln (own_mk ((((p2.toUInt32 >>> ((2 : Int32) &&& 31).toUInt32).toInt32) &&& (3 : Int32)) - ((((p2.toUInt32 >>> ((2 : Int32) &&& 31).toUInt32).toInt32) &&& (3 : Int32)) / (3 : Int32)) * (3 : Int32)) (p1 &&& (255 : Int32)) ((p1.toUInt32 >>> ((8 : Int32) &&& 31).toUInt32).toInt32 &&& (255 : Int32)) (0 : Int32))) ((own_mk ((((p2.toUInt32 >>> ((2 : Int32) &&& 31).toUInt32).toInt32) &&& (3 : Int32)) - ((((p2.toUInt32 >>> ((2 : Int32) &&& 31).toUInt32).toInt32) &&& (3 : Int32)) / (3 : Int32)) * (3 : Int32)) (p1 &&& (255 : Int32)) ((p1.toUInt32 >>> ((8 : Int32) &&& 31).toUInt32).toInt32 &&& (255 : Int32)) (0 : Int32)).map Value.int) (.int (0 : Int32)) := ((P54.ext E64).keep K80 (ninS ne70 nin0))
    have G98 : Old Z n0 T80.heap := (((G50.keep K49 all0).ext E64).keep K80 (allS ge71 all0))
    obtain ⟨cq89, kq89, q89a, q89b, q89c⟩ := isOf hZ49 rfl P81
    obtain ⟨_, _, ⟨T89, L89, k89, n89⟩, -, Xb89, hSb89, hgb89, ⟨Lc89, hQ89, l89, y89, z89, hC89⟩, st89⟩ := X80.virtualBackS hx (y := (⟨"com/example/profile_to_target/profiletotarget/SfrId", "toString", "()Ljava/lang/String;"⟩ : MethodName)) (z := (⟨"com/example/profile_to_target/profiletotarget/SfrId", "toString", "()Ljava/lang/String;"⟩ : MethodName)) hown49 (mvT hZ49 (hw _ (List.mem_of_getElem? (i := 50) rfl))) (mvT hZ49 (hw _ (List.mem_of_getElem? (i := 51) rfl))) (notFace_of_selects (args := #[]) (mvT hZ49 (hw _ (List.mem_of_getElem? (i := 53) rfl)))) (mvT hZ49 (hw _ (List.mem_of_getElem? (i := 53) rfl))) (mvT hZ49 (hw _ (List.mem_of_getElem? (i := 52) rfl))) (by decide) (own_back (W := 0) (sf_str l Z a0 hw [] b64 sa_37 sb_37 sk_37 (own_mk ((p2 &&& (3 : Int32)) - ((p2 &&& (3 : Int32)) / (3 : Int32)) * (3 : Int32)) (p0 &&& (255 : Int32)) ((p0.toUInt32 >>> ((8 : Int32) &&& 31).toUInt32).toInt32 &&& (255 : Int32)) (0 : Int32)) sa_49 sb_49 sk_49 (own_mk ((((p2.toUInt32 >>> ((2 : Int32) &&& 31).toUInt32).toInt32) &&& (3 : Int32)) - ((((p2.toUInt32 >>> ((2 : Int32) &&& 31).toUInt32).toInt32) &&& (3 : Int32)) / (3 : Int32)) * (3 : Int32)) (p1 &&& (255 : Int32)) ((p1.toUInt32 >>> ((8 : Int32) &&& 31).toUInt32).toInt32 &&& (255 : Int32)) (0 : Int32)) cps T80.heap n0 Z86 P82 P83 G90 G91 G92 G93 G94 G95 G96 G97 F0_java_lang_String G98 hcps own_mklen own_mklen) hZ49 (hw _ (List.mem_of_getElem? (i := 54) rfl)) (hw _ (List.mem_of_getElem? (i := 36) rfl)) (by decide) (by decide) hEL CR84.1 (fun _ z => nomatch z)) q89a q89c (g := (mkF m 109 #[.val (.int p0), .val (.int p1), .val (.int p2), .val (.int (p0 &&& (255 : Int32))), .val (.int ((p0.toUInt32 >>> ((8 : Int32) &&& 31).toUInt32).toInt32 &&& (255 : Int32))), .val (.int (p1 &&& (255 : Int32))), .val (.int ((p1.toUInt32 >>> ((8 : Int32) &&& 31).toUInt32).toInt32 &&& (255 : Int32))), .val (.int ((p2 &&& (3 : Int32)) - ((p2 &&& (3 : Int32)) / (3 : Int32)) * (3 : Int32))), .val (.int ((((p2.toUInt32 >>> ((2 : Int32) &&& 31).toUInt32).toInt32) &&& (3 : Int32)) - ((((p2.toUInt32 >>> ((2 : Int32) &&& 31).toUInt32).toInt32) &&& (3 : Int32)) / (3 : Int32)) * (3 : Int32))), .val (.int (1 : Int32)), .val (.ref sa_37), .val (.ref sa_49), .unset, .unset] [(.ref b64)])) rfl (by rw [hml]; rfl) (Steps.refl _) (argsL := []) (rest := []) (lenOf pd_27 rfl) rfl (by show 2 * 0 + _ ≤ _; exact Nat.le_of_eq rfl) (hb hby at_109) (fun _ _ => ⟨rfl, rfl, (by decide : 13 + 6 ≤ _), (by decide : 26 + 48 ≤ _)⟩)
    dsimp only [Pt.U, Pt.locs, Pt.cells, Pt.slots] at Xb89 hSb89 hgb89 l89 y89 z89 st89 hQ89 hC89
    subst l89 y89 z89
    obtain ⟨X89, hS89, hZ89, hown89⟩ := rebS hS49 hl88 Xb89 hSb89 hgb89 hZ49 hown49
    have hk89 : T89.heap.size ≤ T89.heap.size := Nat.le_refl _
    obtain ⟨ra_89, rb_89, rk_89, rfl, N89q, K89, P99, P100, P101, P102, R103⟩ := hQ89
    have N89_ := Fr.app N80_ N89q
    refine Gl.via (fun _ k => st89.trans k) ?_
    have ne104 : sa_37 ≠ ra_89 := Nat.ne_of_lt (Nat.lt_of_lt_of_le G90.lt R103)
    have ne105 : sb_37 ≠ ra_89 := Nat.ne_of_lt (Nat.lt_of_lt_of_le G93.lt R103)
    have ne106 : sa_49 ≠ ra_89 := Nat.ne_of_lt (Nat.lt_of_lt_of_le G94.lt R103)
    have ne107 : sb_49 ≠ ra_89 := Nat.ne_of_lt (Nat.lt_of_lt_of_le G97.lt R103)
    have ne108 : b64 ≠ ra_89 := Nat.ne_of_lt (Nat.lt_of_lt_of_le P81.lt R103)
    have ge109 : n0 ≤ ra_89 := Nat.le_trans Z86 R103
    have gz110 : h0.size ≤ ra_89 := Nat.le_trans Y87 R103
    have CR111 : CHr Z own_EL s.vm h0 T89.vm T89.heap := CHr.trans CR84 hC89
    have SF112 : Safe Z own_EL T89.vm T89.heap b64 := hC89.safe (by have q := P81.lt; exact q) SF85
    have Z113 : n0 ≤ T89.heap.size := Nat.le_trans Z86 K89.1
    have Y114 : h0.size ≤ T89.heap.size := Nat.le_trans Y87 K89.1
    have hl115 := Nat.le_trans hl88 K89.1
    show Gl p.tables e below T89 (mkF m 112 #[.val (.int p0), .val (.int p1), .val (.int p2), .val (.int (p0 &&& (255 : Int32))), .val (.int ((p0.toUInt32 >>> ((8 : Int32) &&& 31).toUInt32).toInt32 &&& (255 : Int32))), .val (.int (p1 &&& (255 : Int32))), .val (.int ((p1.toUInt32 >>> ((8 : Int32) &&& 31).toUInt32).toInt32 &&& (255 : Int32))), .val (.int ((p2 &&& (3 : Int32)) - ((p2 &&& (3 : Int32)) / (3 : Int32)) * (3 : Int32))), .val (.int ((((p2.toUInt32 >>> ((2 : Int32) &&& 31).toUInt32).toInt32) &&& (3 : Int32)) - ((((p2.toUInt32 >>> ((2 : Int32) &&& 31).toUInt32).toInt32) &&& (3 : Int32)) / (3 : Int32)) * (3 : Int32))), .val (.int (1 : Int32)), .val (.ref sa_37), .val (.ref sa_49), .unset, .unset] [(.ref ra_89)]) G
    have V116 : Arv Z T89.heap rb_89 rk_89 .byte (own_ln (own_scat (47 : Int32) ((p2 &&& (3 : Int32)) - ((p2 &&& (3 : Int32)) / (3 : Int32)) * (3 : Int32)) (p0 &&& (255 : Int32)) ((p0.toUInt32 >>> ((8 : Int32) &&& 31).toUInt32).toInt32 &&& (255 : Int32)) (0 : Int32) (((p2.toUInt32 >>> ((2 : Int32) &&& 31).toUInt32).toInt32 &&& (3 : Int32)) - (((p2.toUInt32 >>> ((2 : Int32) &&& 31).toUInt32).toInt32 &&& (3 : Int32)) / (3 : Int32)) * (3 : Int32)) (p1 &&& (255 : Int32)) ((p1.toUInt32 >>> ((8 : Int32) &&& 31).toUInt32).toInt32 &&& (255 : Int32)) (0 : Int32))) ((own_scat (47 : Int32) ((p2 &&& (3 : Int32)) - ((p2 &&& (3 : Int32)) / (3 : Int32)) * (3 : Int32)) (p0 &&& (255 : Int32)) ((p0.toUInt32 >>> ((8 : Int32) &&& 31).toUInt32).toInt32 &&& (255 : Int32)) (0 : Int32) (((p2.toUInt32 >>> ((2 : Int32) &&& 31).toUInt32).toInt32 &&& (3 : Int32)) - (((p2.toUInt32 >>> ((2 : Int32) &&& 31).toUInt32).toInt32 &&& (3 : Int32)) / (3 : Int32)) * (3 : Int32)) (p1 &&& (255 : Int32)) ((p1.toUInt32 >>> ((8 : Int32) &&& 31).toUInt32).toInt32 &&& (255 : Int32)) (0 : Int32)).map Value.int) (.int (0 : Int32)) := P102
    refine Gl.via (fun _ k => XS.astore X89.here hx rfl (hb hby at_112) rfl rfl (l' := #[.val (.int p0), .val (.int p1), .val (.int p2), .val (.int (p0 &&& (255 : Int32))), .val (.int ((p0.toUInt32 >>> ((8 : Int32) &&& 31).toUInt32).toInt32 &&& (255 : Int32))), .val (.int (p1 &&& (255 : Int32))), .val (.int ((p1.toUInt32 >>> ((8 : Int32) &&& 31).toUInt32).toInt32 &&& (255 : Int32))), .val (.int ((p2 &&& (3 : Int32)) - ((p2 &&& (3 : Int32)) / (3 : Int32)) * (3 : Int32))), .val (.int ((((p2.toUInt32 >>> ((2 : Int32) &&& 31).toUInt32).toInt32) &&& (3 : Int32)) - ((((p2.toUInt32 >>> ((2 : Int32) &&& 31).toUInt32).toInt32) &&& (3 : Int32)) / (3 : Int32)) * (3 : Int32))), .val (.int (1 : Int32)), .val (.ref sa_37), .val (.ref sa_49), .val (.ref ra_89), .unset]) rfl k) ?_
    show Gl p.tables e below T89 (mkF m 114 #[.val (.int p0), .val (.int p1), .val (.int p2), .val (.int (p0 &&& (255 : Int32))), .val (.int ((p0.toUInt32 >>> ((8 : Int32) &&& 31).toUInt32).toInt32 &&& (255 : Int32))), .val (.int (p1 &&& (255 : Int32))), .val (.int ((p1.toUInt32 >>> ((8 : Int32) &&& 31).toUInt32).toInt32 &&& (255 : Int32))), .val (.int ((p2 &&& (3 : Int32)) - ((p2 &&& (3 : Int32)) / (3 : Int32)) * (3 : Int32))), .val (.int ((((p2.toUInt32 >>> ((2 : Int32) &&& 31).toUInt32).toInt32) &&& (3 : Int32)) - ((((p2.toUInt32 >>> ((2 : Int32) &&& 31).toUInt32).toInt32) &&& (3 : Int32)) / (3 : Int32)) * (3 : Int32))), .val (.int (1 : Int32)), .val (.ref sa_37), .val (.ref sa_49), .val (.ref ra_89), .unset] []) G
    refine Gl.via (fun _ k => XS.aload X89.here hx rfl (hb hby at_114) rfl rfl k) ?_
    show Gl p.tables e below T89 (mkF m 116 #[.val (.int p0), .val (.int p1), .val (.int p2), .val (.int (p0 &&& (255 : Int32))), .val (.int ((p0.toUInt32 >>> ((8 : Int32) &&& 31).toUInt32).toInt32 &&& (255 : Int32))), .val (.int (p1 &&& (255 : Int32))), .val (.int ((p1.toUInt32 >>> ((8 : Int32) &&& 31).toUInt32).toInt32 &&& (255 : Int32))), .val (.int ((p2 &&& (3 : Int32)) - ((p2 &&& (3 : Int32)) / (3 : Int32)) * (3 : Int32))), .val (.int ((((p2.toUInt32 >>> ((2 : Int32) &&& 31).toUInt32).toInt32) &&& (3 : Int32)) - ((((p2.toUInt32 >>> ((2 : Int32) &&& 31).toUInt32).toInt32) &&& (3 : Int32)) / (3 : Int32)) * (3 : Int32))), .val (.int (1 : Int32)), .val (.ref sa_37), .val (.ref sa_49), .val (.ref ra_89), .unset] [(.ref ra_89)]) G
    refine Gl.via (fun _ k => XS.ifnonnullYes X89.here hx rfl (pc0 := 116) (pc' := 121) rfl (hb hby at_116) rfl (by decide) (by decide) k) ?_
    show Gl p.tables e below T89 (mkF m 121 #[.val (.int p0), .val (.int p1), .val (.int p2), .val (.int (p0 &&& (255 : Int32))), .val (.int ((p0.toUInt32 >>> ((8 : Int32) &&& 31).toUInt32).toInt32 &&& (255 : Int32))), .val (.int (p1 &&& (255 : Int32))), .val (.int ((p1.toUInt32 >>> ((8 : Int32) &&& 31).toUInt32).toInt32 &&& (255 : Int32))), .val (.int ((p2 &&& (3 : Int32)) - ((p2 &&& (3 : Int32)) / (3 : Int32)) * (3 : Int32))), .val (.int ((((p2.toUInt32 >>> ((2 : Int32) &&& 31).toUInt32).toInt32) &&& (3 : Int32)) - ((((p2.toUInt32 >>> ((2 : Int32) &&& 31).toUInt32).toInt32) &&& (3 : Int32)) / (3 : Int32)) * (3 : Int32))), .val (.int (1 : Int32)), .val (.ref sa_37), .val (.ref sa_49), .val (.ref ra_89), .unset] []) G
    refine Gl.via (fun _ k => XS.iload X89.here hx rfl (hb hby at_121) rfl k) ?_
    show Gl p.tables e below T89 (mkF m 123 #[.val (.int p0), .val (.int p1), .val (.int p2), .val (.int (p0 &&& (255 : Int32))), .val (.int ((p0.toUInt32 >>> ((8 : Int32) &&& 31).toUInt32).toInt32 &&& (255 : Int32))), .val (.int (p1 &&& (255 : Int32))), .val (.int ((p1.toUInt32 >>> ((8 : Int32) &&& 31).toUInt32).toInt32 &&& (255 : Int32))), .val (.int ((p2 &&& (3 : Int32)) - ((p2 &&& (3 : Int32)) / (3 : Int32)) * (3 : Int32))), .val (.int ((((p2.toUInt32 >>> ((2 : Int32) &&& 31).toUInt32).toInt32) &&& (3 : Int32)) - ((((p2.toUInt32 >>> ((2 : Int32) &&& 31).toUInt32).toInt32) &&& (3 : Int32)) / (3 : Int32)) * (3 : Int32))), .val (.int (1 : Int32)), .val (.ref sa_37), .val (.ref sa_49), .val (.ref ra_89), .unset] [(.int (1 : Int32))]) G
    refine Gl.via (fun _ k => XS.ifYes X89.here hx rfl (pc0 := 123) (pc' := 134) rfl (hb hby at_123) rfl ((if0 _ _).trans (feq (by decide)).2) (by decide) (by decide) k) ?_
    show Gl p.tables e below T89 (mkF m 134 #[.val (.int p0), .val (.int p1), .val (.int p2), .val (.int (p0 &&& (255 : Int32))), .val (.int ((p0.toUInt32 >>> ((8 : Int32) &&& 31).toUInt32).toInt32 &&& (255 : Int32))), .val (.int (p1 &&& (255 : Int32))), .val (.int ((p1.toUInt32 >>> ((8 : Int32) &&& 31).toUInt32).toInt32 &&& (255 : Int32))), .val (.int ((p2 &&& (3 : Int32)) - ((p2 &&& (3 : Int32)) / (3 : Int32)) * (3 : Int32))), .val (.int ((((p2.toUInt32 >>> ((2 : Int32) &&& 31).toUInt32).toInt32) &&& (3 : Int32)) - ((((p2.toUInt32 >>> ((2 : Int32) &&& 31).toUInt32).toInt32) &&& (3 : Int32)) / (3 : Int32)) * (3 : Int32))), .val (.int (1 : Int32)), .val (.ref sa_37), .val (.ref sa_49), .val (.ref ra_89), .unset] []) G
    refine Gl.via (fun _ k => XS.iload X89.here hx rfl (hb hby at_134) rfl k) ?_
    show Gl p.tables e below T89 (mkF m 136 #[.val (.int p0), .val (.int p1), .val (.int p2), .val (.int (p0 &&& (255 : Int32))), .val (.int ((p0.toUInt32 >>> ((8 : Int32) &&& 31).toUInt32).toInt32 &&& (255 : Int32))), .val (.int (p1 &&& (255 : Int32))), .val (.int ((p1.toUInt32 >>> ((8 : Int32) &&& 31).toUInt32).toInt32 &&& (255 : Int32))), .val (.int ((p2 &&& (3 : Int32)) - ((p2 &&& (3 : Int32)) / (3 : Int32)) * (3 : Int32))), .val (.int ((((p2.toUInt32 >>> ((2 : Int32) &&& 31).toUInt32).toInt32) &&& (3 : Int32)) - ((((p2.toUInt32 >>> ((2 : Int32) &&& 31).toUInt32).toInt32) &&& (3 : Int32)) / (3 : Int32)) * (3 : Int32))), .val (.int (1 : Int32)), .val (.ref sa_37), .val (.ref sa_49), .val (.ref ra_89), .unset] [(.int ((p2 &&& (3 : Int32)) - ((p2 &&& (3 : Int32)) / (3 : Int32)) * (3 : Int32)))]) G
    refine Gl.via (fun _ k => XS.iconst X89.here hx rfl (hb hby at_136) k) ?_
    show Gl p.tables e below T89 (mkF m 137 #[.val (.int p0), .val (.int p1), .val (.int p2), .val (.int (p0 &&& (255 : Int32))), .val (.int ((p0.toUInt32 >>> ((8 : Int32) &&& 31).toUInt32).toInt32 &&& (255 : Int32))), .val (.int (p1 &&& (255 : Int32))), .val (.int ((p1.toUInt32 >>> ((8 : Int32) &&& 31).toUInt32).toInt32 &&& (255 : Int32))), .val (.int ((p2 &&& (3 : Int32)) - ((p2 &&& (3 : Int32)) / (3 : Int32)) * (3 : Int32))), .val (.int ((((p2.toUInt32 >>> ((2 : Int32) &&& 31).toUInt32).toInt32) &&& (3 : Int32)) - ((((p2.toUInt32 >>> ((2 : Int32) &&& 31).toUInt32).toInt32) &&& (3 : Int32)) / (3 : Int32)) * (3 : Int32))), .val (.int (1 : Int32)), .val (.ref sa_37), .val (.ref sa_49), .val (.ref ra_89), .unset] [(.int (1 : Int32)), (.int ((p2 &&& (3 : Int32)) - ((p2 &&& (3 : Int32)) / (3 : Int32)) * (3 : Int32)))]) G
    refine Gl.via (fun _ k => XS.iadd X89.here hx rfl (hb hby at_137) rfl k) ?_
    show Gl p.tables e below T89 (mkF m 138 #[.val (.int p0), .val (.int p1), .val (.int p2), .val (.int (p0 &&& (255 : Int32))), .val (.int ((p0.toUInt32 >>> ((8 : Int32) &&& 31).toUInt32).toInt32 &&& (255 : Int32))), .val (.int (p1 &&& (255 : Int32))), .val (.int ((p1.toUInt32 >>> ((8 : Int32) &&& 31).toUInt32).toInt32 &&& (255 : Int32))), .val (.int ((p2 &&& (3 : Int32)) - ((p2 &&& (3 : Int32)) / (3 : Int32)) * (3 : Int32))), .val (.int ((((p2.toUInt32 >>> ((2 : Int32) &&& 31).toUInt32).toInt32) &&& (3 : Int32)) - ((((p2.toUInt32 >>> ((2 : Int32) &&& 31).toUInt32).toInt32) &&& (3 : Int32)) / (3 : Int32)) * (3 : Int32))), .val (.int (1 : Int32)), .val (.ref sa_37), .val (.ref sa_49), .val (.ref ra_89), .unset] [(.int (((p2 &&& (3 : Int32)) - ((p2 &&& (3 : Int32)) / (3 : Int32)) * (3 : Int32)) + (1 : Int32)))]) G
    refine Gl.via (fun _ k => XS.iload X89.here hx rfl (hb hby at_138) rfl k) ?_
    show Gl p.tables e below T89 (mkF m 140 #[.val (.int p0), .val (.int p1), .val (.int p2), .val (.int (p0 &&& (255 : Int32))), .val (.int ((p0.toUInt32 >>> ((8 : Int32) &&& 31).toUInt32).toInt32 &&& (255 : Int32))), .val (.int (p1 &&& (255 : Int32))), .val (.int ((p1.toUInt32 >>> ((8 : Int32) &&& 31).toUInt32).toInt32 &&& (255 : Int32))), .val (.int ((p2 &&& (3 : Int32)) - ((p2 &&& (3 : Int32)) / (3 : Int32)) * (3 : Int32))), .val (.int ((((p2.toUInt32 >>> ((2 : Int32) &&& 31).toUInt32).toInt32) &&& (3 : Int32)) - ((((p2.toUInt32 >>> ((2 : Int32) &&& 31).toUInt32).toInt32) &&& (3 : Int32)) / (3 : Int32)) * (3 : Int32))), .val (.int (1 : Int32)), .val (.ref sa_37), .val (.ref sa_49), .val (.ref ra_89), .unset] [(.int ((((p2.toUInt32 >>> ((2 : Int32) &&& 31).toUInt32).toInt32) &&& (3 : Int32)) - ((((p2.toUInt32 >>> ((2 : Int32) &&& 31).toUInt32).toInt32) &&& (3 : Int32)) / (3 : Int32)) * (3 : Int32))), (.int (((p2 &&& (3 : Int32)) - ((p2 &&& (3 : Int32)) / (3 : Int32)) * (3 : Int32)) + (1 : Int32)))]) G
    refine Gl.via (fun _ k => XS.iadd X89.here hx rfl (hb hby at_140) rfl k) ?_
    show Gl p.tables e below T89 (mkF m 141 #[.val (.int p0), .val (.int p1), .val (.int p2), .val (.int (p0 &&& (255 : Int32))), .val (.int ((p0.toUInt32 >>> ((8 : Int32) &&& 31).toUInt32).toInt32 &&& (255 : Int32))), .val (.int (p1 &&& (255 : Int32))), .val (.int ((p1.toUInt32 >>> ((8 : Int32) &&& 31).toUInt32).toInt32 &&& (255 : Int32))), .val (.int ((p2 &&& (3 : Int32)) - ((p2 &&& (3 : Int32)) / (3 : Int32)) * (3 : Int32))), .val (.int ((((p2.toUInt32 >>> ((2 : Int32) &&& 31).toUInt32).toInt32) &&& (3 : Int32)) - ((((p2.toUInt32 >>> ((2 : Int32) &&& 31).toUInt32).toInt32) &&& (3 : Int32)) / (3 : Int32)) * (3 : Int32))), .val (.int (1 : Int32)), .val (.ref sa_37), .val (.ref sa_49), .val (.ref ra_89), .unset] [(.int ((((p2 &&& (3 : Int32)) - ((p2 &&& (3 : Int32)) / (3 : Int32)) * (3 : Int32)) + (1 : Int32)) + ((((p2.toUInt32 >>> ((2 : Int32) &&& 31).toUInt32).toInt32) &&& (3 : Int32)) - ((((p2.toUInt32 >>> ((2 : Int32) &&& 31).toUInt32).toInt32) &&& (3 : Int32)) / (3 : Int32)) * (3 : Int32))))]) G
    refine Gl.via (fun _ k => XS.istore X89.here hx rfl (hb hby at_141) rfl (l' := #[.val (.int p0), .val (.int p1), .val (.int p2), .val (.int (p0 &&& (255 : Int32))), .val (.int ((p0.toUInt32 >>> ((8 : Int32) &&& 31).toUInt32).toInt32 &&& (255 : Int32))), .val (.int (p1 &&& (255 : Int32))), .val (.int ((p1.toUInt32 >>> ((8 : Int32) &&& 31).toUInt32).toInt32 &&& (255 : Int32))), .val (.int ((p2 &&& (3 : Int32)) - ((p2 &&& (3 : Int32)) / (3 : Int32)) * (3 : Int32))), .val (.int ((((p2.toUInt32 >>> ((2 : Int32) &&& 31).toUInt32).toInt32) &&& (3 : Int32)) - ((((p2.toUInt32 >>> ((2 : Int32) &&& 31).toUInt32).toInt32) &&& (3 : Int32)) / (3 : Int32)) * (3 : Int32))), .val (.int (1 : Int32)), .val (.ref sa_37), .val (.ref sa_49), .val (.ref ra_89), .val (.int ((((p2 &&& (3 : Int32)) - ((p2 &&& (3 : Int32)) / (3 : Int32)) * (3 : Int32)) + (1 : Int32)) + ((((p2.toUInt32 >>> ((2 : Int32) &&& 31).toUInt32).toInt32) &&& (3 : Int32)) - ((((p2.toUInt32 >>> ((2 : Int32) &&& 31).toUInt32).toInt32) &&& (3 : Int32)) / (3 : Int32)) * (3 : Int32))))]) rfl k) ?_
    show Gl p.tables e below T89 (mkF m 143 #[.val (.int p0), .val (.int p1), .val (.int p2), .val (.int (p0 &&& (255 : Int32))), .val (.int ((p0.toUInt32 >>> ((8 : Int32) &&& 31).toUInt32).toInt32 &&& (255 : Int32))), .val (.int (p1 &&& (255 : Int32))), .val (.int ((p1.toUInt32 >>> ((8 : Int32) &&& 31).toUInt32).toInt32 &&& (255 : Int32))), .val (.int ((p2 &&& (3 : Int32)) - ((p2 &&& (3 : Int32)) / (3 : Int32)) * (3 : Int32))), .val (.int ((((p2.toUInt32 >>> ((2 : Int32) &&& 31).toUInt32).toInt32) &&& (3 : Int32)) - ((((p2.toUInt32 >>> ((2 : Int32) &&& 31).toUInt32).toInt32) &&& (3 : Int32)) / (3 : Int32)) * (3 : Int32))), .val (.int (1 : Int32)), .val (.ref sa_37), .val (.ref sa_49), .val (.ref ra_89), .val (.int ((((p2 &&& (3 : Int32)) - ((p2 &&& (3 : Int32)) / (3 : Int32)) * (3 : Int32)) + (1 : Int32)) + ((((p2.toUInt32 >>> ((2 : Int32) &&& 31).toUInt32).toInt32) &&& (3 : Int32)) - ((((p2.toUInt32 >>> ((2 : Int32) &&& 31).toUInt32).toInt32) &&& (3 : Int32)) / (3 : Int32)) * (3 : Int32))))] []) G
    refine Gl.via (fun _ k => XS.aload X89.here hx rfl (hb hby at_143) rfl rfl k) ?_
    show Gl p.tables e below T89 (mkF m 145 #[.val (.int p0), .val (.int p1), .val (.int p2), .val (.int (p0 &&& (255 : Int32))), .val (.int ((p0.toUInt32 >>> ((8 : Int32) &&& 31).toUInt32).toInt32 &&& (255 : Int32))), .val (.int (p1 &&& (255 : Int32))), .val (.int ((p1.toUInt32 >>> ((8 : Int32) &&& 31).toUInt32).toInt32 &&& (255 : Int32))), .val (.int ((p2 &&& (3 : Int32)) - ((p2 &&& (3 : Int32)) / (3 : Int32)) * (3 : Int32))), .val (.int ((((p2.toUInt32 >>> ((2 : Int32) &&& 31).toUInt32).toInt32) &&& (3 : Int32)) - ((((p2.toUInt32 >>> ((2 : Int32) &&& 31).toUInt32).toInt32) &&& (3 : Int32)) / (3 : Int32)) * (3 : Int32))), .val (.int (1 : Int32)), .val (.ref sa_37), .val (.ref sa_49), .val (.ref ra_89), .val (.int ((((p2 &&& (3 : Int32)) - ((p2 &&& (3 : Int32)) / (3 : Int32)) * (3 : Int32)) + (1 : Int32)) + ((((p2.toUInt32 >>> ((2 : Int32) &&& 31).toUInt32).toInt32) &&& (3 : Int32)) - ((((p2.toUInt32 >>> ((2 : Int32) &&& 31).toUInt32).toInt32) &&& (3 : Int32)) / (3 : Int32)) * (3 : Int32))))] [(.ref ra_89)]) G
    have G118 : Old Z n0 T89.heap := (G98.keep K89 all0)
    obtain ⟨cq117, kq117, q117a, q117b, q117c⟩ := isOf hZ89 rfl P99
    obtain ⟨_, _, ⟨T117, L117, k117, n117⟩, -, X117, ⟨Lc117, hQ117, l117, y117, z117⟩, st117⟩ := X89.virtualBack hx (y := (⟨"java/lang/String", "length", "()I"⟩ : MethodName)) (z := (⟨"java/lang/String", "length", "()I"⟩ : MethodName)) hown89 (mvT hZ89 (hw _ (List.mem_of_getElem? (i := 188) rfl))) (mvT hZ89 (hw _ (List.mem_of_getElem? (i := 106) rfl))) (notFace_of_selects (args := #[]) (mvT hZ89 (hw _ (List.mem_of_getElem? (i := 108) rfl)))) (mvT hZ89 (hw _ (List.mem_of_getElem? (i := 108) rfl))) (mvT hZ89 (hw _ (List.mem_of_getElem? (i := 107) rfl))) (by decide) (backOf (W := 0) (st_len l Z a0 hw [] ra_89 rb_89 rk_89 (own_scat (47 : Int32) ((p2 &&& (3 : Int32)) - ((p2 &&& (3 : Int32)) / (3 : Int32)) * (3 : Int32)) (p0 &&& (255 : Int32)) ((p0.toUInt32 >>> ((8 : Int32) &&& 31).toUInt32).toInt32 &&& (255 : Int32)) (0 : Int32) (((p2.toUInt32 >>> ((2 : Int32) &&& 31).toUInt32).toInt32 &&& (3 : Int32)) - (((p2.toUInt32 >>> ((2 : Int32) &&& 31).toUInt32).toInt32 &&& (3 : Int32)) / (3 : Int32)) * (3 : Int32)) (p1 &&& (255 : Int32)) ((p1.toUInt32 >>> ((8 : Int32) &&& 31).toUInt32).toInt32 &&& (255 : Int32)) (0 : Int32)) cps T89.heap n0 Z113 P99 P100 P101 V116 F0_java_lang_String G118 hcps) hZ89 (hw _ (List.mem_of_getElem? (i := 109) rfl)) (hw _ (List.mem_of_getElem? (i := 6) rfl)) (by decide) (by decide)) q117a q117c (g := (mkF m 145 #[.val (.int p0), .val (.int p1), .val (.int p2), .val (.int (p0 &&& (255 : Int32))), .val (.int ((p0.toUInt32 >>> ((8 : Int32) &&& 31).toUInt32).toInt32 &&& (255 : Int32))), .val (.int (p1 &&& (255 : Int32))), .val (.int ((p1.toUInt32 >>> ((8 : Int32) &&& 31).toUInt32).toInt32 &&& (255 : Int32))), .val (.int ((p2 &&& (3 : Int32)) - ((p2 &&& (3 : Int32)) / (3 : Int32)) * (3 : Int32))), .val (.int ((((p2.toUInt32 >>> ((2 : Int32) &&& 31).toUInt32).toInt32) &&& (3 : Int32)) - ((((p2.toUInt32 >>> ((2 : Int32) &&& 31).toUInt32).toInt32) &&& (3 : Int32)) / (3 : Int32)) * (3 : Int32))), .val (.int (1 : Int32)), .val (.ref sa_37), .val (.ref sa_49), .val (.ref ra_89), .val (.int ((((p2 &&& (3 : Int32)) - ((p2 &&& (3 : Int32)) / (3 : Int32)) * (3 : Int32)) + (1 : Int32)) + ((((p2.toUInt32 >>> ((2 : Int32) &&& 31).toUInt32).toInt32) &&& (3 : Int32)) - ((((p2.toUInt32 >>> ((2 : Int32) &&& 31).toUInt32).toInt32) &&& (3 : Int32)) / (3 : Int32)) * (3 : Int32))))] [(.ref ra_89)])) rfl (by rw [hml]; rfl) (Steps.refl _) (argsL := []) (rest := []) (lenOf pd_8 rfl) rfl (by show 2 * 0 + _ ≤ _; exact Nat.le_of_eq rfl) (hb hby at_145) (fun _ _ => ⟨rfl, rfl, (by decide : 19 + 0 ≤ _), (by decide : 74 + 0 ≤ _)⟩)
    dsimp only [Pt.U, Pt.locs, Pt.cells, Pt.slots] at X117 l117 y117 z117 st117 hQ117
    subst l117 y117 z117
    obtain ⟨rfl, N117q, eh117⟩ := hQ117
    have N117_ := Fr.app N89_ N117q
    refine Gl.via (fun _ k => st117.trans k) ?_
    show Gl p.tables e below T117 (mkF m 148 #[.val (.int p0), .val (.int p1), .val (.int p2), .val (.int (p0 &&& (255 : Int32))), .val (.int ((p0.toUInt32 >>> ((8 : Int32) &&& 31).toUInt32).toInt32 &&& (255 : Int32))), .val (.int (p1 &&& (255 : Int32))), .val (.int ((p1.toUInt32 >>> ((8 : Int32) &&& 31).toUInt32).toInt32 &&& (255 : Int32))), .val (.int ((p2 &&& (3 : Int32)) - ((p2 &&& (3 : Int32)) / (3 : Int32)) * (3 : Int32))), .val (.int ((((p2.toUInt32 >>> ((2 : Int32) &&& 31).toUInt32).toInt32) &&& (3 : Int32)) - ((((p2.toUInt32 >>> ((2 : Int32) &&& 31).toUInt32).toInt32) &&& (3 : Int32)) / (3 : Int32)) * (3 : Int32))), .val (.int (1 : Int32)), .val (.ref sa_37), .val (.ref sa_49), .val (.ref ra_89), .val (.int ((((p2 &&& (3 : Int32)) - ((p2 &&& (3 : Int32)) / (3 : Int32)) * (3 : Int32)) + (1 : Int32)) + ((((p2.toUInt32 >>> ((2 : Int32) &&& 31).toUInt32).toInt32) &&& (3 : Int32)) - ((((p2.toUInt32 >>> ((2 : Int32) &&& 31).toUInt32).toInt32) &&& (3 : Int32)) / (3 : Int32)) * (3 : Int32))))] [(.int (own_ln (own_scat (47 : Int32) ((p2 &&& (3 : Int32)) - ((p2 &&& (3 : Int32)) / (3 : Int32)) * (3 : Int32)) (p0 &&& (255 : Int32)) ((p0.toUInt32 >>> ((8 : Int32) &&& 31).toUInt32).toInt32 &&& (255 : Int32)) (0 : Int32) (((p2.toUInt32 >>> ((2 : Int32) &&& 31).toUInt32).toInt32 &&& (3 : Int32)) - (((p2.toUInt32 >>> ((2 : Int32) &&& 31).toUInt32).toInt32 &&& (3 : Int32)) / (3 : Int32)) * (3 : Int32)) (p1 &&& (255 : Int32)) ((p1.toUInt32 >>> ((8 : Int32) &&& 31).toUInt32).toInt32 &&& (255 : Int32)) (0 : Int32))))]) G
    refine Gl.via (fun _ k => XS.iload X117.here hx rfl (hb hby at_148) rfl k) ?_
    show Gl p.tables e below T117 (mkF m 150 #[.val (.int p0), .val (.int p1), .val (.int p2), .val (.int (p0 &&& (255 : Int32))), .val (.int ((p0.toUInt32 >>> ((8 : Int32) &&& 31).toUInt32).toInt32 &&& (255 : Int32))), .val (.int (p1 &&& (255 : Int32))), .val (.int ((p1.toUInt32 >>> ((8 : Int32) &&& 31).toUInt32).toInt32 &&& (255 : Int32))), .val (.int ((p2 &&& (3 : Int32)) - ((p2 &&& (3 : Int32)) / (3 : Int32)) * (3 : Int32))), .val (.int ((((p2.toUInt32 >>> ((2 : Int32) &&& 31).toUInt32).toInt32) &&& (3 : Int32)) - ((((p2.toUInt32 >>> ((2 : Int32) &&& 31).toUInt32).toInt32) &&& (3 : Int32)) / (3 : Int32)) * (3 : Int32))), .val (.int (1 : Int32)), .val (.ref sa_37), .val (.ref sa_49), .val (.ref ra_89), .val (.int ((((p2 &&& (3 : Int32)) - ((p2 &&& (3 : Int32)) / (3 : Int32)) * (3 : Int32)) + (1 : Int32)) + ((((p2.toUInt32 >>> ((2 : Int32) &&& 31).toUInt32).toInt32) &&& (3 : Int32)) - ((((p2.toUInt32 >>> ((2 : Int32) &&& 31).toUInt32).toInt32) &&& (3 : Int32)) / (3 : Int32)) * (3 : Int32))))] [(.int ((((p2 &&& (3 : Int32)) - ((p2 &&& (3 : Int32)) / (3 : Int32)) * (3 : Int32)) + (1 : Int32)) + ((((p2.toUInt32 >>> ((2 : Int32) &&& 31).toUInt32).toInt32) &&& (3 : Int32)) - ((((p2.toUInt32 >>> ((2 : Int32) &&& 31).toUInt32).toInt32) &&& (3 : Int32)) / (3 : Int32)) * (3 : Int32)))), (.int (own_ln (own_scat (47 : Int32) ((p2 &&& (3 : Int32)) - ((p2 &&& (3 : Int32)) / (3 : Int32)) * (3 : Int32)) (p0 &&& (255 : Int32)) ((p0.toUInt32 >>> ((8 : Int32) &&& 31).toUInt32).toInt32 &&& (255 : Int32)) (0 : Int32) (((p2.toUInt32 >>> ((2 : Int32) &&& 31).toUInt32).toInt32 &&& (3 : Int32)) - (((p2.toUInt32 >>> ((2 : Int32) &&& 31).toUInt32).toInt32 &&& (3 : Int32)) / (3 : Int32)) * (3 : Int32)) (p1 &&& (255 : Int32)) ((p1.toUInt32 >>> ((8 : Int32) &&& 31).toUInt32).toInt32 &&& (255 : Int32)) (0 : Int32))))]) G
    refine Gl.via (fun _ k => XS.icmpYes X117.here hx rfl (pc0 := 150) (pc' := 155) rfl (hb hby at_150) rfl (teq (own_scln (own_s2s (own_r3 _)) (own_s2s (own_r3 _)))).1 (by decide) (by decide) k) ?_
    show Gl p.tables e below T117 (mkF m 155 #[.val (.int p0), .val (.int p1), .val (.int p2), .val (.int (p0 &&& (255 : Int32))), .val (.int ((p0.toUInt32 >>> ((8 : Int32) &&& 31).toUInt32).toInt32 &&& (255 : Int32))), .val (.int (p1 &&& (255 : Int32))), .val (.int ((p1.toUInt32 >>> ((8 : Int32) &&& 31).toUInt32).toInt32 &&& (255 : Int32))), .val (.int ((p2 &&& (3 : Int32)) - ((p2 &&& (3 : Int32)) / (3 : Int32)) * (3 : Int32))), .val (.int ((((p2.toUInt32 >>> ((2 : Int32) &&& 31).toUInt32).toInt32) &&& (3 : Int32)) - ((((p2.toUInt32 >>> ((2 : Int32) &&& 31).toUInt32).toInt32) &&& (3 : Int32)) / (3 : Int32)) * (3 : Int32))), .val (.int (1 : Int32)), .val (.ref sa_37), .val (.ref sa_49), .val (.ref ra_89), .val (.int ((((p2 &&& (3 : Int32)) - ((p2 &&& (3 : Int32)) / (3 : Int32)) * (3 : Int32)) + (1 : Int32)) + ((((p2.toUInt32 >>> ((2 : Int32) &&& 31).toUInt32).toInt32) &&& (3 : Int32)) - ((((p2.toUInt32 >>> ((2 : Int32) &&& 31).toUInt32).toInt32) &&& (3 : Int32)) / (3 : Int32)) * (3 : Int32))))] []) G
    refine Gl.via (fun _ k => XS.aload X117.here hx rfl (hb hby at_155) rfl rfl k) ?_
    show Gl p.tables e below T117 (mkF m 157 #[.val (.int p0), .val (.int p1), .val (.int p2), .val (.int (p0 &&& (255 : Int32))), .val (.int ((p0.toUInt32 >>> ((8 : Int32) &&& 31).toUInt32).toInt32 &&& (255 : Int32))), .val (.int (p1 &&& (255 : Int32))), .val (.int ((p1.toUInt32 >>> ((8 : Int32) &&& 31).toUInt32).toInt32 &&& (255 : Int32))), .val (.int ((p2 &&& (3 : Int32)) - ((p2 &&& (3 : Int32)) / (3 : Int32)) * (3 : Int32))), .val (.int ((((p2.toUInt32 >>> ((2 : Int32) &&& 31).toUInt32).toInt32) &&& (3 : Int32)) - ((((p2.toUInt32 >>> ((2 : Int32) &&& 31).toUInt32).toInt32) &&& (3 : Int32)) / (3 : Int32)) * (3 : Int32))), .val (.int (1 : Int32)), .val (.ref sa_37), .val (.ref sa_49), .val (.ref ra_89), .val (.int ((((p2 &&& (3 : Int32)) - ((p2 &&& (3 : Int32)) / (3 : Int32)) * (3 : Int32)) + (1 : Int32)) + ((((p2.toUInt32 >>> ((2 : Int32) &&& 31).toUInt32).toInt32) &&& (3 : Int32)) - ((((p2.toUInt32 >>> ((2 : Int32) &&& 31).toUInt32).toInt32) &&& (3 : Int32)) / (3 : Int32)) * (3 : Int32))))] [(.ref ra_89)]) G
    refine Gl.via (fun _ k => XS.iconst X117.here hx rfl (hb hby at_157) k) ?_
    show Gl p.tables e below T117 (mkF m 158 #[.val (.int p0), .val (.int p1), .val (.int p2), .val (.int (p0 &&& (255 : Int32))), .val (.int ((p0.toUInt32 >>> ((8 : Int32) &&& 31).toUInt32).toInt32 &&& (255 : Int32))), .val (.int (p1 &&& (255 : Int32))), .val (.int ((p1.toUInt32 >>> ((8 : Int32) &&& 31).toUInt32).toInt32 &&& (255 : Int32))), .val (.int ((p2 &&& (3 : Int32)) - ((p2 &&& (3 : Int32)) / (3 : Int32)) * (3 : Int32))), .val (.int ((((p2.toUInt32 >>> ((2 : Int32) &&& 31).toUInt32).toInt32) &&& (3 : Int32)) - ((((p2.toUInt32 >>> ((2 : Int32) &&& 31).toUInt32).toInt32) &&& (3 : Int32)) / (3 : Int32)) * (3 : Int32))), .val (.int (1 : Int32)), .val (.ref sa_37), .val (.ref sa_49), .val (.ref ra_89), .val (.int ((((p2 &&& (3 : Int32)) - ((p2 &&& (3 : Int32)) / (3 : Int32)) * (3 : Int32)) + (1 : Int32)) + ((((p2.toUInt32 >>> ((2 : Int32) &&& 31).toUInt32).toInt32) &&& (3 : Int32)) - ((((p2.toUInt32 >>> ((2 : Int32) &&& 31).toUInt32).toInt32) &&& (3 : Int32)) / (3 : Int32)) * (3 : Int32))))] [(.int (0 : Int32)), (.ref ra_89)]) G
    refine Gl.via (fun _ k => XS.iload X117.here hx rfl (hb hby at_158) rfl k) ?_
    show Gl p.tables e below T117 (mkF m 160 #[.val (.int p0), .val (.int p1), .val (.int p2), .val (.int (p0 &&& (255 : Int32))), .val (.int ((p0.toUInt32 >>> ((8 : Int32) &&& 31).toUInt32).toInt32 &&& (255 : Int32))), .val (.int (p1 &&& (255 : Int32))), .val (.int ((p1.toUInt32 >>> ((8 : Int32) &&& 31).toUInt32).toInt32 &&& (255 : Int32))), .val (.int ((p2 &&& (3 : Int32)) - ((p2 &&& (3 : Int32)) / (3 : Int32)) * (3 : Int32))), .val (.int ((((p2.toUInt32 >>> ((2 : Int32) &&& 31).toUInt32).toInt32) &&& (3 : Int32)) - ((((p2.toUInt32 >>> ((2 : Int32) &&& 31).toUInt32).toInt32) &&& (3 : Int32)) / (3 : Int32)) * (3 : Int32))), .val (.int (1 : Int32)), .val (.ref sa_37), .val (.ref sa_49), .val (.ref ra_89), .val (.int ((((p2 &&& (3 : Int32)) - ((p2 &&& (3 : Int32)) / (3 : Int32)) * (3 : Int32)) + (1 : Int32)) + ((((p2.toUInt32 >>> ((2 : Int32) &&& 31).toUInt32).toInt32) &&& (3 : Int32)) - ((((p2.toUInt32 >>> ((2 : Int32) &&& 31).toUInt32).toInt32) &&& (3 : Int32)) / (3 : Int32)) * (3 : Int32))))] [(.int ((p2 &&& (3 : Int32)) - ((p2 &&& (3 : Int32)) / (3 : Int32)) * (3 : Int32))), (.int (0 : Int32)), (.ref ra_89)]) G
    refine Gl.via (fun _ k => XS.iloadN X117.here hx rfl (hb hby at_160) rfl k) ?_
    show Gl p.tables e below T117 (mkF m 161 #[.val (.int p0), .val (.int p1), .val (.int p2), .val (.int (p0 &&& (255 : Int32))), .val (.int ((p0.toUInt32 >>> ((8 : Int32) &&& 31).toUInt32).toInt32 &&& (255 : Int32))), .val (.int (p1 &&& (255 : Int32))), .val (.int ((p1.toUInt32 >>> ((8 : Int32) &&& 31).toUInt32).toInt32 &&& (255 : Int32))), .val (.int ((p2 &&& (3 : Int32)) - ((p2 &&& (3 : Int32)) / (3 : Int32)) * (3 : Int32))), .val (.int ((((p2.toUInt32 >>> ((2 : Int32) &&& 31).toUInt32).toInt32) &&& (3 : Int32)) - ((((p2.toUInt32 >>> ((2 : Int32) &&& 31).toUInt32).toInt32) &&& (3 : Int32)) / (3 : Int32)) * (3 : Int32))), .val (.int (1 : Int32)), .val (.ref sa_37), .val (.ref sa_49), .val (.ref ra_89), .val (.int ((((p2 &&& (3 : Int32)) - ((p2 &&& (3 : Int32)) / (3 : Int32)) * (3 : Int32)) + (1 : Int32)) + ((((p2.toUInt32 >>> ((2 : Int32) &&& 31).toUInt32).toInt32) &&& (3 : Int32)) - ((((p2.toUInt32 >>> ((2 : Int32) &&& 31).toUInt32).toInt32) &&& (3 : Int32)) / (3 : Int32)) * (3 : Int32))))] [(.int (p0 &&& (255 : Int32))), (.int ((p2 &&& (3 : Int32)) - ((p2 &&& (3 : Int32)) / (3 : Int32)) * (3 : Int32))), (.int (0 : Int32)), (.ref ra_89)]) G
    refine Gl.via (fun _ k => XS.iload X117.here hx rfl (hb hby at_161) rfl k) ?_
    show Gl p.tables e below T117 (mkF m 163 #[.val (.int p0), .val (.int p1), .val (.int p2), .val (.int (p0 &&& (255 : Int32))), .val (.int ((p0.toUInt32 >>> ((8 : Int32) &&& 31).toUInt32).toInt32 &&& (255 : Int32))), .val (.int (p1 &&& (255 : Int32))), .val (.int ((p1.toUInt32 >>> ((8 : Int32) &&& 31).toUInt32).toInt32 &&& (255 : Int32))), .val (.int ((p2 &&& (3 : Int32)) - ((p2 &&& (3 : Int32)) / (3 : Int32)) * (3 : Int32))), .val (.int ((((p2.toUInt32 >>> ((2 : Int32) &&& 31).toUInt32).toInt32) &&& (3 : Int32)) - ((((p2.toUInt32 >>> ((2 : Int32) &&& 31).toUInt32).toInt32) &&& (3 : Int32)) / (3 : Int32)) * (3 : Int32))), .val (.int (1 : Int32)), .val (.ref sa_37), .val (.ref sa_49), .val (.ref ra_89), .val (.int ((((p2 &&& (3 : Int32)) - ((p2 &&& (3 : Int32)) / (3 : Int32)) * (3 : Int32)) + (1 : Int32)) + ((((p2.toUInt32 >>> ((2 : Int32) &&& 31).toUInt32).toInt32) &&& (3 : Int32)) - ((((p2.toUInt32 >>> ((2 : Int32) &&& 31).toUInt32).toInt32) &&& (3 : Int32)) / (3 : Int32)) * (3 : Int32))))] [(.int ((p0.toUInt32 >>> ((8 : Int32) &&& 31).toUInt32).toInt32 &&& (255 : Int32))), (.int (p0 &&& (255 : Int32))), (.int ((p2 &&& (3 : Int32)) - ((p2 &&& (3 : Int32)) / (3 : Int32)) * (3 : Int32))), (.int (0 : Int32)), (.ref ra_89)]) G
    refine Gl.via (fun _ k => XS.iload X117.here hx rfl (hb hby at_163) rfl k) ?_
    show Gl p.tables e below T117 (mkF m 165 #[.val (.int p0), .val (.int p1), .val (.int p2), .val (.int (p0 &&& (255 : Int32))), .val (.int ((p0.toUInt32 >>> ((8 : Int32) &&& 31).toUInt32).toInt32 &&& (255 : Int32))), .val (.int (p1 &&& (255 : Int32))), .val (.int ((p1.toUInt32 >>> ((8 : Int32) &&& 31).toUInt32).toInt32 &&& (255 : Int32))), .val (.int ((p2 &&& (3 : Int32)) - ((p2 &&& (3 : Int32)) / (3 : Int32)) * (3 : Int32))), .val (.int ((((p2.toUInt32 >>> ((2 : Int32) &&& 31).toUInt32).toInt32) &&& (3 : Int32)) - ((((p2.toUInt32 >>> ((2 : Int32) &&& 31).toUInt32).toInt32) &&& (3 : Int32)) / (3 : Int32)) * (3 : Int32))), .val (.int (1 : Int32)), .val (.ref sa_37), .val (.ref sa_49), .val (.ref ra_89), .val (.int ((((p2 &&& (3 : Int32)) - ((p2 &&& (3 : Int32)) / (3 : Int32)) * (3 : Int32)) + (1 : Int32)) + ((((p2.toUInt32 >>> ((2 : Int32) &&& 31).toUInt32).toInt32) &&& (3 : Int32)) - ((((p2.toUInt32 >>> ((2 : Int32) &&& 31).toUInt32).toInt32) &&& (3 : Int32)) / (3 : Int32)) * (3 : Int32))))] [(.int (p1 &&& (255 : Int32))), (.int ((p0.toUInt32 >>> ((8 : Int32) &&& 31).toUInt32).toInt32 &&& (255 : Int32))), (.int (p0 &&& (255 : Int32))), (.int ((p2 &&& (3 : Int32)) - ((p2 &&& (3 : Int32)) / (3 : Int32)) * (3 : Int32))), (.int (0 : Int32)), (.ref ra_89)]) G
    refine Gl.via (fun _ k => XS.iload X117.here hx rfl (hb hby at_165) rfl k) ?_
    show Gl p.tables e below T117 (mkF m 167 #[.val (.int p0), .val (.int p1), .val (.int p2), .val (.int (p0 &&& (255 : Int32))), .val (.int ((p0.toUInt32 >>> ((8 : Int32) &&& 31).toUInt32).toInt32 &&& (255 : Int32))), .val (.int (p1 &&& (255 : Int32))), .val (.int ((p1.toUInt32 >>> ((8 : Int32) &&& 31).toUInt32).toInt32 &&& (255 : Int32))), .val (.int ((p2 &&& (3 : Int32)) - ((p2 &&& (3 : Int32)) / (3 : Int32)) * (3 : Int32))), .val (.int ((((p2.toUInt32 >>> ((2 : Int32) &&& 31).toUInt32).toInt32) &&& (3 : Int32)) - ((((p2.toUInt32 >>> ((2 : Int32) &&& 31).toUInt32).toInt32) &&& (3 : Int32)) / (3 : Int32)) * (3 : Int32))), .val (.int (1 : Int32)), .val (.ref sa_37), .val (.ref sa_49), .val (.ref ra_89), .val (.int ((((p2 &&& (3 : Int32)) - ((p2 &&& (3 : Int32)) / (3 : Int32)) * (3 : Int32)) + (1 : Int32)) + ((((p2.toUInt32 >>> ((2 : Int32) &&& 31).toUInt32).toInt32) &&& (3 : Int32)) - ((((p2.toUInt32 >>> ((2 : Int32) &&& 31).toUInt32).toInt32) &&& (3 : Int32)) / (3 : Int32)) * (3 : Int32))))] [(.int ((p1.toUInt32 >>> ((8 : Int32) &&& 31).toUInt32).toInt32 &&& (255 : Int32))), (.int (p1 &&& (255 : Int32))), (.int ((p0.toUInt32 >>> ((8 : Int32) &&& 31).toUInt32).toInt32 &&& (255 : Int32))), (.int (p0 &&& (255 : Int32))), (.int ((p2 &&& (3 : Int32)) - ((p2 &&& (3 : Int32)) / (3 : Int32)) * (3 : Int32))), (.int (0 : Int32)), (.ref ra_89)]) G
    obtain ⟨_, _, ⟨T119, L119, k119, n119⟩, -, X119, ⟨Lc119, hQ119, l119, y119, z119⟩, st119⟩ := Jvm.LawKit.callS X117 hx (y := (⟨"com/example/profile_to_target/profiletotarget/SfrIdToStringPinLaw", "at", "(Ljava/lang/String;IICCCC)Z"⟩ : MethodName)) hown89 (mvT hZ89 (hw _ (List.mem_of_getElem? (i := 189) rfl))) (mvT hZ89 (hw _ (List.mem_of_getElem? (i := 190) rfl))) (mvT hZ89 (hw _ (List.mem_of_getElem? (i := 2) rfl))) (mvT hZ89 (hw _ (List.mem_of_getElem? (i := 191) rfl))) (by decide) (backOf (W := 0) (at_ l Z a0 hw [] ra_89 rb_89 rk_89 (own_scat (47 : Int32) ((p2 &&& (3 : Int32)) - ((p2 &&& (3 : Int32)) / (3 : Int32)) * (3 : Int32)) (p0 &&& (255 : Int32)) ((p0.toUInt32 >>> ((8 : Int32) &&& 31).toUInt32).toInt32 &&& (255 : Int32)) (0 : Int32) (((p2.toUInt32 >>> ((2 : Int32) &&& 31).toUInt32).toInt32 &&& (3 : Int32)) - (((p2.toUInt32 >>> ((2 : Int32) &&& 31).toUInt32).toInt32 &&& (3 : Int32)) / (3 : Int32)) * (3 : Int32)) (p1 &&& (255 : Int32)) ((p1.toUInt32 >>> ((8 : Int32) &&& 31).toUInt32).toInt32 &&& (255 : Int32)) (0 : Int32)) (0 : Int32) ((p2 &&& (3 : Int32)) - ((p2 &&& (3 : Int32)) / (3 : Int32)) * (3 : Int32)) (p0 &&& (255 : Int32)) ((p0.toUInt32 >>> ((8 : Int32) &&& 31).toUInt32).toInt32 &&& (255 : Int32)) (p1 &&& (255 : Int32)) ((p1.toUInt32 >>> ((8 : Int32) &&& 31).toUInt32).toInt32 &&& (255 : Int32)) fm cps T89.heap n0 Z113 P99 P100 P101 V116 F0_java_lang_String F1_jdk_internal_util_Preconditions G118 hcps hfm (own_pos (own_r3 _) (own_r3 _) (by decide) (own_msk _ (own_mb _).1 (own_mb _).2) (own_msk _ (own_mb _).1 (own_mb _).2) (own_msk _ (own_mb _).1 (own_mb _).2) (own_msk _ (own_mb _).1 (own_mb _).2))) hZ89 (hw _ (List.mem_of_getElem? (i := 191) rfl)) (hw _ (List.mem_of_getElem? (i := 2) rfl)) (by decide) (by decide)) (g := (mkF m 167 #[.val (.int p0), .val (.int p1), .val (.int p2), .val (.int (p0 &&& (255 : Int32))), .val (.int ((p0.toUInt32 >>> ((8 : Int32) &&& 31).toUInt32).toInt32 &&& (255 : Int32))), .val (.int (p1 &&& (255 : Int32))), .val (.int ((p1.toUInt32 >>> ((8 : Int32) &&& 31).toUInt32).toInt32 &&& (255 : Int32))), .val (.int ((p2 &&& (3 : Int32)) - ((p2 &&& (3 : Int32)) / (3 : Int32)) * (3 : Int32))), .val (.int ((((p2.toUInt32 >>> ((2 : Int32) &&& 31).toUInt32).toInt32) &&& (3 : Int32)) - ((((p2.toUInt32 >>> ((2 : Int32) &&& 31).toUInt32).toInt32) &&& (3 : Int32)) / (3 : Int32)) * (3 : Int32))), .val (.int (1 : Int32)), .val (.ref sa_37), .val (.ref sa_49), .val (.ref ra_89), .val (.int ((((p2 &&& (3 : Int32)) - ((p2 &&& (3 : Int32)) / (3 : Int32)) * (3 : Int32)) + (1 : Int32)) + ((((p2.toUInt32 >>> ((2 : Int32) &&& 31).toUInt32).toInt32) &&& (3 : Int32)) - ((((p2.toUInt32 >>> ((2 : Int32) &&& 31).toUInt32).toInt32) &&& (3 : Int32)) / (3 : Int32)) * (3 : Int32))))] [(.int ((p1.toUInt32 >>> ((8 : Int32) &&& 31).toUInt32).toInt32 &&& (255 : Int32))), (.int (p1 &&& (255 : Int32))), (.int ((p0.toUInt32 >>> ((8 : Int32) &&& 31).toUInt32).toInt32 &&& (255 : Int32))), (.int (p0 &&& (255 : Int32))), (.int ((p2 &&& (3 : Int32)) - ((p2 &&& (3 : Int32)) / (3 : Int32)) * (3 : Int32))), (.int (0 : Int32)), (.ref ra_89)])) rfl (by rw [hml]; rfl) (argsL := [(.ref ra_89), (.int (0 : Int32)), (.int ((p2 &&& (3 : Int32)) - ((p2 &&& (3 : Int32)) / (3 : Int32)) * (3 : Int32))), (.int (p0 &&& (255 : Int32))), (.int ((p0.toUInt32 >>> ((8 : Int32) &&& 31).toUInt32).toInt32 &&& (255 : Int32))), (.int (p1 &&& (255 : Int32))), (.int ((p1.toUInt32 >>> ((8 : Int32) &&& 31).toUInt32).toInt32 &&& (255 : Int32)))]) (rest := []) (lenOf pd_32 rfl) rfl (by show 2 * 0 + _ ≤ _; exact Nat.le_of_eq rfl) (hb hby at_167) (fun _ _ => ⟨rfl, eh117, (by decide : 19 + 0 ≤ _), (by decide : 74 + 0 ≤ _)⟩)
    dsimp only [Pt.U, Pt.locs, Pt.cells, Pt.slots] at X119 l119 y119 z119 st119 hQ119
    subst l119 y119 z119
    obtain ⟨rfl, N119q, eh119⟩ := hQ119
    have N119_ := Fr.app N117_ N119q
    refine Gl.via (fun _ k => st119 _ k) ?_
    show Gl p.tables e below T119 (mkF m 170 #[.val (.int p0), .val (.int p1), .val (.int p2), .val (.int (p0 &&& (255 : Int32))), .val (.int ((p0.toUInt32 >>> ((8 : Int32) &&& 31).toUInt32).toInt32 &&& (255 : Int32))), .val (.int (p1 &&& (255 : Int32))), .val (.int ((p1.toUInt32 >>> ((8 : Int32) &&& 31).toUInt32).toInt32 &&& (255 : Int32))), .val (.int ((p2 &&& (3 : Int32)) - ((p2 &&& (3 : Int32)) / (3 : Int32)) * (3 : Int32))), .val (.int ((((p2.toUInt32 >>> ((2 : Int32) &&& 31).toUInt32).toInt32) &&& (3 : Int32)) - ((((p2.toUInt32 >>> ((2 : Int32) &&& 31).toUInt32).toInt32) &&& (3 : Int32)) / (3 : Int32)) * (3 : Int32))), .val (.int (1 : Int32)), .val (.ref sa_37), .val (.ref sa_49), .val (.ref ra_89), .val (.int ((((p2 &&& (3 : Int32)) - ((p2 &&& (3 : Int32)) / (3 : Int32)) * (3 : Int32)) + (1 : Int32)) + ((((p2.toUInt32 >>> ((2 : Int32) &&& 31).toUInt32).toInt32) &&& (3 : Int32)) - ((((p2.toUInt32 >>> ((2 : Int32) &&& 31).toUInt32).toInt32) &&& (3 : Int32)) / (3 : Int32)) * (3 : Int32))))] [(.int (1 : Int32))]) G
    refine Gl.via (fun _ k => XS.ifNo X119.here hx rfl (hb hby at_170) rfl ((if0 _ _).trans (feq (by decide)).1) k) ?_
    show Gl p.tables e below T119 (mkF m 173 #[.val (.int p0), .val (.int p1), .val (.int p2), .val (.int (p0 &&& (255 : Int32))), .val (.int ((p0.toUInt32 >>> ((8 : Int32) &&& 31).toUInt32).toInt32 &&& (255 : Int32))), .val (.int (p1 &&& (255 : Int32))), .val (.int ((p1.toUInt32 >>> ((8 : Int32) &&& 31).toUInt32).toInt32 &&& (255 : Int32))), .val (.int ((p2 &&& (3 : Int32)) - ((p2 &&& (3 : Int32)) / (3 : Int32)) * (3 : Int32))), .val (.int ((((p2.toUInt32 >>> ((2 : Int32) &&& 31).toUInt32).toInt32) &&& (3 : Int32)) - ((((p2.toUInt32 >>> ((2 : Int32) &&& 31).toUInt32).toInt32) &&& (3 : Int32)) / (3 : Int32)) * (3 : Int32))), .val (.int (1 : Int32)), .val (.ref sa_37), .val (.ref sa_49), .val (.ref ra_89), .val (.int ((((p2 &&& (3 : Int32)) - ((p2 &&& (3 : Int32)) / (3 : Int32)) * (3 : Int32)) + (1 : Int32)) + ((((p2.toUInt32 >>> ((2 : Int32) &&& 31).toUInt32).toInt32) &&& (3 : Int32)) - ((((p2.toUInt32 >>> ((2 : Int32) &&& 31).toUInt32).toInt32) &&& (3 : Int32)) / (3 : Int32)) * (3 : Int32))))] []) G
    refine Gl.via (fun _ k => XS.aload X119.here hx rfl (hb hby at_173) rfl rfl k) ?_
    show Gl p.tables e below T119 (mkF m 175 #[.val (.int p0), .val (.int p1), .val (.int p2), .val (.int (p0 &&& (255 : Int32))), .val (.int ((p0.toUInt32 >>> ((8 : Int32) &&& 31).toUInt32).toInt32 &&& (255 : Int32))), .val (.int (p1 &&& (255 : Int32))), .val (.int ((p1.toUInt32 >>> ((8 : Int32) &&& 31).toUInt32).toInt32 &&& (255 : Int32))), .val (.int ((p2 &&& (3 : Int32)) - ((p2 &&& (3 : Int32)) / (3 : Int32)) * (3 : Int32))), .val (.int ((((p2.toUInt32 >>> ((2 : Int32) &&& 31).toUInt32).toInt32) &&& (3 : Int32)) - ((((p2.toUInt32 >>> ((2 : Int32) &&& 31).toUInt32).toInt32) &&& (3 : Int32)) / (3 : Int32)) * (3 : Int32))), .val (.int (1 : Int32)), .val (.ref sa_37), .val (.ref sa_49), .val (.ref ra_89), .val (.int ((((p2 &&& (3 : Int32)) - ((p2 &&& (3 : Int32)) / (3 : Int32)) * (3 : Int32)) + (1 : Int32)) + ((((p2.toUInt32 >>> ((2 : Int32) &&& 31).toUInt32).toInt32) &&& (3 : Int32)) - ((((p2.toUInt32 >>> ((2 : Int32) &&& 31).toUInt32).toInt32) &&& (3 : Int32)) / (3 : Int32)) * (3 : Int32))))] [(.ref ra_89)]) G
    refine Gl.via (fun _ k => XS.iconst X119.here hx rfl (hb hby at_175) k) ?_
    show Gl p.tables e below T119 (mkF m 176 #[.val (.int p0), .val (.int p1), .val (.int p2), .val (.int (p0 &&& (255 : Int32))), .val (.int ((p0.toUInt32 >>> ((8 : Int32) &&& 31).toUInt32).toInt32 &&& (255 : Int32))), .val (.int (p1 &&& (255 : Int32))), .val (.int ((p1.toUInt32 >>> ((8 : Int32) &&& 31).toUInt32).toInt32 &&& (255 : Int32))), .val (.int ((p2 &&& (3 : Int32)) - ((p2 &&& (3 : Int32)) / (3 : Int32)) * (3 : Int32))), .val (.int ((((p2.toUInt32 >>> ((2 : Int32) &&& 31).toUInt32).toInt32) &&& (3 : Int32)) - ((((p2.toUInt32 >>> ((2 : Int32) &&& 31).toUInt32).toInt32) &&& (3 : Int32)) / (3 : Int32)) * (3 : Int32))), .val (.int (1 : Int32)), .val (.ref sa_37), .val (.ref sa_49), .val (.ref ra_89), .val (.int ((((p2 &&& (3 : Int32)) - ((p2 &&& (3 : Int32)) / (3 : Int32)) * (3 : Int32)) + (1 : Int32)) + ((((p2.toUInt32 >>> ((2 : Int32) &&& 31).toUInt32).toInt32) &&& (3 : Int32)) - ((((p2.toUInt32 >>> ((2 : Int32) &&& 31).toUInt32).toInt32) &&& (3 : Int32)) / (3 : Int32)) * (3 : Int32))))] [(.int (1 : Int32)), (.ref ra_89)]) G
    refine Gl.via (fun _ k => XS.iload X119.here hx rfl (hb hby at_176) rfl k) ?_
    show Gl p.tables e below T119 (mkF m 178 #[.val (.int p0), .val (.int p1), .val (.int p2), .val (.int (p0 &&& (255 : Int32))), .val (.int ((p0.toUInt32 >>> ((8 : Int32) &&& 31).toUInt32).toInt32 &&& (255 : Int32))), .val (.int (p1 &&& (255 : Int32))), .val (.int ((p1.toUInt32 >>> ((8 : Int32) &&& 31).toUInt32).toInt32 &&& (255 : Int32))), .val (.int ((p2 &&& (3 : Int32)) - ((p2 &&& (3 : Int32)) / (3 : Int32)) * (3 : Int32))), .val (.int ((((p2.toUInt32 >>> ((2 : Int32) &&& 31).toUInt32).toInt32) &&& (3 : Int32)) - ((((p2.toUInt32 >>> ((2 : Int32) &&& 31).toUInt32).toInt32) &&& (3 : Int32)) / (3 : Int32)) * (3 : Int32))), .val (.int (1 : Int32)), .val (.ref sa_37), .val (.ref sa_49), .val (.ref ra_89), .val (.int ((((p2 &&& (3 : Int32)) - ((p2 &&& (3 : Int32)) / (3 : Int32)) * (3 : Int32)) + (1 : Int32)) + ((((p2.toUInt32 >>> ((2 : Int32) &&& 31).toUInt32).toInt32) &&& (3 : Int32)) - ((((p2.toUInt32 >>> ((2 : Int32) &&& 31).toUInt32).toInt32) &&& (3 : Int32)) / (3 : Int32)) * (3 : Int32))))] [(.int ((p2 &&& (3 : Int32)) - ((p2 &&& (3 : Int32)) / (3 : Int32)) * (3 : Int32))), (.int (1 : Int32)), (.ref ra_89)]) G
    refine Gl.via (fun _ k => XS.iloadN X119.here hx rfl (hb hby at_178) rfl k) ?_
    show Gl p.tables e below T119 (mkF m 179 #[.val (.int p0), .val (.int p1), .val (.int p2), .val (.int (p0 &&& (255 : Int32))), .val (.int ((p0.toUInt32 >>> ((8 : Int32) &&& 31).toUInt32).toInt32 &&& (255 : Int32))), .val (.int (p1 &&& (255 : Int32))), .val (.int ((p1.toUInt32 >>> ((8 : Int32) &&& 31).toUInt32).toInt32 &&& (255 : Int32))), .val (.int ((p2 &&& (3 : Int32)) - ((p2 &&& (3 : Int32)) / (3 : Int32)) * (3 : Int32))), .val (.int ((((p2.toUInt32 >>> ((2 : Int32) &&& 31).toUInt32).toInt32) &&& (3 : Int32)) - ((((p2.toUInt32 >>> ((2 : Int32) &&& 31).toUInt32).toInt32) &&& (3 : Int32)) / (3 : Int32)) * (3 : Int32))), .val (.int (1 : Int32)), .val (.ref sa_37), .val (.ref sa_49), .val (.ref ra_89), .val (.int ((((p2 &&& (3 : Int32)) - ((p2 &&& (3 : Int32)) / (3 : Int32)) * (3 : Int32)) + (1 : Int32)) + ((((p2.toUInt32 >>> ((2 : Int32) &&& 31).toUInt32).toInt32) &&& (3 : Int32)) - ((((p2.toUInt32 >>> ((2 : Int32) &&& 31).toUInt32).toInt32) &&& (3 : Int32)) / (3 : Int32)) * (3 : Int32))))] [(.int (p0 &&& (255 : Int32))), (.int ((p2 &&& (3 : Int32)) - ((p2 &&& (3 : Int32)) / (3 : Int32)) * (3 : Int32))), (.int (1 : Int32)), (.ref ra_89)]) G
    refine Gl.via (fun _ k => XS.iload X119.here hx rfl (hb hby at_179) rfl k) ?_
    show Gl p.tables e below T119 (mkF m 181 #[.val (.int p0), .val (.int p1), .val (.int p2), .val (.int (p0 &&& (255 : Int32))), .val (.int ((p0.toUInt32 >>> ((8 : Int32) &&& 31).toUInt32).toInt32 &&& (255 : Int32))), .val (.int (p1 &&& (255 : Int32))), .val (.int ((p1.toUInt32 >>> ((8 : Int32) &&& 31).toUInt32).toInt32 &&& (255 : Int32))), .val (.int ((p2 &&& (3 : Int32)) - ((p2 &&& (3 : Int32)) / (3 : Int32)) * (3 : Int32))), .val (.int ((((p2.toUInt32 >>> ((2 : Int32) &&& 31).toUInt32).toInt32) &&& (3 : Int32)) - ((((p2.toUInt32 >>> ((2 : Int32) &&& 31).toUInt32).toInt32) &&& (3 : Int32)) / (3 : Int32)) * (3 : Int32))), .val (.int (1 : Int32)), .val (.ref sa_37), .val (.ref sa_49), .val (.ref ra_89), .val (.int ((((p2 &&& (3 : Int32)) - ((p2 &&& (3 : Int32)) / (3 : Int32)) * (3 : Int32)) + (1 : Int32)) + ((((p2.toUInt32 >>> ((2 : Int32) &&& 31).toUInt32).toInt32) &&& (3 : Int32)) - ((((p2.toUInt32 >>> ((2 : Int32) &&& 31).toUInt32).toInt32) &&& (3 : Int32)) / (3 : Int32)) * (3 : Int32))))] [(.int ((p0.toUInt32 >>> ((8 : Int32) &&& 31).toUInt32).toInt32 &&& (255 : Int32))), (.int (p0 &&& (255 : Int32))), (.int ((p2 &&& (3 : Int32)) - ((p2 &&& (3 : Int32)) / (3 : Int32)) * (3 : Int32))), (.int (1 : Int32)), (.ref ra_89)]) G
    refine Gl.via (fun _ k => XS.iload X119.here hx rfl (hb hby at_181) rfl k) ?_
    show Gl p.tables e below T119 (mkF m 183 #[.val (.int p0), .val (.int p1), .val (.int p2), .val (.int (p0 &&& (255 : Int32))), .val (.int ((p0.toUInt32 >>> ((8 : Int32) &&& 31).toUInt32).toInt32 &&& (255 : Int32))), .val (.int (p1 &&& (255 : Int32))), .val (.int ((p1.toUInt32 >>> ((8 : Int32) &&& 31).toUInt32).toInt32 &&& (255 : Int32))), .val (.int ((p2 &&& (3 : Int32)) - ((p2 &&& (3 : Int32)) / (3 : Int32)) * (3 : Int32))), .val (.int ((((p2.toUInt32 >>> ((2 : Int32) &&& 31).toUInt32).toInt32) &&& (3 : Int32)) - ((((p2.toUInt32 >>> ((2 : Int32) &&& 31).toUInt32).toInt32) &&& (3 : Int32)) / (3 : Int32)) * (3 : Int32))), .val (.int (1 : Int32)), .val (.ref sa_37), .val (.ref sa_49), .val (.ref ra_89), .val (.int ((((p2 &&& (3 : Int32)) - ((p2 &&& (3 : Int32)) / (3 : Int32)) * (3 : Int32)) + (1 : Int32)) + ((((p2.toUInt32 >>> ((2 : Int32) &&& 31).toUInt32).toInt32) &&& (3 : Int32)) - ((((p2.toUInt32 >>> ((2 : Int32) &&& 31).toUInt32).toInt32) &&& (3 : Int32)) / (3 : Int32)) * (3 : Int32))))] [(.int (p1 &&& (255 : Int32))), (.int ((p0.toUInt32 >>> ((8 : Int32) &&& 31).toUInt32).toInt32 &&& (255 : Int32))), (.int (p0 &&& (255 : Int32))), (.int ((p2 &&& (3 : Int32)) - ((p2 &&& (3 : Int32)) / (3 : Int32)) * (3 : Int32))), (.int (1 : Int32)), (.ref ra_89)]) G
    refine Gl.via (fun _ k => XS.iload X119.here hx rfl (hb hby at_183) rfl k) ?_
    show Gl p.tables e below T119 (mkF m 185 #[.val (.int p0), .val (.int p1), .val (.int p2), .val (.int (p0 &&& (255 : Int32))), .val (.int ((p0.toUInt32 >>> ((8 : Int32) &&& 31).toUInt32).toInt32 &&& (255 : Int32))), .val (.int (p1 &&& (255 : Int32))), .val (.int ((p1.toUInt32 >>> ((8 : Int32) &&& 31).toUInt32).toInt32 &&& (255 : Int32))), .val (.int ((p2 &&& (3 : Int32)) - ((p2 &&& (3 : Int32)) / (3 : Int32)) * (3 : Int32))), .val (.int ((((p2.toUInt32 >>> ((2 : Int32) &&& 31).toUInt32).toInt32) &&& (3 : Int32)) - ((((p2.toUInt32 >>> ((2 : Int32) &&& 31).toUInt32).toInt32) &&& (3 : Int32)) / (3 : Int32)) * (3 : Int32))), .val (.int (1 : Int32)), .val (.ref sa_37), .val (.ref sa_49), .val (.ref ra_89), .val (.int ((((p2 &&& (3 : Int32)) - ((p2 &&& (3 : Int32)) / (3 : Int32)) * (3 : Int32)) + (1 : Int32)) + ((((p2.toUInt32 >>> ((2 : Int32) &&& 31).toUInt32).toInt32) &&& (3 : Int32)) - ((((p2.toUInt32 >>> ((2 : Int32) &&& 31).toUInt32).toInt32) &&& (3 : Int32)) / (3 : Int32)) * (3 : Int32))))] [(.int ((p1.toUInt32 >>> ((8 : Int32) &&& 31).toUInt32).toInt32 &&& (255 : Int32))), (.int (p1 &&& (255 : Int32))), (.int ((p0.toUInt32 >>> ((8 : Int32) &&& 31).toUInt32).toInt32 &&& (255 : Int32))), (.int (p0 &&& (255 : Int32))), (.int ((p2 &&& (3 : Int32)) - ((p2 &&& (3 : Int32)) / (3 : Int32)) * (3 : Int32))), (.int (1 : Int32)), (.ref ra_89)]) G
    obtain ⟨_, _, ⟨T120, L120, k120, n120⟩, -, X120, ⟨Lc120, hQ120, l120, y120, z120⟩, st120⟩ := Jvm.LawKit.callS X119 hx (y := (⟨"com/example/profile_to_target/profiletotarget/SfrIdToStringPinLaw", "at", "(Ljava/lang/String;IICCCC)Z"⟩ : MethodName)) hown89 (mvT hZ89 (hw _ (List.mem_of_getElem? (i := 189) rfl))) (mvT hZ89 (hw _ (List.mem_of_getElem? (i := 190) rfl))) (mvT hZ89 (hw _ (List.mem_of_getElem? (i := 2) rfl))) (mvT hZ89 (hw _ (List.mem_of_getElem? (i := 191) rfl))) (by decide) (backOf (W := 0) (at_ l Z a0 hw [] ra_89 rb_89 rk_89 (own_scat (47 : Int32) ((p2 &&& (3 : Int32)) - ((p2 &&& (3 : Int32)) / (3 : Int32)) * (3 : Int32)) (p0 &&& (255 : Int32)) ((p0.toUInt32 >>> ((8 : Int32) &&& 31).toUInt32).toInt32 &&& (255 : Int32)) (0 : Int32) (((p2.toUInt32 >>> ((2 : Int32) &&& 31).toUInt32).toInt32 &&& (3 : Int32)) - (((p2.toUInt32 >>> ((2 : Int32) &&& 31).toUInt32).toInt32 &&& (3 : Int32)) / (3 : Int32)) * (3 : Int32)) (p1 &&& (255 : Int32)) ((p1.toUInt32 >>> ((8 : Int32) &&& 31).toUInt32).toInt32 &&& (255 : Int32)) (0 : Int32)) (1 : Int32) ((p2 &&& (3 : Int32)) - ((p2 &&& (3 : Int32)) / (3 : Int32)) * (3 : Int32)) (p0 &&& (255 : Int32)) ((p0.toUInt32 >>> ((8 : Int32) &&& 31).toUInt32).toInt32 &&& (255 : Int32)) (p1 &&& (255 : Int32)) ((p1.toUInt32 >>> ((8 : Int32) &&& 31).toUInt32).toInt32 &&& (255 : Int32)) fm cps T89.heap n0 Z113 P99 P100 P101 V116 F0_java_lang_String F1_jdk_internal_util_Preconditions G118 hcps hfm (own_pos (own_r3 _) (own_r3 _) (by decide) (own_msk _ (own_mb _).1 (own_mb _).2) (own_msk _ (own_mb _).1 (own_mb _).2) (own_msk _ (own_mb _).1 (own_mb _).2) (own_msk _ (own_mb _).1 (own_mb _).2))) hZ89 (hw _ (List.mem_of_getElem? (i := 191) rfl)) (hw _ (List.mem_of_getElem? (i := 2) rfl)) (by decide) (by decide)) (g := (mkF m 185 #[.val (.int p0), .val (.int p1), .val (.int p2), .val (.int (p0 &&& (255 : Int32))), .val (.int ((p0.toUInt32 >>> ((8 : Int32) &&& 31).toUInt32).toInt32 &&& (255 : Int32))), .val (.int (p1 &&& (255 : Int32))), .val (.int ((p1.toUInt32 >>> ((8 : Int32) &&& 31).toUInt32).toInt32 &&& (255 : Int32))), .val (.int ((p2 &&& (3 : Int32)) - ((p2 &&& (3 : Int32)) / (3 : Int32)) * (3 : Int32))), .val (.int ((((p2.toUInt32 >>> ((2 : Int32) &&& 31).toUInt32).toInt32) &&& (3 : Int32)) - ((((p2.toUInt32 >>> ((2 : Int32) &&& 31).toUInt32).toInt32) &&& (3 : Int32)) / (3 : Int32)) * (3 : Int32))), .val (.int (1 : Int32)), .val (.ref sa_37), .val (.ref sa_49), .val (.ref ra_89), .val (.int ((((p2 &&& (3 : Int32)) - ((p2 &&& (3 : Int32)) / (3 : Int32)) * (3 : Int32)) + (1 : Int32)) + ((((p2.toUInt32 >>> ((2 : Int32) &&& 31).toUInt32).toInt32) &&& (3 : Int32)) - ((((p2.toUInt32 >>> ((2 : Int32) &&& 31).toUInt32).toInt32) &&& (3 : Int32)) / (3 : Int32)) * (3 : Int32))))] [(.int ((p1.toUInt32 >>> ((8 : Int32) &&& 31).toUInt32).toInt32 &&& (255 : Int32))), (.int (p1 &&& (255 : Int32))), (.int ((p0.toUInt32 >>> ((8 : Int32) &&& 31).toUInt32).toInt32 &&& (255 : Int32))), (.int (p0 &&& (255 : Int32))), (.int ((p2 &&& (3 : Int32)) - ((p2 &&& (3 : Int32)) / (3 : Int32)) * (3 : Int32))), (.int (1 : Int32)), (.ref ra_89)])) rfl (by rw [hml]; rfl) (argsL := [(.ref ra_89), (.int (1 : Int32)), (.int ((p2 &&& (3 : Int32)) - ((p2 &&& (3 : Int32)) / (3 : Int32)) * (3 : Int32))), (.int (p0 &&& (255 : Int32))), (.int ((p0.toUInt32 >>> ((8 : Int32) &&& 31).toUInt32).toInt32 &&& (255 : Int32))), (.int (p1 &&& (255 : Int32))), (.int ((p1.toUInt32 >>> ((8 : Int32) &&& 31).toUInt32).toInt32 &&& (255 : Int32)))]) (rest := []) (lenOf pd_32 rfl) rfl (by show 2 * 0 + _ ≤ _; exact Nat.le_of_eq rfl) (hb hby at_185) (fun _ _ => ⟨rfl, eh119, (by decide : 19 + 0 ≤ _), (by decide : 74 + 0 ≤ _)⟩)
    dsimp only [Pt.U, Pt.locs, Pt.cells, Pt.slots] at X120 l120 y120 z120 st120 hQ120
    subst l120 y120 z120
    obtain ⟨rfl, N120q, eh120⟩ := hQ120
    have N120_ := Fr.app N119_ N120q
    refine Gl.via (fun _ k => st120 _ k) ?_
    show Gl p.tables e below T120 (mkF m 188 #[.val (.int p0), .val (.int p1), .val (.int p2), .val (.int (p0 &&& (255 : Int32))), .val (.int ((p0.toUInt32 >>> ((8 : Int32) &&& 31).toUInt32).toInt32 &&& (255 : Int32))), .val (.int (p1 &&& (255 : Int32))), .val (.int ((p1.toUInt32 >>> ((8 : Int32) &&& 31).toUInt32).toInt32 &&& (255 : Int32))), .val (.int ((p2 &&& (3 : Int32)) - ((p2 &&& (3 : Int32)) / (3 : Int32)) * (3 : Int32))), .val (.int ((((p2.toUInt32 >>> ((2 : Int32) &&& 31).toUInt32).toInt32) &&& (3 : Int32)) - ((((p2.toUInt32 >>> ((2 : Int32) &&& 31).toUInt32).toInt32) &&& (3 : Int32)) / (3 : Int32)) * (3 : Int32))), .val (.int (1 : Int32)), .val (.ref sa_37), .val (.ref sa_49), .val (.ref ra_89), .val (.int ((((p2 &&& (3 : Int32)) - ((p2 &&& (3 : Int32)) / (3 : Int32)) * (3 : Int32)) + (1 : Int32)) + ((((p2.toUInt32 >>> ((2 : Int32) &&& 31).toUInt32).toInt32) &&& (3 : Int32)) - ((((p2.toUInt32 >>> ((2 : Int32) &&& 31).toUInt32).toInt32) &&& (3 : Int32)) / (3 : Int32)) * (3 : Int32))))] [(.int (1 : Int32))]) G
    refine Gl.via (fun _ k => XS.ifNo X120.here hx rfl (hb hby at_188) rfl ((if0 _ _).trans (feq (by decide)).1) k) ?_
    show Gl p.tables e below T120 (mkF m 191 #[.val (.int p0), .val (.int p1), .val (.int p2), .val (.int (p0 &&& (255 : Int32))), .val (.int ((p0.toUInt32 >>> ((8 : Int32) &&& 31).toUInt32).toInt32 &&& (255 : Int32))), .val (.int (p1 &&& (255 : Int32))), .val (.int ((p1.toUInt32 >>> ((8 : Int32) &&& 31).toUInt32).toInt32 &&& (255 : Int32))), .val (.int ((p2 &&& (3 : Int32)) - ((p2 &&& (3 : Int32)) / (3 : Int32)) * (3 : Int32))), .val (.int ((((p2.toUInt32 >>> ((2 : Int32) &&& 31).toUInt32).toInt32) &&& (3 : Int32)) - ((((p2.toUInt32 >>> ((2 : Int32) &&& 31).toUInt32).toInt32) &&& (3 : Int32)) / (3 : Int32)) * (3 : Int32))), .val (.int (1 : Int32)), .val (.ref sa_37), .val (.ref sa_49), .val (.ref ra_89), .val (.int ((((p2 &&& (3 : Int32)) - ((p2 &&& (3 : Int32)) / (3 : Int32)) * (3 : Int32)) + (1 : Int32)) + ((((p2.toUInt32 >>> ((2 : Int32) &&& 31).toUInt32).toInt32) &&& (3 : Int32)) - ((((p2.toUInt32 >>> ((2 : Int32) &&& 31).toUInt32).toInt32) &&& (3 : Int32)) / (3 : Int32)) * (3 : Int32))))] []) G
    refine Gl.via (fun _ k => XS.aload X120.here hx rfl (hb hby at_191) rfl rfl k) ?_
    show Gl p.tables e below T120 (mkF m 193 #[.val (.int p0), .val (.int p1), .val (.int p2), .val (.int (p0 &&& (255 : Int32))), .val (.int ((p0.toUInt32 >>> ((8 : Int32) &&& 31).toUInt32).toInt32 &&& (255 : Int32))), .val (.int (p1 &&& (255 : Int32))), .val (.int ((p1.toUInt32 >>> ((8 : Int32) &&& 31).toUInt32).toInt32 &&& (255 : Int32))), .val (.int ((p2 &&& (3 : Int32)) - ((p2 &&& (3 : Int32)) / (3 : Int32)) * (3 : Int32))), .val (.int ((((p2.toUInt32 >>> ((2 : Int32) &&& 31).toUInt32).toInt32) &&& (3 : Int32)) - ((((p2.toUInt32 >>> ((2 : Int32) &&& 31).toUInt32).toInt32) &&& (3 : Int32)) / (3 : Int32)) * (3 : Int32))), .val (.int (1 : Int32)), .val (.ref sa_37), .val (.ref sa_49), .val (.ref ra_89), .val (.int ((((p2 &&& (3 : Int32)) - ((p2 &&& (3 : Int32)) / (3 : Int32)) * (3 : Int32)) + (1 : Int32)) + ((((p2.toUInt32 >>> ((2 : Int32) &&& 31).toUInt32).toInt32) &&& (3 : Int32)) - ((((p2.toUInt32 >>> ((2 : Int32) &&& 31).toUInt32).toInt32) &&& (3 : Int32)) / (3 : Int32)) * (3 : Int32))))] [(.ref ra_89)]) G
    refine Gl.via (fun _ k => XS.iconst X120.here hx rfl (hb hby at_193) k) ?_
    show Gl p.tables e below T120 (mkF m 194 #[.val (.int p0), .val (.int p1), .val (.int p2), .val (.int (p0 &&& (255 : Int32))), .val (.int ((p0.toUInt32 >>> ((8 : Int32) &&& 31).toUInt32).toInt32 &&& (255 : Int32))), .val (.int (p1 &&& (255 : Int32))), .val (.int ((p1.toUInt32 >>> ((8 : Int32) &&& 31).toUInt32).toInt32 &&& (255 : Int32))), .val (.int ((p2 &&& (3 : Int32)) - ((p2 &&& (3 : Int32)) / (3 : Int32)) * (3 : Int32))), .val (.int ((((p2.toUInt32 >>> ((2 : Int32) &&& 31).toUInt32).toInt32) &&& (3 : Int32)) - ((((p2.toUInt32 >>> ((2 : Int32) &&& 31).toUInt32).toInt32) &&& (3 : Int32)) / (3 : Int32)) * (3 : Int32))), .val (.int (1 : Int32)), .val (.ref sa_37), .val (.ref sa_49), .val (.ref ra_89), .val (.int ((((p2 &&& (3 : Int32)) - ((p2 &&& (3 : Int32)) / (3 : Int32)) * (3 : Int32)) + (1 : Int32)) + ((((p2.toUInt32 >>> ((2 : Int32) &&& 31).toUInt32).toInt32) &&& (3 : Int32)) - ((((p2.toUInt32 >>> ((2 : Int32) &&& 31).toUInt32).toInt32) &&& (3 : Int32)) / (3 : Int32)) * (3 : Int32))))] [(.int (2 : Int32)), (.ref ra_89)]) G
    refine Gl.via (fun _ k => XS.iload X120.here hx rfl (hb hby at_194) rfl k) ?_
    show Gl p.tables e below T120 (mkF m 196 #[.val (.int p0), .val (.int p1), .val (.int p2), .val (.int (p0 &&& (255 : Int32))), .val (.int ((p0.toUInt32 >>> ((8 : Int32) &&& 31).toUInt32).toInt32 &&& (255 : Int32))), .val (.int (p1 &&& (255 : Int32))), .val (.int ((p1.toUInt32 >>> ((8 : Int32) &&& 31).toUInt32).toInt32 &&& (255 : Int32))), .val (.int ((p2 &&& (3 : Int32)) - ((p2 &&& (3 : Int32)) / (3 : Int32)) * (3 : Int32))), .val (.int ((((p2.toUInt32 >>> ((2 : Int32) &&& 31).toUInt32).toInt32) &&& (3 : Int32)) - ((((p2.toUInt32 >>> ((2 : Int32) &&& 31).toUInt32).toInt32) &&& (3 : Int32)) / (3 : Int32)) * (3 : Int32))), .val (.int (1 : Int32)), .val (.ref sa_37), .val (.ref sa_49), .val (.ref ra_89), .val (.int ((((p2 &&& (3 : Int32)) - ((p2 &&& (3 : Int32)) / (3 : Int32)) * (3 : Int32)) + (1 : Int32)) + ((((p2.toUInt32 >>> ((2 : Int32) &&& 31).toUInt32).toInt32) &&& (3 : Int32)) - ((((p2.toUInt32 >>> ((2 : Int32) &&& 31).toUInt32).toInt32) &&& (3 : Int32)) / (3 : Int32)) * (3 : Int32))))] [(.int ((p2 &&& (3 : Int32)) - ((p2 &&& (3 : Int32)) / (3 : Int32)) * (3 : Int32))), (.int (2 : Int32)), (.ref ra_89)]) G
    refine Gl.via (fun _ k => XS.iloadN X120.here hx rfl (hb hby at_196) rfl k) ?_
    show Gl p.tables e below T120 (mkF m 197 #[.val (.int p0), .val (.int p1), .val (.int p2), .val (.int (p0 &&& (255 : Int32))), .val (.int ((p0.toUInt32 >>> ((8 : Int32) &&& 31).toUInt32).toInt32 &&& (255 : Int32))), .val (.int (p1 &&& (255 : Int32))), .val (.int ((p1.toUInt32 >>> ((8 : Int32) &&& 31).toUInt32).toInt32 &&& (255 : Int32))), .val (.int ((p2 &&& (3 : Int32)) - ((p2 &&& (3 : Int32)) / (3 : Int32)) * (3 : Int32))), .val (.int ((((p2.toUInt32 >>> ((2 : Int32) &&& 31).toUInt32).toInt32) &&& (3 : Int32)) - ((((p2.toUInt32 >>> ((2 : Int32) &&& 31).toUInt32).toInt32) &&& (3 : Int32)) / (3 : Int32)) * (3 : Int32))), .val (.int (1 : Int32)), .val (.ref sa_37), .val (.ref sa_49), .val (.ref ra_89), .val (.int ((((p2 &&& (3 : Int32)) - ((p2 &&& (3 : Int32)) / (3 : Int32)) * (3 : Int32)) + (1 : Int32)) + ((((p2.toUInt32 >>> ((2 : Int32) &&& 31).toUInt32).toInt32) &&& (3 : Int32)) - ((((p2.toUInt32 >>> ((2 : Int32) &&& 31).toUInt32).toInt32) &&& (3 : Int32)) / (3 : Int32)) * (3 : Int32))))] [(.int (p0 &&& (255 : Int32))), (.int ((p2 &&& (3 : Int32)) - ((p2 &&& (3 : Int32)) / (3 : Int32)) * (3 : Int32))), (.int (2 : Int32)), (.ref ra_89)]) G
    refine Gl.via (fun _ k => XS.iload X120.here hx rfl (hb hby at_197) rfl k) ?_
    show Gl p.tables e below T120 (mkF m 199 #[.val (.int p0), .val (.int p1), .val (.int p2), .val (.int (p0 &&& (255 : Int32))), .val (.int ((p0.toUInt32 >>> ((8 : Int32) &&& 31).toUInt32).toInt32 &&& (255 : Int32))), .val (.int (p1 &&& (255 : Int32))), .val (.int ((p1.toUInt32 >>> ((8 : Int32) &&& 31).toUInt32).toInt32 &&& (255 : Int32))), .val (.int ((p2 &&& (3 : Int32)) - ((p2 &&& (3 : Int32)) / (3 : Int32)) * (3 : Int32))), .val (.int ((((p2.toUInt32 >>> ((2 : Int32) &&& 31).toUInt32).toInt32) &&& (3 : Int32)) - ((((p2.toUInt32 >>> ((2 : Int32) &&& 31).toUInt32).toInt32) &&& (3 : Int32)) / (3 : Int32)) * (3 : Int32))), .val (.int (1 : Int32)), .val (.ref sa_37), .val (.ref sa_49), .val (.ref ra_89), .val (.int ((((p2 &&& (3 : Int32)) - ((p2 &&& (3 : Int32)) / (3 : Int32)) * (3 : Int32)) + (1 : Int32)) + ((((p2.toUInt32 >>> ((2 : Int32) &&& 31).toUInt32).toInt32) &&& (3 : Int32)) - ((((p2.toUInt32 >>> ((2 : Int32) &&& 31).toUInt32).toInt32) &&& (3 : Int32)) / (3 : Int32)) * (3 : Int32))))] [(.int ((p0.toUInt32 >>> ((8 : Int32) &&& 31).toUInt32).toInt32 &&& (255 : Int32))), (.int (p0 &&& (255 : Int32))), (.int ((p2 &&& (3 : Int32)) - ((p2 &&& (3 : Int32)) / (3 : Int32)) * (3 : Int32))), (.int (2 : Int32)), (.ref ra_89)]) G
    refine Gl.via (fun _ k => XS.iload X120.here hx rfl (hb hby at_199) rfl k) ?_
    show Gl p.tables e below T120 (mkF m 201 #[.val (.int p0), .val (.int p1), .val (.int p2), .val (.int (p0 &&& (255 : Int32))), .val (.int ((p0.toUInt32 >>> ((8 : Int32) &&& 31).toUInt32).toInt32 &&& (255 : Int32))), .val (.int (p1 &&& (255 : Int32))), .val (.int ((p1.toUInt32 >>> ((8 : Int32) &&& 31).toUInt32).toInt32 &&& (255 : Int32))), .val (.int ((p2 &&& (3 : Int32)) - ((p2 &&& (3 : Int32)) / (3 : Int32)) * (3 : Int32))), .val (.int ((((p2.toUInt32 >>> ((2 : Int32) &&& 31).toUInt32).toInt32) &&& (3 : Int32)) - ((((p2.toUInt32 >>> ((2 : Int32) &&& 31).toUInt32).toInt32) &&& (3 : Int32)) / (3 : Int32)) * (3 : Int32))), .val (.int (1 : Int32)), .val (.ref sa_37), .val (.ref sa_49), .val (.ref ra_89), .val (.int ((((p2 &&& (3 : Int32)) - ((p2 &&& (3 : Int32)) / (3 : Int32)) * (3 : Int32)) + (1 : Int32)) + ((((p2.toUInt32 >>> ((2 : Int32) &&& 31).toUInt32).toInt32) &&& (3 : Int32)) - ((((p2.toUInt32 >>> ((2 : Int32) &&& 31).toUInt32).toInt32) &&& (3 : Int32)) / (3 : Int32)) * (3 : Int32))))] [(.int (p1 &&& (255 : Int32))), (.int ((p0.toUInt32 >>> ((8 : Int32) &&& 31).toUInt32).toInt32 &&& (255 : Int32))), (.int (p0 &&& (255 : Int32))), (.int ((p2 &&& (3 : Int32)) - ((p2 &&& (3 : Int32)) / (3 : Int32)) * (3 : Int32))), (.int (2 : Int32)), (.ref ra_89)]) G
    refine Gl.via (fun _ k => XS.iload X120.here hx rfl (hb hby at_201) rfl k) ?_
    show Gl p.tables e below T120 (mkF m 203 #[.val (.int p0), .val (.int p1), .val (.int p2), .val (.int (p0 &&& (255 : Int32))), .val (.int ((p0.toUInt32 >>> ((8 : Int32) &&& 31).toUInt32).toInt32 &&& (255 : Int32))), .val (.int (p1 &&& (255 : Int32))), .val (.int ((p1.toUInt32 >>> ((8 : Int32) &&& 31).toUInt32).toInt32 &&& (255 : Int32))), .val (.int ((p2 &&& (3 : Int32)) - ((p2 &&& (3 : Int32)) / (3 : Int32)) * (3 : Int32))), .val (.int ((((p2.toUInt32 >>> ((2 : Int32) &&& 31).toUInt32).toInt32) &&& (3 : Int32)) - ((((p2.toUInt32 >>> ((2 : Int32) &&& 31).toUInt32).toInt32) &&& (3 : Int32)) / (3 : Int32)) * (3 : Int32))), .val (.int (1 : Int32)), .val (.ref sa_37), .val (.ref sa_49), .val (.ref ra_89), .val (.int ((((p2 &&& (3 : Int32)) - ((p2 &&& (3 : Int32)) / (3 : Int32)) * (3 : Int32)) + (1 : Int32)) + ((((p2.toUInt32 >>> ((2 : Int32) &&& 31).toUInt32).toInt32) &&& (3 : Int32)) - ((((p2.toUInt32 >>> ((2 : Int32) &&& 31).toUInt32).toInt32) &&& (3 : Int32)) / (3 : Int32)) * (3 : Int32))))] [(.int ((p1.toUInt32 >>> ((8 : Int32) &&& 31).toUInt32).toInt32 &&& (255 : Int32))), (.int (p1 &&& (255 : Int32))), (.int ((p0.toUInt32 >>> ((8 : Int32) &&& 31).toUInt32).toInt32 &&& (255 : Int32))), (.int (p0 &&& (255 : Int32))), (.int ((p2 &&& (3 : Int32)) - ((p2 &&& (3 : Int32)) / (3 : Int32)) * (3 : Int32))), (.int (2 : Int32)), (.ref ra_89)]) G
    obtain ⟨_, _, ⟨T121, L121, k121, n121⟩, -, X121, ⟨Lc121, hQ121, l121, y121, z121⟩, st121⟩ := Jvm.LawKit.callS X120 hx (y := (⟨"com/example/profile_to_target/profiletotarget/SfrIdToStringPinLaw", "at", "(Ljava/lang/String;IICCCC)Z"⟩ : MethodName)) hown89 (mvT hZ89 (hw _ (List.mem_of_getElem? (i := 189) rfl))) (mvT hZ89 (hw _ (List.mem_of_getElem? (i := 190) rfl))) (mvT hZ89 (hw _ (List.mem_of_getElem? (i := 2) rfl))) (mvT hZ89 (hw _ (List.mem_of_getElem? (i := 191) rfl))) (by decide) (backOf (W := 0) (at_ l Z a0 hw [] ra_89 rb_89 rk_89 (own_scat (47 : Int32) ((p2 &&& (3 : Int32)) - ((p2 &&& (3 : Int32)) / (3 : Int32)) * (3 : Int32)) (p0 &&& (255 : Int32)) ((p0.toUInt32 >>> ((8 : Int32) &&& 31).toUInt32).toInt32 &&& (255 : Int32)) (0 : Int32) (((p2.toUInt32 >>> ((2 : Int32) &&& 31).toUInt32).toInt32 &&& (3 : Int32)) - (((p2.toUInt32 >>> ((2 : Int32) &&& 31).toUInt32).toInt32 &&& (3 : Int32)) / (3 : Int32)) * (3 : Int32)) (p1 &&& (255 : Int32)) ((p1.toUInt32 >>> ((8 : Int32) &&& 31).toUInt32).toInt32 &&& (255 : Int32)) (0 : Int32)) (2 : Int32) ((p2 &&& (3 : Int32)) - ((p2 &&& (3 : Int32)) / (3 : Int32)) * (3 : Int32)) (p0 &&& (255 : Int32)) ((p0.toUInt32 >>> ((8 : Int32) &&& 31).toUInt32).toInt32 &&& (255 : Int32)) (p1 &&& (255 : Int32)) ((p1.toUInt32 >>> ((8 : Int32) &&& 31).toUInt32).toInt32 &&& (255 : Int32)) fm cps T89.heap n0 Z113 P99 P100 P101 V116 F0_java_lang_String F1_jdk_internal_util_Preconditions G118 hcps hfm (own_pos (own_r3 _) (own_r3 _) (by decide) (own_msk _ (own_mb _).1 (own_mb _).2) (own_msk _ (own_mb _).1 (own_mb _).2) (own_msk _ (own_mb _).1 (own_mb _).2) (own_msk _ (own_mb _).1 (own_mb _).2))) hZ89 (hw _ (List.mem_of_getElem? (i := 191) rfl)) (hw _ (List.mem_of_getElem? (i := 2) rfl)) (by decide) (by decide)) (g := (mkF m 203 #[.val (.int p0), .val (.int p1), .val (.int p2), .val (.int (p0 &&& (255 : Int32))), .val (.int ((p0.toUInt32 >>> ((8 : Int32) &&& 31).toUInt32).toInt32 &&& (255 : Int32))), .val (.int (p1 &&& (255 : Int32))), .val (.int ((p1.toUInt32 >>> ((8 : Int32) &&& 31).toUInt32).toInt32 &&& (255 : Int32))), .val (.int ((p2 &&& (3 : Int32)) - ((p2 &&& (3 : Int32)) / (3 : Int32)) * (3 : Int32))), .val (.int ((((p2.toUInt32 >>> ((2 : Int32) &&& 31).toUInt32).toInt32) &&& (3 : Int32)) - ((((p2.toUInt32 >>> ((2 : Int32) &&& 31).toUInt32).toInt32) &&& (3 : Int32)) / (3 : Int32)) * (3 : Int32))), .val (.int (1 : Int32)), .val (.ref sa_37), .val (.ref sa_49), .val (.ref ra_89), .val (.int ((((p2 &&& (3 : Int32)) - ((p2 &&& (3 : Int32)) / (3 : Int32)) * (3 : Int32)) + (1 : Int32)) + ((((p2.toUInt32 >>> ((2 : Int32) &&& 31).toUInt32).toInt32) &&& (3 : Int32)) - ((((p2.toUInt32 >>> ((2 : Int32) &&& 31).toUInt32).toInt32) &&& (3 : Int32)) / (3 : Int32)) * (3 : Int32))))] [(.int ((p1.toUInt32 >>> ((8 : Int32) &&& 31).toUInt32).toInt32 &&& (255 : Int32))), (.int (p1 &&& (255 : Int32))), (.int ((p0.toUInt32 >>> ((8 : Int32) &&& 31).toUInt32).toInt32 &&& (255 : Int32))), (.int (p0 &&& (255 : Int32))), (.int ((p2 &&& (3 : Int32)) - ((p2 &&& (3 : Int32)) / (3 : Int32)) * (3 : Int32))), (.int (2 : Int32)), (.ref ra_89)])) rfl (by rw [hml]; rfl) (argsL := [(.ref ra_89), (.int (2 : Int32)), (.int ((p2 &&& (3 : Int32)) - ((p2 &&& (3 : Int32)) / (3 : Int32)) * (3 : Int32))), (.int (p0 &&& (255 : Int32))), (.int ((p0.toUInt32 >>> ((8 : Int32) &&& 31).toUInt32).toInt32 &&& (255 : Int32))), (.int (p1 &&& (255 : Int32))), (.int ((p1.toUInt32 >>> ((8 : Int32) &&& 31).toUInt32).toInt32 &&& (255 : Int32)))]) (rest := []) (lenOf pd_32 rfl) rfl (by show 2 * 0 + _ ≤ _; exact Nat.le_of_eq rfl) (hb hby at_203) (fun _ _ => ⟨rfl, eh120, (by decide : 19 + 0 ≤ _), (by decide : 74 + 0 ≤ _)⟩)
    dsimp only [Pt.U, Pt.locs, Pt.cells, Pt.slots] at X121 l121 y121 z121 st121 hQ121
    subst l121 y121 z121
    obtain ⟨rfl, N121q, eh121⟩ := hQ121
    have N121_ := Fr.app N120_ N121q
    refine Gl.via (fun _ k => st121 _ k) ?_
    show Gl p.tables e below T121 (mkF m 206 #[.val (.int p0), .val (.int p1), .val (.int p2), .val (.int (p0 &&& (255 : Int32))), .val (.int ((p0.toUInt32 >>> ((8 : Int32) &&& 31).toUInt32).toInt32 &&& (255 : Int32))), .val (.int (p1 &&& (255 : Int32))), .val (.int ((p1.toUInt32 >>> ((8 : Int32) &&& 31).toUInt32).toInt32 &&& (255 : Int32))), .val (.int ((p2 &&& (3 : Int32)) - ((p2 &&& (3 : Int32)) / (3 : Int32)) * (3 : Int32))), .val (.int ((((p2.toUInt32 >>> ((2 : Int32) &&& 31).toUInt32).toInt32) &&& (3 : Int32)) - ((((p2.toUInt32 >>> ((2 : Int32) &&& 31).toUInt32).toInt32) &&& (3 : Int32)) / (3 : Int32)) * (3 : Int32))), .val (.int (1 : Int32)), .val (.ref sa_37), .val (.ref sa_49), .val (.ref ra_89), .val (.int ((((p2 &&& (3 : Int32)) - ((p2 &&& (3 : Int32)) / (3 : Int32)) * (3 : Int32)) + (1 : Int32)) + ((((p2.toUInt32 >>> ((2 : Int32) &&& 31).toUInt32).toInt32) &&& (3 : Int32)) - ((((p2.toUInt32 >>> ((2 : Int32) &&& 31).toUInt32).toInt32) &&& (3 : Int32)) / (3 : Int32)) * (3 : Int32))))] [(.int (1 : Int32))]) G
    refine Gl.via (fun _ k => XS.ifNo X121.here hx rfl (hb hby at_206) rfl ((if0 _ _).trans (feq (by decide)).1) k) ?_
    show Gl p.tables e below T121 (mkF m 209 #[.val (.int p0), .val (.int p1), .val (.int p2), .val (.int (p0 &&& (255 : Int32))), .val (.int ((p0.toUInt32 >>> ((8 : Int32) &&& 31).toUInt32).toInt32 &&& (255 : Int32))), .val (.int (p1 &&& (255 : Int32))), .val (.int ((p1.toUInt32 >>> ((8 : Int32) &&& 31).toUInt32).toInt32 &&& (255 : Int32))), .val (.int ((p2 &&& (3 : Int32)) - ((p2 &&& (3 : Int32)) / (3 : Int32)) * (3 : Int32))), .val (.int ((((p2.toUInt32 >>> ((2 : Int32) &&& 31).toUInt32).toInt32) &&& (3 : Int32)) - ((((p2.toUInt32 >>> ((2 : Int32) &&& 31).toUInt32).toInt32) &&& (3 : Int32)) / (3 : Int32)) * (3 : Int32))), .val (.int (1 : Int32)), .val (.ref sa_37), .val (.ref sa_49), .val (.ref ra_89), .val (.int ((((p2 &&& (3 : Int32)) - ((p2 &&& (3 : Int32)) / (3 : Int32)) * (3 : Int32)) + (1 : Int32)) + ((((p2.toUInt32 >>> ((2 : Int32) &&& 31).toUInt32).toInt32) &&& (3 : Int32)) - ((((p2.toUInt32 >>> ((2 : Int32) &&& 31).toUInt32).toInt32) &&& (3 : Int32)) / (3 : Int32)) * (3 : Int32))))] []) G
    refine Gl.via (fun _ k => XS.aload X121.here hx rfl (hb hby at_209) rfl rfl k) ?_
    show Gl p.tables e below T121 (mkF m 211 #[.val (.int p0), .val (.int p1), .val (.int p2), .val (.int (p0 &&& (255 : Int32))), .val (.int ((p0.toUInt32 >>> ((8 : Int32) &&& 31).toUInt32).toInt32 &&& (255 : Int32))), .val (.int (p1 &&& (255 : Int32))), .val (.int ((p1.toUInt32 >>> ((8 : Int32) &&& 31).toUInt32).toInt32 &&& (255 : Int32))), .val (.int ((p2 &&& (3 : Int32)) - ((p2 &&& (3 : Int32)) / (3 : Int32)) * (3 : Int32))), .val (.int ((((p2.toUInt32 >>> ((2 : Int32) &&& 31).toUInt32).toInt32) &&& (3 : Int32)) - ((((p2.toUInt32 >>> ((2 : Int32) &&& 31).toUInt32).toInt32) &&& (3 : Int32)) / (3 : Int32)) * (3 : Int32))), .val (.int (1 : Int32)), .val (.ref sa_37), .val (.ref sa_49), .val (.ref ra_89), .val (.int ((((p2 &&& (3 : Int32)) - ((p2 &&& (3 : Int32)) / (3 : Int32)) * (3 : Int32)) + (1 : Int32)) + ((((p2.toUInt32 >>> ((2 : Int32) &&& 31).toUInt32).toInt32) &&& (3 : Int32)) - ((((p2.toUInt32 >>> ((2 : Int32) &&& 31).toUInt32).toInt32) &&& (3 : Int32)) / (3 : Int32)) * (3 : Int32))))] [(.ref ra_89)]) G
    refine Gl.via (fun _ k => XS.iconst X121.here hx rfl (hb hby at_211) k) ?_
    show Gl p.tables e below T121 (mkF m 212 #[.val (.int p0), .val (.int p1), .val (.int p2), .val (.int (p0 &&& (255 : Int32))), .val (.int ((p0.toUInt32 >>> ((8 : Int32) &&& 31).toUInt32).toInt32 &&& (255 : Int32))), .val (.int (p1 &&& (255 : Int32))), .val (.int ((p1.toUInt32 >>> ((8 : Int32) &&& 31).toUInt32).toInt32 &&& (255 : Int32))), .val (.int ((p2 &&& (3 : Int32)) - ((p2 &&& (3 : Int32)) / (3 : Int32)) * (3 : Int32))), .val (.int ((((p2.toUInt32 >>> ((2 : Int32) &&& 31).toUInt32).toInt32) &&& (3 : Int32)) - ((((p2.toUInt32 >>> ((2 : Int32) &&& 31).toUInt32).toInt32) &&& (3 : Int32)) / (3 : Int32)) * (3 : Int32))), .val (.int (1 : Int32)), .val (.ref sa_37), .val (.ref sa_49), .val (.ref ra_89), .val (.int ((((p2 &&& (3 : Int32)) - ((p2 &&& (3 : Int32)) / (3 : Int32)) * (3 : Int32)) + (1 : Int32)) + ((((p2.toUInt32 >>> ((2 : Int32) &&& 31).toUInt32).toInt32) &&& (3 : Int32)) - ((((p2.toUInt32 >>> ((2 : Int32) &&& 31).toUInt32).toInt32) &&& (3 : Int32)) / (3 : Int32)) * (3 : Int32))))] [(.int (3 : Int32)), (.ref ra_89)]) G
    refine Gl.via (fun _ k => XS.iload X121.here hx rfl (hb hby at_212) rfl k) ?_
    show Gl p.tables e below T121 (mkF m 214 #[.val (.int p0), .val (.int p1), .val (.int p2), .val (.int (p0 &&& (255 : Int32))), .val (.int ((p0.toUInt32 >>> ((8 : Int32) &&& 31).toUInt32).toInt32 &&& (255 : Int32))), .val (.int (p1 &&& (255 : Int32))), .val (.int ((p1.toUInt32 >>> ((8 : Int32) &&& 31).toUInt32).toInt32 &&& (255 : Int32))), .val (.int ((p2 &&& (3 : Int32)) - ((p2 &&& (3 : Int32)) / (3 : Int32)) * (3 : Int32))), .val (.int ((((p2.toUInt32 >>> ((2 : Int32) &&& 31).toUInt32).toInt32) &&& (3 : Int32)) - ((((p2.toUInt32 >>> ((2 : Int32) &&& 31).toUInt32).toInt32) &&& (3 : Int32)) / (3 : Int32)) * (3 : Int32))), .val (.int (1 : Int32)), .val (.ref sa_37), .val (.ref sa_49), .val (.ref ra_89), .val (.int ((((p2 &&& (3 : Int32)) - ((p2 &&& (3 : Int32)) / (3 : Int32)) * (3 : Int32)) + (1 : Int32)) + ((((p2.toUInt32 >>> ((2 : Int32) &&& 31).toUInt32).toInt32) &&& (3 : Int32)) - ((((p2.toUInt32 >>> ((2 : Int32) &&& 31).toUInt32).toInt32) &&& (3 : Int32)) / (3 : Int32)) * (3 : Int32))))] [(.int ((p2 &&& (3 : Int32)) - ((p2 &&& (3 : Int32)) / (3 : Int32)) * (3 : Int32))), (.int (3 : Int32)), (.ref ra_89)]) G
    refine Gl.via (fun _ k => XS.iloadN X121.here hx rfl (hb hby at_214) rfl k) ?_
    show Gl p.tables e below T121 (mkF m 215 #[.val (.int p0), .val (.int p1), .val (.int p2), .val (.int (p0 &&& (255 : Int32))), .val (.int ((p0.toUInt32 >>> ((8 : Int32) &&& 31).toUInt32).toInt32 &&& (255 : Int32))), .val (.int (p1 &&& (255 : Int32))), .val (.int ((p1.toUInt32 >>> ((8 : Int32) &&& 31).toUInt32).toInt32 &&& (255 : Int32))), .val (.int ((p2 &&& (3 : Int32)) - ((p2 &&& (3 : Int32)) / (3 : Int32)) * (3 : Int32))), .val (.int ((((p2.toUInt32 >>> ((2 : Int32) &&& 31).toUInt32).toInt32) &&& (3 : Int32)) - ((((p2.toUInt32 >>> ((2 : Int32) &&& 31).toUInt32).toInt32) &&& (3 : Int32)) / (3 : Int32)) * (3 : Int32))), .val (.int (1 : Int32)), .val (.ref sa_37), .val (.ref sa_49), .val (.ref ra_89), .val (.int ((((p2 &&& (3 : Int32)) - ((p2 &&& (3 : Int32)) / (3 : Int32)) * (3 : Int32)) + (1 : Int32)) + ((((p2.toUInt32 >>> ((2 : Int32) &&& 31).toUInt32).toInt32) &&& (3 : Int32)) - ((((p2.toUInt32 >>> ((2 : Int32) &&& 31).toUInt32).toInt32) &&& (3 : Int32)) / (3 : Int32)) * (3 : Int32))))] [(.int (p0 &&& (255 : Int32))), (.int ((p2 &&& (3 : Int32)) - ((p2 &&& (3 : Int32)) / (3 : Int32)) * (3 : Int32))), (.int (3 : Int32)), (.ref ra_89)]) G
    refine Gl.via (fun _ k => XS.iload X121.here hx rfl (hb hby at_215) rfl k) ?_
    show Gl p.tables e below T121 (mkF m 217 #[.val (.int p0), .val (.int p1), .val (.int p2), .val (.int (p0 &&& (255 : Int32))), .val (.int ((p0.toUInt32 >>> ((8 : Int32) &&& 31).toUInt32).toInt32 &&& (255 : Int32))), .val (.int (p1 &&& (255 : Int32))), .val (.int ((p1.toUInt32 >>> ((8 : Int32) &&& 31).toUInt32).toInt32 &&& (255 : Int32))), .val (.int ((p2 &&& (3 : Int32)) - ((p2 &&& (3 : Int32)) / (3 : Int32)) * (3 : Int32))), .val (.int ((((p2.toUInt32 >>> ((2 : Int32) &&& 31).toUInt32).toInt32) &&& (3 : Int32)) - ((((p2.toUInt32 >>> ((2 : Int32) &&& 31).toUInt32).toInt32) &&& (3 : Int32)) / (3 : Int32)) * (3 : Int32))), .val (.int (1 : Int32)), .val (.ref sa_37), .val (.ref sa_49), .val (.ref ra_89), .val (.int ((((p2 &&& (3 : Int32)) - ((p2 &&& (3 : Int32)) / (3 : Int32)) * (3 : Int32)) + (1 : Int32)) + ((((p2.toUInt32 >>> ((2 : Int32) &&& 31).toUInt32).toInt32) &&& (3 : Int32)) - ((((p2.toUInt32 >>> ((2 : Int32) &&& 31).toUInt32).toInt32) &&& (3 : Int32)) / (3 : Int32)) * (3 : Int32))))] [(.int ((p0.toUInt32 >>> ((8 : Int32) &&& 31).toUInt32).toInt32 &&& (255 : Int32))), (.int (p0 &&& (255 : Int32))), (.int ((p2 &&& (3 : Int32)) - ((p2 &&& (3 : Int32)) / (3 : Int32)) * (3 : Int32))), (.int (3 : Int32)), (.ref ra_89)]) G
    refine Gl.via (fun _ k => XS.iload X121.here hx rfl (hb hby at_217) rfl k) ?_
    show Gl p.tables e below T121 (mkF m 219 #[.val (.int p0), .val (.int p1), .val (.int p2), .val (.int (p0 &&& (255 : Int32))), .val (.int ((p0.toUInt32 >>> ((8 : Int32) &&& 31).toUInt32).toInt32 &&& (255 : Int32))), .val (.int (p1 &&& (255 : Int32))), .val (.int ((p1.toUInt32 >>> ((8 : Int32) &&& 31).toUInt32).toInt32 &&& (255 : Int32))), .val (.int ((p2 &&& (3 : Int32)) - ((p2 &&& (3 : Int32)) / (3 : Int32)) * (3 : Int32))), .val (.int ((((p2.toUInt32 >>> ((2 : Int32) &&& 31).toUInt32).toInt32) &&& (3 : Int32)) - ((((p2.toUInt32 >>> ((2 : Int32) &&& 31).toUInt32).toInt32) &&& (3 : Int32)) / (3 : Int32)) * (3 : Int32))), .val (.int (1 : Int32)), .val (.ref sa_37), .val (.ref sa_49), .val (.ref ra_89), .val (.int ((((p2 &&& (3 : Int32)) - ((p2 &&& (3 : Int32)) / (3 : Int32)) * (3 : Int32)) + (1 : Int32)) + ((((p2.toUInt32 >>> ((2 : Int32) &&& 31).toUInt32).toInt32) &&& (3 : Int32)) - ((((p2.toUInt32 >>> ((2 : Int32) &&& 31).toUInt32).toInt32) &&& (3 : Int32)) / (3 : Int32)) * (3 : Int32))))] [(.int (p1 &&& (255 : Int32))), (.int ((p0.toUInt32 >>> ((8 : Int32) &&& 31).toUInt32).toInt32 &&& (255 : Int32))), (.int (p0 &&& (255 : Int32))), (.int ((p2 &&& (3 : Int32)) - ((p2 &&& (3 : Int32)) / (3 : Int32)) * (3 : Int32))), (.int (3 : Int32)), (.ref ra_89)]) G
    refine Gl.via (fun _ k => XS.iload X121.here hx rfl (hb hby at_219) rfl k) ?_
    show Gl p.tables e below T121 (mkF m 221 #[.val (.int p0), .val (.int p1), .val (.int p2), .val (.int (p0 &&& (255 : Int32))), .val (.int ((p0.toUInt32 >>> ((8 : Int32) &&& 31).toUInt32).toInt32 &&& (255 : Int32))), .val (.int (p1 &&& (255 : Int32))), .val (.int ((p1.toUInt32 >>> ((8 : Int32) &&& 31).toUInt32).toInt32 &&& (255 : Int32))), .val (.int ((p2 &&& (3 : Int32)) - ((p2 &&& (3 : Int32)) / (3 : Int32)) * (3 : Int32))), .val (.int ((((p2.toUInt32 >>> ((2 : Int32) &&& 31).toUInt32).toInt32) &&& (3 : Int32)) - ((((p2.toUInt32 >>> ((2 : Int32) &&& 31).toUInt32).toInt32) &&& (3 : Int32)) / (3 : Int32)) * (3 : Int32))), .val (.int (1 : Int32)), .val (.ref sa_37), .val (.ref sa_49), .val (.ref ra_89), .val (.int ((((p2 &&& (3 : Int32)) - ((p2 &&& (3 : Int32)) / (3 : Int32)) * (3 : Int32)) + (1 : Int32)) + ((((p2.toUInt32 >>> ((2 : Int32) &&& 31).toUInt32).toInt32) &&& (3 : Int32)) - ((((p2.toUInt32 >>> ((2 : Int32) &&& 31).toUInt32).toInt32) &&& (3 : Int32)) / (3 : Int32)) * (3 : Int32))))] [(.int ((p1.toUInt32 >>> ((8 : Int32) &&& 31).toUInt32).toInt32 &&& (255 : Int32))), (.int (p1 &&& (255 : Int32))), (.int ((p0.toUInt32 >>> ((8 : Int32) &&& 31).toUInt32).toInt32 &&& (255 : Int32))), (.int (p0 &&& (255 : Int32))), (.int ((p2 &&& (3 : Int32)) - ((p2 &&& (3 : Int32)) / (3 : Int32)) * (3 : Int32))), (.int (3 : Int32)), (.ref ra_89)]) G
    obtain ⟨_, _, ⟨T122, L122, k122, n122⟩, -, X122, ⟨Lc122, hQ122, l122, y122, z122⟩, st122⟩ := Jvm.LawKit.callS X121 hx (y := (⟨"com/example/profile_to_target/profiletotarget/SfrIdToStringPinLaw", "at", "(Ljava/lang/String;IICCCC)Z"⟩ : MethodName)) hown89 (mvT hZ89 (hw _ (List.mem_of_getElem? (i := 189) rfl))) (mvT hZ89 (hw _ (List.mem_of_getElem? (i := 190) rfl))) (mvT hZ89 (hw _ (List.mem_of_getElem? (i := 2) rfl))) (mvT hZ89 (hw _ (List.mem_of_getElem? (i := 191) rfl))) (by decide) (backOf (W := 0) (at_ l Z a0 hw [] ra_89 rb_89 rk_89 (own_scat (47 : Int32) ((p2 &&& (3 : Int32)) - ((p2 &&& (3 : Int32)) / (3 : Int32)) * (3 : Int32)) (p0 &&& (255 : Int32)) ((p0.toUInt32 >>> ((8 : Int32) &&& 31).toUInt32).toInt32 &&& (255 : Int32)) (0 : Int32) (((p2.toUInt32 >>> ((2 : Int32) &&& 31).toUInt32).toInt32 &&& (3 : Int32)) - (((p2.toUInt32 >>> ((2 : Int32) &&& 31).toUInt32).toInt32 &&& (3 : Int32)) / (3 : Int32)) * (3 : Int32)) (p1 &&& (255 : Int32)) ((p1.toUInt32 >>> ((8 : Int32) &&& 31).toUInt32).toInt32 &&& (255 : Int32)) (0 : Int32)) (3 : Int32) ((p2 &&& (3 : Int32)) - ((p2 &&& (3 : Int32)) / (3 : Int32)) * (3 : Int32)) (p0 &&& (255 : Int32)) ((p0.toUInt32 >>> ((8 : Int32) &&& 31).toUInt32).toInt32 &&& (255 : Int32)) (p1 &&& (255 : Int32)) ((p1.toUInt32 >>> ((8 : Int32) &&& 31).toUInt32).toInt32 &&& (255 : Int32)) fm cps T89.heap n0 Z113 P99 P100 P101 V116 F0_java_lang_String F1_jdk_internal_util_Preconditions G118 hcps hfm (own_pos (own_r3 _) (own_r3 _) (by decide) (own_msk _ (own_mb _).1 (own_mb _).2) (own_msk _ (own_mb _).1 (own_mb _).2) (own_msk _ (own_mb _).1 (own_mb _).2) (own_msk _ (own_mb _).1 (own_mb _).2))) hZ89 (hw _ (List.mem_of_getElem? (i := 191) rfl)) (hw _ (List.mem_of_getElem? (i := 2) rfl)) (by decide) (by decide)) (g := (mkF m 221 #[.val (.int p0), .val (.int p1), .val (.int p2), .val (.int (p0 &&& (255 : Int32))), .val (.int ((p0.toUInt32 >>> ((8 : Int32) &&& 31).toUInt32).toInt32 &&& (255 : Int32))), .val (.int (p1 &&& (255 : Int32))), .val (.int ((p1.toUInt32 >>> ((8 : Int32) &&& 31).toUInt32).toInt32 &&& (255 : Int32))), .val (.int ((p2 &&& (3 : Int32)) - ((p2 &&& (3 : Int32)) / (3 : Int32)) * (3 : Int32))), .val (.int ((((p2.toUInt32 >>> ((2 : Int32) &&& 31).toUInt32).toInt32) &&& (3 : Int32)) - ((((p2.toUInt32 >>> ((2 : Int32) &&& 31).toUInt32).toInt32) &&& (3 : Int32)) / (3 : Int32)) * (3 : Int32))), .val (.int (1 : Int32)), .val (.ref sa_37), .val (.ref sa_49), .val (.ref ra_89), .val (.int ((((p2 &&& (3 : Int32)) - ((p2 &&& (3 : Int32)) / (3 : Int32)) * (3 : Int32)) + (1 : Int32)) + ((((p2.toUInt32 >>> ((2 : Int32) &&& 31).toUInt32).toInt32) &&& (3 : Int32)) - ((((p2.toUInt32 >>> ((2 : Int32) &&& 31).toUInt32).toInt32) &&& (3 : Int32)) / (3 : Int32)) * (3 : Int32))))] [(.int ((p1.toUInt32 >>> ((8 : Int32) &&& 31).toUInt32).toInt32 &&& (255 : Int32))), (.int (p1 &&& (255 : Int32))), (.int ((p0.toUInt32 >>> ((8 : Int32) &&& 31).toUInt32).toInt32 &&& (255 : Int32))), (.int (p0 &&& (255 : Int32))), (.int ((p2 &&& (3 : Int32)) - ((p2 &&& (3 : Int32)) / (3 : Int32)) * (3 : Int32))), (.int (3 : Int32)), (.ref ra_89)])) rfl (by rw [hml]; rfl) (argsL := [(.ref ra_89), (.int (3 : Int32)), (.int ((p2 &&& (3 : Int32)) - ((p2 &&& (3 : Int32)) / (3 : Int32)) * (3 : Int32))), (.int (p0 &&& (255 : Int32))), (.int ((p0.toUInt32 >>> ((8 : Int32) &&& 31).toUInt32).toInt32 &&& (255 : Int32))), (.int (p1 &&& (255 : Int32))), (.int ((p1.toUInt32 >>> ((8 : Int32) &&& 31).toUInt32).toInt32 &&& (255 : Int32)))]) (rest := []) (lenOf pd_32 rfl) rfl (by show 2 * 0 + _ ≤ _; exact Nat.le_of_eq rfl) (hb hby at_221) (fun _ _ => ⟨rfl, eh121, (by decide : 19 + 0 ≤ _), (by decide : 74 + 0 ≤ _)⟩)
    dsimp only [Pt.U, Pt.locs, Pt.cells, Pt.slots] at X122 l122 y122 z122 st122 hQ122
    subst l122 y122 z122
    obtain ⟨rfl, N122q, eh122⟩ := hQ122
    have N122_ := Fr.app N121_ N122q
    refine Gl.via (fun _ k => st122 _ k) ?_
    show Gl p.tables e below T122 (mkF m 224 #[.val (.int p0), .val (.int p1), .val (.int p2), .val (.int (p0 &&& (255 : Int32))), .val (.int ((p0.toUInt32 >>> ((8 : Int32) &&& 31).toUInt32).toInt32 &&& (255 : Int32))), .val (.int (p1 &&& (255 : Int32))), .val (.int ((p1.toUInt32 >>> ((8 : Int32) &&& 31).toUInt32).toInt32 &&& (255 : Int32))), .val (.int ((p2 &&& (3 : Int32)) - ((p2 &&& (3 : Int32)) / (3 : Int32)) * (3 : Int32))), .val (.int ((((p2.toUInt32 >>> ((2 : Int32) &&& 31).toUInt32).toInt32) &&& (3 : Int32)) - ((((p2.toUInt32 >>> ((2 : Int32) &&& 31).toUInt32).toInt32) &&& (3 : Int32)) / (3 : Int32)) * (3 : Int32))), .val (.int (1 : Int32)), .val (.ref sa_37), .val (.ref sa_49), .val (.ref ra_89), .val (.int ((((p2 &&& (3 : Int32)) - ((p2 &&& (3 : Int32)) / (3 : Int32)) * (3 : Int32)) + (1 : Int32)) + ((((p2.toUInt32 >>> ((2 : Int32) &&& 31).toUInt32).toInt32) &&& (3 : Int32)) - ((((p2.toUInt32 >>> ((2 : Int32) &&& 31).toUInt32).toInt32) &&& (3 : Int32)) / (3 : Int32)) * (3 : Int32))))] [(.int (1 : Int32))]) G
    refine Gl.via (fun _ k => XS.ifNo X122.here hx rfl (hb hby at_224) rfl ((if0 _ _).trans (feq (by decide)).1) k) ?_
    show Gl p.tables e below T122 (mkF m 227 #[.val (.int p0), .val (.int p1), .val (.int p2), .val (.int (p0 &&& (255 : Int32))), .val (.int ((p0.toUInt32 >>> ((8 : Int32) &&& 31).toUInt32).toInt32 &&& (255 : Int32))), .val (.int (p1 &&& (255 : Int32))), .val (.int ((p1.toUInt32 >>> ((8 : Int32) &&& 31).toUInt32).toInt32 &&& (255 : Int32))), .val (.int ((p2 &&& (3 : Int32)) - ((p2 &&& (3 : Int32)) / (3 : Int32)) * (3 : Int32))), .val (.int ((((p2.toUInt32 >>> ((2 : Int32) &&& 31).toUInt32).toInt32) &&& (3 : Int32)) - ((((p2.toUInt32 >>> ((2 : Int32) &&& 31).toUInt32).toInt32) &&& (3 : Int32)) / (3 : Int32)) * (3 : Int32))), .val (.int (1 : Int32)), .val (.ref sa_37), .val (.ref sa_49), .val (.ref ra_89), .val (.int ((((p2 &&& (3 : Int32)) - ((p2 &&& (3 : Int32)) / (3 : Int32)) * (3 : Int32)) + (1 : Int32)) + ((((p2.toUInt32 >>> ((2 : Int32) &&& 31).toUInt32).toInt32) &&& (3 : Int32)) - ((((p2.toUInt32 >>> ((2 : Int32) &&& 31).toUInt32).toInt32) &&& (3 : Int32)) / (3 : Int32)) * (3 : Int32))))] []) G
    refine Gl.via (fun _ k => XS.aload X122.here hx rfl (hb hby at_227) rfl rfl k) ?_
    show Gl p.tables e below T122 (mkF m 229 #[.val (.int p0), .val (.int p1), .val (.int p2), .val (.int (p0 &&& (255 : Int32))), .val (.int ((p0.toUInt32 >>> ((8 : Int32) &&& 31).toUInt32).toInt32 &&& (255 : Int32))), .val (.int (p1 &&& (255 : Int32))), .val (.int ((p1.toUInt32 >>> ((8 : Int32) &&& 31).toUInt32).toInt32 &&& (255 : Int32))), .val (.int ((p2 &&& (3 : Int32)) - ((p2 &&& (3 : Int32)) / (3 : Int32)) * (3 : Int32))), .val (.int ((((p2.toUInt32 >>> ((2 : Int32) &&& 31).toUInt32).toInt32) &&& (3 : Int32)) - ((((p2.toUInt32 >>> ((2 : Int32) &&& 31).toUInt32).toInt32) &&& (3 : Int32)) / (3 : Int32)) * (3 : Int32))), .val (.int (1 : Int32)), .val (.ref sa_37), .val (.ref sa_49), .val (.ref ra_89), .val (.int ((((p2 &&& (3 : Int32)) - ((p2 &&& (3 : Int32)) / (3 : Int32)) * (3 : Int32)) + (1 : Int32)) + ((((p2.toUInt32 >>> ((2 : Int32) &&& 31).toUInt32).toInt32) &&& (3 : Int32)) - ((((p2.toUInt32 >>> ((2 : Int32) &&& 31).toUInt32).toInt32) &&& (3 : Int32)) / (3 : Int32)) * (3 : Int32))))] [(.ref ra_89)]) G
    refine Gl.via (fun _ k => XS.iconst X122.here hx rfl (hb hby at_229) k) ?_
    show Gl p.tables e below T122 (mkF m 230 #[.val (.int p0), .val (.int p1), .val (.int p2), .val (.int (p0 &&& (255 : Int32))), .val (.int ((p0.toUInt32 >>> ((8 : Int32) &&& 31).toUInt32).toInt32 &&& (255 : Int32))), .val (.int (p1 &&& (255 : Int32))), .val (.int ((p1.toUInt32 >>> ((8 : Int32) &&& 31).toUInt32).toInt32 &&& (255 : Int32))), .val (.int ((p2 &&& (3 : Int32)) - ((p2 &&& (3 : Int32)) / (3 : Int32)) * (3 : Int32))), .val (.int ((((p2.toUInt32 >>> ((2 : Int32) &&& 31).toUInt32).toInt32) &&& (3 : Int32)) - ((((p2.toUInt32 >>> ((2 : Int32) &&& 31).toUInt32).toInt32) &&& (3 : Int32)) / (3 : Int32)) * (3 : Int32))), .val (.int (1 : Int32)), .val (.ref sa_37), .val (.ref sa_49), .val (.ref ra_89), .val (.int ((((p2 &&& (3 : Int32)) - ((p2 &&& (3 : Int32)) / (3 : Int32)) * (3 : Int32)) + (1 : Int32)) + ((((p2.toUInt32 >>> ((2 : Int32) &&& 31).toUInt32).toInt32) &&& (3 : Int32)) - ((((p2.toUInt32 >>> ((2 : Int32) &&& 31).toUInt32).toInt32) &&& (3 : Int32)) / (3 : Int32)) * (3 : Int32))))] [(.int (4 : Int32)), (.ref ra_89)]) G
    refine Gl.via (fun _ k => XS.iload X122.here hx rfl (hb hby at_230) rfl k) ?_
    show Gl p.tables e below T122 (mkF m 232 #[.val (.int p0), .val (.int p1), .val (.int p2), .val (.int (p0 &&& (255 : Int32))), .val (.int ((p0.toUInt32 >>> ((8 : Int32) &&& 31).toUInt32).toInt32 &&& (255 : Int32))), .val (.int (p1 &&& (255 : Int32))), .val (.int ((p1.toUInt32 >>> ((8 : Int32) &&& 31).toUInt32).toInt32 &&& (255 : Int32))), .val (.int ((p2 &&& (3 : Int32)) - ((p2 &&& (3 : Int32)) / (3 : Int32)) * (3 : Int32))), .val (.int ((((p2.toUInt32 >>> ((2 : Int32) &&& 31).toUInt32).toInt32) &&& (3 : Int32)) - ((((p2.toUInt32 >>> ((2 : Int32) &&& 31).toUInt32).toInt32) &&& (3 : Int32)) / (3 : Int32)) * (3 : Int32))), .val (.int (1 : Int32)), .val (.ref sa_37), .val (.ref sa_49), .val (.ref ra_89), .val (.int ((((p2 &&& (3 : Int32)) - ((p2 &&& (3 : Int32)) / (3 : Int32)) * (3 : Int32)) + (1 : Int32)) + ((((p2.toUInt32 >>> ((2 : Int32) &&& 31).toUInt32).toInt32) &&& (3 : Int32)) - ((((p2.toUInt32 >>> ((2 : Int32) &&& 31).toUInt32).toInt32) &&& (3 : Int32)) / (3 : Int32)) * (3 : Int32))))] [(.int ((p2 &&& (3 : Int32)) - ((p2 &&& (3 : Int32)) / (3 : Int32)) * (3 : Int32))), (.int (4 : Int32)), (.ref ra_89)]) G
    refine Gl.via (fun _ k => XS.iloadN X122.here hx rfl (hb hby at_232) rfl k) ?_
    show Gl p.tables e below T122 (mkF m 233 #[.val (.int p0), .val (.int p1), .val (.int p2), .val (.int (p0 &&& (255 : Int32))), .val (.int ((p0.toUInt32 >>> ((8 : Int32) &&& 31).toUInt32).toInt32 &&& (255 : Int32))), .val (.int (p1 &&& (255 : Int32))), .val (.int ((p1.toUInt32 >>> ((8 : Int32) &&& 31).toUInt32).toInt32 &&& (255 : Int32))), .val (.int ((p2 &&& (3 : Int32)) - ((p2 &&& (3 : Int32)) / (3 : Int32)) * (3 : Int32))), .val (.int ((((p2.toUInt32 >>> ((2 : Int32) &&& 31).toUInt32).toInt32) &&& (3 : Int32)) - ((((p2.toUInt32 >>> ((2 : Int32) &&& 31).toUInt32).toInt32) &&& (3 : Int32)) / (3 : Int32)) * (3 : Int32))), .val (.int (1 : Int32)), .val (.ref sa_37), .val (.ref sa_49), .val (.ref ra_89), .val (.int ((((p2 &&& (3 : Int32)) - ((p2 &&& (3 : Int32)) / (3 : Int32)) * (3 : Int32)) + (1 : Int32)) + ((((p2.toUInt32 >>> ((2 : Int32) &&& 31).toUInt32).toInt32) &&& (3 : Int32)) - ((((p2.toUInt32 >>> ((2 : Int32) &&& 31).toUInt32).toInt32) &&& (3 : Int32)) / (3 : Int32)) * (3 : Int32))))] [(.int (p0 &&& (255 : Int32))), (.int ((p2 &&& (3 : Int32)) - ((p2 &&& (3 : Int32)) / (3 : Int32)) * (3 : Int32))), (.int (4 : Int32)), (.ref ra_89)]) G
    refine Gl.via (fun _ k => XS.iload X122.here hx rfl (hb hby at_233) rfl k) ?_
    show Gl p.tables e below T122 (mkF m 235 #[.val (.int p0), .val (.int p1), .val (.int p2), .val (.int (p0 &&& (255 : Int32))), .val (.int ((p0.toUInt32 >>> ((8 : Int32) &&& 31).toUInt32).toInt32 &&& (255 : Int32))), .val (.int (p1 &&& (255 : Int32))), .val (.int ((p1.toUInt32 >>> ((8 : Int32) &&& 31).toUInt32).toInt32 &&& (255 : Int32))), .val (.int ((p2 &&& (3 : Int32)) - ((p2 &&& (3 : Int32)) / (3 : Int32)) * (3 : Int32))), .val (.int ((((p2.toUInt32 >>> ((2 : Int32) &&& 31).toUInt32).toInt32) &&& (3 : Int32)) - ((((p2.toUInt32 >>> ((2 : Int32) &&& 31).toUInt32).toInt32) &&& (3 : Int32)) / (3 : Int32)) * (3 : Int32))), .val (.int (1 : Int32)), .val (.ref sa_37), .val (.ref sa_49), .val (.ref ra_89), .val (.int ((((p2 &&& (3 : Int32)) - ((p2 &&& (3 : Int32)) / (3 : Int32)) * (3 : Int32)) + (1 : Int32)) + ((((p2.toUInt32 >>> ((2 : Int32) &&& 31).toUInt32).toInt32) &&& (3 : Int32)) - ((((p2.toUInt32 >>> ((2 : Int32) &&& 31).toUInt32).toInt32) &&& (3 : Int32)) / (3 : Int32)) * (3 : Int32))))] [(.int ((p0.toUInt32 >>> ((8 : Int32) &&& 31).toUInt32).toInt32 &&& (255 : Int32))), (.int (p0 &&& (255 : Int32))), (.int ((p2 &&& (3 : Int32)) - ((p2 &&& (3 : Int32)) / (3 : Int32)) * (3 : Int32))), (.int (4 : Int32)), (.ref ra_89)]) G
    refine Gl.via (fun _ k => XS.iload X122.here hx rfl (hb hby at_235) rfl k) ?_
    show Gl p.tables e below T122 (mkF m 237 #[.val (.int p0), .val (.int p1), .val (.int p2), .val (.int (p0 &&& (255 : Int32))), .val (.int ((p0.toUInt32 >>> ((8 : Int32) &&& 31).toUInt32).toInt32 &&& (255 : Int32))), .val (.int (p1 &&& (255 : Int32))), .val (.int ((p1.toUInt32 >>> ((8 : Int32) &&& 31).toUInt32).toInt32 &&& (255 : Int32))), .val (.int ((p2 &&& (3 : Int32)) - ((p2 &&& (3 : Int32)) / (3 : Int32)) * (3 : Int32))), .val (.int ((((p2.toUInt32 >>> ((2 : Int32) &&& 31).toUInt32).toInt32) &&& (3 : Int32)) - ((((p2.toUInt32 >>> ((2 : Int32) &&& 31).toUInt32).toInt32) &&& (3 : Int32)) / (3 : Int32)) * (3 : Int32))), .val (.int (1 : Int32)), .val (.ref sa_37), .val (.ref sa_49), .val (.ref ra_89), .val (.int ((((p2 &&& (3 : Int32)) - ((p2 &&& (3 : Int32)) / (3 : Int32)) * (3 : Int32)) + (1 : Int32)) + ((((p2.toUInt32 >>> ((2 : Int32) &&& 31).toUInt32).toInt32) &&& (3 : Int32)) - ((((p2.toUInt32 >>> ((2 : Int32) &&& 31).toUInt32).toInt32) &&& (3 : Int32)) / (3 : Int32)) * (3 : Int32))))] [(.int (p1 &&& (255 : Int32))), (.int ((p0.toUInt32 >>> ((8 : Int32) &&& 31).toUInt32).toInt32 &&& (255 : Int32))), (.int (p0 &&& (255 : Int32))), (.int ((p2 &&& (3 : Int32)) - ((p2 &&& (3 : Int32)) / (3 : Int32)) * (3 : Int32))), (.int (4 : Int32)), (.ref ra_89)]) G
    refine Gl.via (fun _ k => XS.iload X122.here hx rfl (hb hby at_237) rfl k) ?_
    show Gl p.tables e below T122 (mkF m 239 #[.val (.int p0), .val (.int p1), .val (.int p2), .val (.int (p0 &&& (255 : Int32))), .val (.int ((p0.toUInt32 >>> ((8 : Int32) &&& 31).toUInt32).toInt32 &&& (255 : Int32))), .val (.int (p1 &&& (255 : Int32))), .val (.int ((p1.toUInt32 >>> ((8 : Int32) &&& 31).toUInt32).toInt32 &&& (255 : Int32))), .val (.int ((p2 &&& (3 : Int32)) - ((p2 &&& (3 : Int32)) / (3 : Int32)) * (3 : Int32))), .val (.int ((((p2.toUInt32 >>> ((2 : Int32) &&& 31).toUInt32).toInt32) &&& (3 : Int32)) - ((((p2.toUInt32 >>> ((2 : Int32) &&& 31).toUInt32).toInt32) &&& (3 : Int32)) / (3 : Int32)) * (3 : Int32))), .val (.int (1 : Int32)), .val (.ref sa_37), .val (.ref sa_49), .val (.ref ra_89), .val (.int ((((p2 &&& (3 : Int32)) - ((p2 &&& (3 : Int32)) / (3 : Int32)) * (3 : Int32)) + (1 : Int32)) + ((((p2.toUInt32 >>> ((2 : Int32) &&& 31).toUInt32).toInt32) &&& (3 : Int32)) - ((((p2.toUInt32 >>> ((2 : Int32) &&& 31).toUInt32).toInt32) &&& (3 : Int32)) / (3 : Int32)) * (3 : Int32))))] [(.int ((p1.toUInt32 >>> ((8 : Int32) &&& 31).toUInt32).toInt32 &&& (255 : Int32))), (.int (p1 &&& (255 : Int32))), (.int ((p0.toUInt32 >>> ((8 : Int32) &&& 31).toUInt32).toInt32 &&& (255 : Int32))), (.int (p0 &&& (255 : Int32))), (.int ((p2 &&& (3 : Int32)) - ((p2 &&& (3 : Int32)) / (3 : Int32)) * (3 : Int32))), (.int (4 : Int32)), (.ref ra_89)]) G
    obtain ⟨_, _, ⟨T123, L123, k123, n123⟩, -, X123, ⟨Lc123, hQ123, l123, y123, z123⟩, st123⟩ := Jvm.LawKit.callS X122 hx (y := (⟨"com/example/profile_to_target/profiletotarget/SfrIdToStringPinLaw", "at", "(Ljava/lang/String;IICCCC)Z"⟩ : MethodName)) hown89 (mvT hZ89 (hw _ (List.mem_of_getElem? (i := 189) rfl))) (mvT hZ89 (hw _ (List.mem_of_getElem? (i := 190) rfl))) (mvT hZ89 (hw _ (List.mem_of_getElem? (i := 2) rfl))) (mvT hZ89 (hw _ (List.mem_of_getElem? (i := 191) rfl))) (by decide) (backOf (W := 0) (at_ l Z a0 hw [] ra_89 rb_89 rk_89 (own_scat (47 : Int32) ((p2 &&& (3 : Int32)) - ((p2 &&& (3 : Int32)) / (3 : Int32)) * (3 : Int32)) (p0 &&& (255 : Int32)) ((p0.toUInt32 >>> ((8 : Int32) &&& 31).toUInt32).toInt32 &&& (255 : Int32)) (0 : Int32) (((p2.toUInt32 >>> ((2 : Int32) &&& 31).toUInt32).toInt32 &&& (3 : Int32)) - (((p2.toUInt32 >>> ((2 : Int32) &&& 31).toUInt32).toInt32 &&& (3 : Int32)) / (3 : Int32)) * (3 : Int32)) (p1 &&& (255 : Int32)) ((p1.toUInt32 >>> ((8 : Int32) &&& 31).toUInt32).toInt32 &&& (255 : Int32)) (0 : Int32)) (4 : Int32) ((p2 &&& (3 : Int32)) - ((p2 &&& (3 : Int32)) / (3 : Int32)) * (3 : Int32)) (p0 &&& (255 : Int32)) ((p0.toUInt32 >>> ((8 : Int32) &&& 31).toUInt32).toInt32 &&& (255 : Int32)) (p1 &&& (255 : Int32)) ((p1.toUInt32 >>> ((8 : Int32) &&& 31).toUInt32).toInt32 &&& (255 : Int32)) fm cps T89.heap n0 Z113 P99 P100 P101 V116 F0_java_lang_String F1_jdk_internal_util_Preconditions G118 hcps hfm (own_pos (own_r3 _) (own_r3 _) (by decide) (own_msk _ (own_mb _).1 (own_mb _).2) (own_msk _ (own_mb _).1 (own_mb _).2) (own_msk _ (own_mb _).1 (own_mb _).2) (own_msk _ (own_mb _).1 (own_mb _).2))) hZ89 (hw _ (List.mem_of_getElem? (i := 191) rfl)) (hw _ (List.mem_of_getElem? (i := 2) rfl)) (by decide) (by decide)) (g := (mkF m 239 #[.val (.int p0), .val (.int p1), .val (.int p2), .val (.int (p0 &&& (255 : Int32))), .val (.int ((p0.toUInt32 >>> ((8 : Int32) &&& 31).toUInt32).toInt32 &&& (255 : Int32))), .val (.int (p1 &&& (255 : Int32))), .val (.int ((p1.toUInt32 >>> ((8 : Int32) &&& 31).toUInt32).toInt32 &&& (255 : Int32))), .val (.int ((p2 &&& (3 : Int32)) - ((p2 &&& (3 : Int32)) / (3 : Int32)) * (3 : Int32))), .val (.int ((((p2.toUInt32 >>> ((2 : Int32) &&& 31).toUInt32).toInt32) &&& (3 : Int32)) - ((((p2.toUInt32 >>> ((2 : Int32) &&& 31).toUInt32).toInt32) &&& (3 : Int32)) / (3 : Int32)) * (3 : Int32))), .val (.int (1 : Int32)), .val (.ref sa_37), .val (.ref sa_49), .val (.ref ra_89), .val (.int ((((p2 &&& (3 : Int32)) - ((p2 &&& (3 : Int32)) / (3 : Int32)) * (3 : Int32)) + (1 : Int32)) + ((((p2.toUInt32 >>> ((2 : Int32) &&& 31).toUInt32).toInt32) &&& (3 : Int32)) - ((((p2.toUInt32 >>> ((2 : Int32) &&& 31).toUInt32).toInt32) &&& (3 : Int32)) / (3 : Int32)) * (3 : Int32))))] [(.int ((p1.toUInt32 >>> ((8 : Int32) &&& 31).toUInt32).toInt32 &&& (255 : Int32))), (.int (p1 &&& (255 : Int32))), (.int ((p0.toUInt32 >>> ((8 : Int32) &&& 31).toUInt32).toInt32 &&& (255 : Int32))), (.int (p0 &&& (255 : Int32))), (.int ((p2 &&& (3 : Int32)) - ((p2 &&& (3 : Int32)) / (3 : Int32)) * (3 : Int32))), (.int (4 : Int32)), (.ref ra_89)])) rfl (by rw [hml]; rfl) (argsL := [(.ref ra_89), (.int (4 : Int32)), (.int ((p2 &&& (3 : Int32)) - ((p2 &&& (3 : Int32)) / (3 : Int32)) * (3 : Int32))), (.int (p0 &&& (255 : Int32))), (.int ((p0.toUInt32 >>> ((8 : Int32) &&& 31).toUInt32).toInt32 &&& (255 : Int32))), (.int (p1 &&& (255 : Int32))), (.int ((p1.toUInt32 >>> ((8 : Int32) &&& 31).toUInt32).toInt32 &&& (255 : Int32)))]) (rest := []) (lenOf pd_32 rfl) rfl (by show 2 * 0 + _ ≤ _; exact Nat.le_of_eq rfl) (hb hby at_239) (fun _ _ => ⟨rfl, eh122, (by decide : 19 + 0 ≤ _), (by decide : 74 + 0 ≤ _)⟩)
    dsimp only [Pt.U, Pt.locs, Pt.cells, Pt.slots] at X123 l123 y123 z123 st123 hQ123
    subst l123 y123 z123
    obtain ⟨rfl, N123q, eh123⟩ := hQ123
    have N123_ := Fr.app N122_ N123q
    refine Gl.via (fun _ k => st123 _ k) ?_
    show Gl p.tables e below T123 (mkF m 242 #[.val (.int p0), .val (.int p1), .val (.int p2), .val (.int (p0 &&& (255 : Int32))), .val (.int ((p0.toUInt32 >>> ((8 : Int32) &&& 31).toUInt32).toInt32 &&& (255 : Int32))), .val (.int (p1 &&& (255 : Int32))), .val (.int ((p1.toUInt32 >>> ((8 : Int32) &&& 31).toUInt32).toInt32 &&& (255 : Int32))), .val (.int ((p2 &&& (3 : Int32)) - ((p2 &&& (3 : Int32)) / (3 : Int32)) * (3 : Int32))), .val (.int ((((p2.toUInt32 >>> ((2 : Int32) &&& 31).toUInt32).toInt32) &&& (3 : Int32)) - ((((p2.toUInt32 >>> ((2 : Int32) &&& 31).toUInt32).toInt32) &&& (3 : Int32)) / (3 : Int32)) * (3 : Int32))), .val (.int (1 : Int32)), .val (.ref sa_37), .val (.ref sa_49), .val (.ref ra_89), .val (.int ((((p2 &&& (3 : Int32)) - ((p2 &&& (3 : Int32)) / (3 : Int32)) * (3 : Int32)) + (1 : Int32)) + ((((p2.toUInt32 >>> ((2 : Int32) &&& 31).toUInt32).toInt32) &&& (3 : Int32)) - ((((p2.toUInt32 >>> ((2 : Int32) &&& 31).toUInt32).toInt32) &&& (3 : Int32)) / (3 : Int32)) * (3 : Int32))))] [(.int (1 : Int32))]) G
    refine Gl.via (fun _ k => XS.ifNo X123.here hx rfl (hb hby at_242) rfl ((if0 _ _).trans (feq (by decide)).1) k) ?_
    show Gl p.tables e below T123 (mkF m 245 #[.val (.int p0), .val (.int p1), .val (.int p2), .val (.int (p0 &&& (255 : Int32))), .val (.int ((p0.toUInt32 >>> ((8 : Int32) &&& 31).toUInt32).toInt32 &&& (255 : Int32))), .val (.int (p1 &&& (255 : Int32))), .val (.int ((p1.toUInt32 >>> ((8 : Int32) &&& 31).toUInt32).toInt32 &&& (255 : Int32))), .val (.int ((p2 &&& (3 : Int32)) - ((p2 &&& (3 : Int32)) / (3 : Int32)) * (3 : Int32))), .val (.int ((((p2.toUInt32 >>> ((2 : Int32) &&& 31).toUInt32).toInt32) &&& (3 : Int32)) - ((((p2.toUInt32 >>> ((2 : Int32) &&& 31).toUInt32).toInt32) &&& (3 : Int32)) / (3 : Int32)) * (3 : Int32))), .val (.int (1 : Int32)), .val (.ref sa_37), .val (.ref sa_49), .val (.ref ra_89), .val (.int ((((p2 &&& (3 : Int32)) - ((p2 &&& (3 : Int32)) / (3 : Int32)) * (3 : Int32)) + (1 : Int32)) + ((((p2.toUInt32 >>> ((2 : Int32) &&& 31).toUInt32).toInt32) &&& (3 : Int32)) - ((((p2.toUInt32 >>> ((2 : Int32) &&& 31).toUInt32).toInt32) &&& (3 : Int32)) / (3 : Int32)) * (3 : Int32))))] []) G
    refine Gl.via (fun _ k => XS.iconst X123.here hx rfl (hb hby at_245) k) ?_
    show Gl p.tables e below T123 (mkF m 246 #[.val (.int p0), .val (.int p1), .val (.int p2), .val (.int (p0 &&& (255 : Int32))), .val (.int ((p0.toUInt32 >>> ((8 : Int32) &&& 31).toUInt32).toInt32 &&& (255 : Int32))), .val (.int (p1 &&& (255 : Int32))), .val (.int ((p1.toUInt32 >>> ((8 : Int32) &&& 31).toUInt32).toInt32 &&& (255 : Int32))), .val (.int ((p2 &&& (3 : Int32)) - ((p2 &&& (3 : Int32)) / (3 : Int32)) * (3 : Int32))), .val (.int ((((p2.toUInt32 >>> ((2 : Int32) &&& 31).toUInt32).toInt32) &&& (3 : Int32)) - ((((p2.toUInt32 >>> ((2 : Int32) &&& 31).toUInt32).toInt32) &&& (3 : Int32)) / (3 : Int32)) * (3 : Int32))), .val (.int (1 : Int32)), .val (.ref sa_37), .val (.ref sa_49), .val (.ref ra_89), .val (.int ((((p2 &&& (3 : Int32)) - ((p2 &&& (3 : Int32)) / (3 : Int32)) * (3 : Int32)) + (1 : Int32)) + ((((p2.toUInt32 >>> ((2 : Int32) &&& 31).toUInt32).toInt32) &&& (3 : Int32)) - ((((p2.toUInt32 >>> ((2 : Int32) &&& 31).toUInt32).toInt32) &&& (3 : Int32)) / (3 : Int32)) * (3 : Int32))))] [(.int (1 : Int32))]) G
    refine Gl.via (fun _ k => XS.goto X123.here hx rfl (pc0 := 246) (pc' := 250) rfl (hb hby at_246) (by decide) (by decide) k) ?_
    show Gl p.tables e below T123 (mkF m 250 #[.val (.int p0), .val (.int p1), .val (.int p2), .val (.int (p0 &&& (255 : Int32))), .val (.int ((p0.toUInt32 >>> ((8 : Int32) &&& 31).toUInt32).toInt32 &&& (255 : Int32))), .val (.int (p1 &&& (255 : Int32))), .val (.int ((p1.toUInt32 >>> ((8 : Int32) &&& 31).toUInt32).toInt32 &&& (255 : Int32))), .val (.int ((p2 &&& (3 : Int32)) - ((p2 &&& (3 : Int32)) / (3 : Int32)) * (3 : Int32))), .val (.int ((((p2.toUInt32 >>> ((2 : Int32) &&& 31).toUInt32).toInt32) &&& (3 : Int32)) - ((((p2.toUInt32 >>> ((2 : Int32) &&& 31).toUInt32).toInt32) &&& (3 : Int32)) / (3 : Int32)) * (3 : Int32))), .val (.int (1 : Int32)), .val (.ref sa_37), .val (.ref sa_49), .val (.ref ra_89), .val (.int ((((p2 &&& (3 : Int32)) - ((p2 &&& (3 : Int32)) / (3 : Int32)) * (3 : Int32)) + (1 : Int32)) + ((((p2.toUInt32 >>> ((2 : Int32) &&& 31).toUInt32).toInt32) &&& (3 : Int32)) - ((((p2.toUInt32 >>> ((2 : Int32) &&& 31).toUInt32).toInt32) &&& (3 : Int32)) / (3 : Int32)) * (3 : Int32))))] [(.int (1 : Int32))]) G
    obtain ⟨fs, hr, hrun, hended, hRW⟩ := X123.leaveW hS89 (by rw [eh123]; exact hk89) (v := some (.int (1 : Int32))) (fun h => by rw [Bd.returns] at h; cases h)
    have hq : ∀ L, Fr n0 L → Q_rm0 Z p0 p1 p2 cps fm h0 n0 (some (.int (1 : Int32))) T123.heap L := by
      intro L hN
      rw [eh123]
      exact ⟨rfl, hN⟩
    rw [hG]
    exact Gl.fin (retN X123 hx (t := .boolean) Bd.returns (by simp) (hb hby at_250) hr) ⟨_, hrun, hended, _, _, rfl, hq _ N123_, ⟨hRW.1, hRW.2.1, hRW.2.2.1, hRW.2.2.2.mono (by decide) (by decide)⟩⟩
set_option maxRecDepth 65536 in
set_option maxHeartbeats 40000000 in
theorem comes_1 {Post : Tables → Env → Array Value → State → Outcome → State → Prop} (hpost : ∀ tb e args s v u, (limb_1_1.after args s (.returned v) u = true ∧ limb_1_2.after args s (.returned v) u = true ∧ True) → ReturnedEndW s (.returned v) u (Jvm.fieldLocs frame_1_writes args s ++ Jvm.arrayLocs frame_1_arrays args s ++ Jvm.staticLocs frame_1_statics s) 40 2240 → Post tb e args s (.returned v) u) :
    ArmFor flags0 classFile x code maxLocals ret World_1 tables_1 room_1 Calls_1 rest_1 Pre_1 Post := by
  intro l hfl _ _ p e ha hc hk s m args below hf hA hF happ hP
  obtain ⟨hcalls, hrest, hpre⟩ := hP
  obtain ⟨-, -, -, hnamed, -, -, -, hat⟩ := (Spec.applies_iff hf).mp happ
  obtain ⟨hg, hn⟩ := and_e (Cond.before_iff.mp (show (Jvm.Cond.and given_1 narrow_1).before args s = true from hpre))
  obtain ⟨g1, g2⟩ := and_e hg
  obtain ⟨g3, g4⟩ := and_e g2
  obtain ⟨g5, g6⟩ := and_e g4
  obtain ⟨w0, w1, w2, rfl⟩ : ∃ w0 w1 w2 : Value, args = #[w0, w1, w2] := by
    have hs : args.size = 3 := by simpa [Cond.value, given_1] using g1
    obtain ⟨L⟩ := args
    match L, hs with
    | [w0, w1, w2], _ => exact ⟨w0, w1, w2, rfl⟩
  have hw := fun d (hd : d ∈ tables_1) => atoms_spec (ws := Jvm.Cond.code x code maxLocals ret :: tables_1) hat d (List.mem_cons_of_mem _ hd)
  have hfit : Fit s := fun {y c} hc i hi => by
    obtain ⟨ha, rfl⟩ := Array.getElem?_eq_some_iff.mp hc
    have q := List.all_eq_true.mp ((Array.all_eq_true_iff_forall_mem.mp hF) _ (Array.getElem_mem ha)) i (List.mem_range.mpr hi)
    simpa [Array.getElem?_eq_getElem hi] using q
  obtain ⟨hsets, hown0⟩ := atoms_of _ (rest_1_c_eq ▸ (show rest_1_c.before _ s = true from hrest))
  have hr0 := Cond.before_iff.mp hown0
  obtain ⟨i0, ei0⟩ := is_v g3
  obtain rfl : w0 = (.int i0) := Option.some.inj ei0
  obtain ⟨i1, ei1⟩ := is_v g5
  obtain rfl : w1 = (.int i1) := Option.some.inj ei1
  obtain ⟨i2, ei2⟩ := is_v g6
  obtain rfl : w2 = (.int i2) := Option.some.inj ei2
  obtain ⟨cps, ecs⟩ := is_v (Cond.before_iff.mp (hsets _ (List.mem_of_getElem? (i := 1) rfl)))
  have Scs : Sta s s.heap "java/lang/String" "COMPACT_STRINGS" "Z" (.int cps) := Sta.start ecs (Or.inl (hsets _ (List.mem_of_getElem? (i := 0) rfl)))
  have ncs := not_v (Cond.before_iff.mp (hsets _ (List.mem_of_getElem? (i := 2) rfl)))
  have hcps : ¬ (cps = (0 : Int32)) := gotF (Cond.eq_ints ecs (Term.int_eval (0))) ncs
  obtain ⟨fm, efm, rfm⟩ := isR_v (Cond.before_iff.mp (hsets _ (List.mem_of_getElem? (i := 8) rfl)))
  have Sfm : Sta s s.heap "jdk/internal/util/Preconditions" "SIOOBE_FORMATTER" "Ljava/util/function/BiFunction;" fm := Sta.start efm (Or.inl (hsets _ (List.mem_of_getElem? (i := 7) rfl)))
  have hCH0 : CHv s own_EL s.vm s.heap := CHv.start (own_ew hw) (fun q hq => hcalls.1 q (own_sub q hq)) (hsets _ (List.mem_of_getElem? (i := 2) rfl)) (hw _ (List.mem_of_getElem? (i := 23) rfl)) (hw _ (List.mem_of_getElem? (i := 5) rfl))
  obtain ⟨n, o, h1, h2, h3, _, L, rfl, ⟨rfl, N⟩, hq⟩ := rm0 l s _ hw tables_1 i0 i1 i2 cps fm s.heap s.heap.size (Nat.le_refl _) Scs Sfm (Old.start s) hcps (own_cat rfm) p e ha hc hk s m _ below hf ((Spec.applies_iff_loose hf).mp happ).1 ⟨rfl, State.Warmed39.refl s, rfl, hCH0, (fun _ z => nomatch z)⟩ trivial
  refine ⟨n, _, h1, h2, h3, hpost _ _ _ _ _ _ ⟨Cond.after_iff.mpr rfl, Cond.after_iff.mpr (eq_i res_at (Term.int_eval (1)) rfl), trivial⟩ ⟨hq.1, hq.2.1, hq.2.2.1, (hq.2.2.2.sift fun y hy => Or.inr (N y hy)).mono (by decide) (by decide)⟩⟩
theorem main_1_1 : Claimed_1_1 := comes_1 fun _ _ _ _ _ _ h hF => ⟨h.1, hF⟩
theorem main_1_2 : Claimed_1_2 := comes_1 fun _ _ _ _ _ _ h hF => ⟨h.2.1, hF⟩
end Jvm.Pilot.@@N@@
namespace Jvm.Pilot.@@N@@
open Jvm Jvm.ClassFile Sem Op Lib Jvm.Free Jvm.Stand Jvm.Pilot.@@N@@.Jvm.D
/-! MADE BY PROGRAM (witnessworld.py) out of the Statement's table words and the real class files: 27 classes; the members and pool entries that the words name. The judged class is class 1, her method 1. -/
namespace start1
open Jvm.ClassFile
def u (s : String) : CpInfo := .utf8 (stringToUtf16 s)
/-- a pool by its gaps: so many unusable entries, then the entry; so many at the end -/
def gap : Nat → List CpInfo → List CpInfo
  | 0, r => r
  | n + 1, r => .unusable :: gap n r
def poolList (es : List (Nat × CpInfo)) (last : Nat) : List CpInfo := es.foldr (fun e r => gap e.1 (e.2 :: r)) (gap last [])
def pool (es : List (Nat × CpInfo)) (last : Nat) : Array CpInfo := ⟨poolList es last⟩
def fileOf (pool : Array CpInfo) (this : Nat) (attrs : Array Attribute := #[]) (ms : Array MethodInfo := #[]) (fl : Nat := 33) (sup : Nat := 0) (ifs : Array Nat := #[]) (fds : Array FieldInfo := #[]) : ClassFile where
  minorVersion := 0
  majorVersion := 65
  constantPool := pool
  accessFlags := fl
  thisClass := this
  superClass := sup
  interfaces := ifs
  fields := fds
  methods := ms
  attributes := attrs
def plain (name : String) (sup : Option ClassId) : Class where
  name := name
  kind := .ordinary
  loader := none
  accessFlags := 33
  super := sup
  interfaces := #[]
  cf := none
  fields := #[]
  methods := #[]
  instanceTypes := #[]
  staticTypes := #[]
  resolved := #[]
  callSites := []
  init := .initialized
  statics := none
  mirror := none

def pool0 : Array CpInfo := pool [(5, u "<init>"), (0, u "()V"), (1, .class_ 10), (1, u "java/lang/Object")] 113

def k0c0 : Code := { maxStack := 0, maxLocals := 1, code := object_method_1_code, exceptionTable := #[], attributes := #[] }
def k0m0 : Method := { name := "<init>", desc := "()V", sig := { parameters := [], returnType := none }, accessFlags := 1, code := some k0c0 }
/-- java/lang/Object -/
def k0 : Class := { plain "java/lang/Object" none with
  accessFlags := 33
  interfaces := #[]
  cf := some (fileOf pool0 8 #[] #[{ accessFlags := 1, nameIndex := 5, descriptorIndex := 6, attributes := #[] }] 33 0 #[] #[])
  fields := #[]
  methods := #[k0m0]
  instanceTypes := #[]
  staticTypes := #[]
  resolved := Array.replicate 124 none
  statics := none }

def pool1 : Array CpInfo := pool [(2, .class_ 4), (1, u "java/lang/Object"), (0, u "<init>"), (0, u "()V"), (0, .methodref 8 9), (0, .class_ 10), (0, .nameAndType 11 12), (0, u "com/example/profile_to_target/profiletotarget/SfrIdToStringPinLaw"), (0, u "make"), (0, u "(ICC)Ljava/lang/String;"), (0, .class_ 14), (0, u "com/example/profile_to_target/profiletotarget/SfrId"), (0, .methodref 13 16), (0, .nameAndType 5 17), (0, u "(Ljava/lang/String;Ljava/lang/String;)V"), (0, .methodref 13 19), (0, .nameAndType 20 21), (0, u "toString"), (0, u "()Ljava/lang/String;"), (0, .methodref 23 24), (0, .class_ 25), (0, .nameAndType 26 27), (0, u "java/lang/String"), (0, u "equals"), (0, u "(Ljava/lang/Object;)Z"), (0, .methodref 23 29), (0, .nameAndType 30 31), (0, u "length"), (0, u "()I"), (0, .methodref 8 33), (0, .nameAndType 34 35), (0, u "at"), (0, u "(Ljava/lang/String;IICCCC)Z"), (0, .methodref 23 37), (0, .nameAndType 5 38), (0, u "([C)V"), (0, .methodref 23 40), (0, .nameAndType 41 42), (0, u "valueOf"), (0, u "(C)Ljava/lang/String;"), (0, .methodref 23 44), (0, .nameAndType 45 46), (0, u "charAt"), (0, u "(I)C"), (2, u "law"), (0, u "(III)Z")] 3

def k1m0 : Method := { name := "<init>", desc := "()V", sig := { parameters := [], returnType := none }, accessFlags := 1, code := none }
def k1c1 : Code := { maxStack := 7, maxLocals := 14, code := code, exceptionTable := #[], attributes := #[] }
def k1m1 : Method := { name := "law", desc := "(III)Z", sig := { parameters := [.int, .int, .int], returnType := some .boolean }, accessFlags := 9, code := some k1c1 }
def k1c2 : Code := { maxStack := 6, maxLocals := 3, code := method_3_code, exceptionTable := #[], attributes := #[] }
def k1m2 : Method := { name := "make", desc := "(ICC)Ljava/lang/String;", sig := { parameters := [.int, .char, .char], returnType := some (.object "java/lang/String") }, accessFlags := 10, code := some k1c2 }
def k1c3 : Code := { maxStack := 2, maxLocals := 8, code := method_4_code, exceptionTable := #[], attributes := #[] }
def k1m3 : Method := { name := "at", desc := "(Ljava/lang/String;IICCCC)Z", sig := { parameters := [(.object "java/lang/String"), .int, .int, .char, .char, .char, .char], returnType := some .boolean }, accessFlags := 10, code := some k1c3 }
/-- com/example/profile_to_target/profiletotarget/SfrIdToStringPinLaw -/
def k1 : Class := { plain "com/example/profile_to_target/profiletotarget/SfrIdToStringPinLaw" (some 0) with
  accessFlags := 49
  interfaces := #[]
  cf := some (fileOf pool1 8 #[] #[{ accessFlags := 1, nameIndex := 5, descriptorIndex := 6, attributes := #[] }, { accessFlags := 9, nameIndex := 49, descriptorIndex := 50, attributes := #[] }, { accessFlags := 10, nameIndex := 11, descriptorIndex := 12, attributes := #[] }, { accessFlags := 10, nameIndex := 34, descriptorIndex := 35, attributes := #[] }] 49 2 #[] #[])
  fields := #[]
  methods := #[k1m0, k1m1, k1m2, k1m3]
  instanceTypes := #[]
  staticTypes := #[]
  resolved := Array.replicate 54 none
  statics := none }

def pool2 : Array CpInfo := pool [(1, .class_ 2), (0, u "java/io/Serializable"), (0, .class_ 4), (0, u "java/lang/Object")] 2

/-- java/io/Serializable -/
def k2 : Class := { plain "java/io/Serializable" (some 0) with
  accessFlags := 1537
  interfaces := #[]
  cf := some (fileOf pool2 1 #[] #[] 1537 3 #[] #[])
  fields := #[]
  methods := #[]
  instanceTypes := #[]
  staticTypes := #[]
  resolved := Array.replicate 7 none
  statics := none }

def pool3 : Array CpInfo := pool [(1, .class_ 2), (0, u "java/lang/Comparable"), (0, .class_ 4), (0, u "java/lang/Object")] 7

/-- java/lang/Comparable -/
def k3 : Class := { plain "java/lang/Comparable" (some 0) with
  accessFlags := 1537
  interfaces := #[]
  cf := some (fileOf pool3 1 #[] #[] 1537 3 #[] #[])
  fields := #[]
  methods := #[]
  instanceTypes := #[]
  staticTypes := #[]
  resolved := Array.replicate 12 none
  statics := none }

def pool4 : Array CpInfo := pool [(2, .class_ 4), (1, u "java/lang/CharSequence"), (42, .class_ 48), (0, u "java/lang/CharSequence$1CodePointIterator"), (10, .class_ 60), (0, u "java/lang/CharSequence$1CharIterator"), (5, .class_ 67), (0, u "java/lang/Object")] 63

/-- java/lang/CharSequence -/
def k4 : Class := { plain "java/lang/CharSequence" (some 0) with
  accessFlags := 1537
  interfaces := #[]
  cf := some (fileOf pool4 2 #[.nestMembers #[47, 59]] #[] 1537 66 #[] #[])
  fields := #[]
  methods := #[]
  instanceTypes := #[]
  staticTypes := #[]
  resolved := Array.replicate 131 none
  statics := none }

def pool5 : Array CpInfo := pool [(1, .class_ 2), (0, u "java/lang/constant/Constable"), (0, .class_ 4), (0, u "java/lang/Object")] 6

/-- java/lang/constant/Constable -/
def k5 : Class := { plain "java/lang/constant/Constable" (some 0) with
  accessFlags := 1537
  interfaces := #[]
  cf := some (fileOf pool5 1 #[] #[] 1537 3 #[] #[])
  fields := #[]
  methods := #[]
  instanceTypes := #[]
  staticTypes := #[]
  resolved := Array.replicate 11 none
  statics := none }

def pool6 : Array CpInfo := pool [(1, .class_ 2), (0, u "java/lang/constant/ConstantDesc"), (0, .class_ 4), (0, u "java/lang/Object")] 32

/-- java/lang/constant/ConstantDesc -/
def k6 : Class := { plain "java/lang/constant/ConstantDesc" (some 0) with
  accessFlags := 1537
  interfaces := #[]
  cf := some (fileOf pool6 1 #[] #[] 1537 3 #[] #[])
  fields := #[]
  methods := #[]
  instanceTypes := #[]
  staticTypes := #[]
  resolved := Array.replicate 37 none
  statics := none }

def pool7 : Array CpInfo := pool [(1, .methodref 2 3), (0, .class_ 4), (0, .nameAndType 5 6), (0, u "java/lang/Object"), (0, u "<init>"), (0, u "()V"), (0, .string 8), (0, u ""), (0, .fieldref 10 11), (0, .class_ 12), (0, .nameAndType 13 14), (0, u "java/lang/String"), (0, u "value"), (0, u "[B"), (0, .fieldref 10 16), (0, .nameAndType 17 18), (0, u "coder"), (0, u "B"), (2, u "hash"), (0, u "I"), (2, u "hashIsZero"), (0, u "Z"), (0, .methodref 10 28), (0, .nameAndType 5 29), (0, u "([CIILjava/lang/Void;)V"), (8, .fieldref 10 39), (0, .nameAndType 40 26), (0, u "COMPACT_STRINGS"), (1, .class_ 44), (1, u "java/lang/StringUTF16"), (0, u "compress"), (1, .methodref 42 48), (0, .nameAndType 49 50), (0, u "coderFromArrayLen"), (0, u "([BI)B"), (2, u "toBytes"), (0, .methodref 55 56), (0, .class_ 57), (0, .nameAndType 58 59), (0, u "java/util/Arrays"), (0, u "copyOfRange"), (0, u "([BII)[B"), (47, .class_ 109), (1, u "java/lang/StringLatin1"), (32, u "()Z"), (34, .methodref 42 178), (0, .nameAndType 45 179), (0, u "([CII)[B"), (13, .class_ 195), (1, u "java/lang/System"), (13, .methodref 10 210), (0, .nameAndType 5 211), (0, u "([BB)V"), (0, .methodref 193 213), (0, .nameAndType 214 215), (0, u "arraycopy"), (0, u "(Ljava/lang/Object;ILjava/lang/Object;II)V"), (118, u "()I"), (0, .methodref 10 336), (0, .nameAndType 17 337), (0, u "()B"), (2, u "()[B"), (22, u "([BI)C"), (5, u "(C)Z"), (21, u "(II)V"), (35, u "(I)C"), (61, .methodref 10 490), (0, .nameAndType 5 491), (0, u "(Ljava/lang/AbstractStringBuilder;Ljava/lang/Void;)V"), (0, .methodref 10 493), (0, .nameAndType 494 142), (0, u "isLatin1"), (0, .methodref 107 496), (0, .nameAndType 497 363), (0, u "charAt"), (3, u "checkIndex"), (4, .nameAndType 507 334), (0, u "length"), (24, u "getBytes"), (10, u "equals"), (5, .methodref 550 506), (0, .class_ 551), (0, u "java/lang/AbstractStringBuilder"), (0, .methodref 550 553), (0, .nameAndType 554 340), (0, u "getValue"), (18, u "(Ljava/lang/Object;)Z"), (1, .class_ 576), (0, u "java/lang/CharSequence"), (22, u "CASE_INSENSITIVE_ORDER"), (0, u "Ljava/util/Comparator;"), (181, u "valueOf"), (0, u "(C)Ljava/lang/String;"), (37, u "([BIB)V"), (188, u "([C)V"), (4, .methodref 107 1016), (0, .nameAndType 1017 369), (0, u "canEncode"), (0, .methodref 107 1019), (0, .nameAndType 53 1020), (0, u "(C)[B"), (26, .methodref 550 493), (5, .fieldref 1054 1055), (0, .class_ 1056), (0, .nameAndType 1057 1058), (0, u "jdk/internal/util/Preconditions"), (0, u "SIOOBE_FORMATTER"), (0, u "Ljava/util/function/BiFunction;"), (0, .methodref 1054 1060), (0, .nameAndType 501 1061), (0, u "(IILjava/util/function/BiFunction;)I"), (39, u "serialPersistentFields"), (0, u "[Ljava/io/ObjectStreamField;"), (0, .class_ 1104), (0, u "java/lang/String$CaseInsensitiveComparator"), (1, .class_ 1107), (0, u "java/io/Serializable"), (0, .class_ 1109), (0, u "java/lang/Comparable"), (0, .class_ 1111), (0, u "java/lang/constant/Constable"), (0, .class_ 1113), (0, u "java/lang/constant/ConstantDesc"), (2, u "serialVersionUID"), (0, u "J"), (3, u "REPL"), (0, u "C"), (2, u "LATIN1"), (1, u "UTF16"), (105, u "(Ljava/lang/StringBuilder;)V")] 217

def k7m0 : Method := { name := "<init>", desc := "()V", sig := { parameters := [], returnType := none }, accessFlags := 1, code := none }
def k7c1 : Code := { maxStack := 5, maxLocals := 2, code := jdk_42_method_3_code, exceptionTable := #[], attributes := #[] }
def k7m1 : Method := { name := "<init>", desc := "([C)V", sig := { parameters := [(.array .char)], returnType := none }, accessFlags := 1, code := some k7c1 }
def k7c2 : Code := { maxStack := 3, maxLocals := 2, code := jdk_42_method_53_code, exceptionTable := #[], attributes := #[] }
def k7m2 : Method := { name := "<init>", desc := "(Ljava/lang/StringBuilder;)V", sig := { parameters := [(.object "java/lang/StringBuilder")], returnType := none }, accessFlags := 1, code := some k7c2 }
def k7c3 : Code := { maxStack := 2, maxLocals := 1, code := jdk_42_method_54_code, exceptionTable := #[], attributes := #[] }
def k7m3 : Method := { name := "length", desc := "()I", sig := { parameters := [], returnType := some .int }, accessFlags := 1, code := some k7c3 }
def k7c4 : Code := { maxStack := 2, maxLocals := 2, code := jdk_42_method_56_code, exceptionTable := #[], attributes := #[] }
def k7m4 : Method := { name := "charAt", desc := "(I)C", sig := { parameters := [.int], returnType := some .char }, accessFlags := 1, code := some k7c4 }
def k7c5 : Code := { maxStack := 2, maxLocals := 3, code := jdk_42_method_66_code, exceptionTable := #[], attributes := #[] }
def k7m5 : Method := { name := "equals", desc := "(Ljava/lang/Object;)Z", sig := { parameters := [(.object "java/lang/Object")], returnType := some .boolean }, accessFlags := 1, code := some k7c5 }
def k7c6 : Code := { maxStack := 4, maxLocals := 1, code := jdk_42_method_139_code, exceptionTable := #[], attributes := #[] }
def k7m6 : Method := { name := "valueOf", desc := "(C)Ljava/lang/String;", sig := { parameters := [.char], returnType := some (.object "java/lang/String") }, accessFlags := 9, code := some k7c6 }
def k7c7 : Code := { maxStack := 5, maxLocals := 4, code := jdk_42_method_147_code, exceptionTable := #[], attributes := #[] }
def k7m7 : Method := { name := "getBytes", desc := "([BIB)V", sig := { parameters := [(.array .byte), .int, .byte], returnType := none }, accessFlags := 0, code := some k7c7 }
def k7c8 : Code := { maxStack := 4, maxLocals := 6, code := jdk_42_method_149_code, exceptionTable := #[], attributes := #[] }
def k7m8 : Method := { name := "<init>", desc := "([CIILjava/lang/Void;)V", sig := { parameters := [(.array .char), .int, .int, (.object "java/lang/Void")], returnType := none }, accessFlags := 2, code := some k7c8 }
def k7c9 : Code := { maxStack := 5, maxLocals := 5, code := jdk_42_method_150_code, exceptionTable := #[], attributes := #[] }
def k7m9 : Method := { name := "<init>", desc := "(Ljava/lang/AbstractStringBuilder;Ljava/lang/Void;)V", sig := { parameters := [(.object "java/lang/AbstractStringBuilder"), (.object "java/lang/Void")], returnType := none }, accessFlags := 0, code := some k7c9 }
def k7c10 : Code := { maxStack := 2, maxLocals := 3, code := jdk_42_method_151_code, exceptionTable := #[], attributes := #[] }
def k7m10 : Method := { name := "<init>", desc := "([BB)V", sig := { parameters := [(.array .byte), .byte], returnType := none }, accessFlags := 0, code := some k7c10 }
def k7c11 : Code := { maxStack := 1, maxLocals := 1, code := jdk_42_method_152_code, exceptionTable := #[], attributes := #[] }
def k7m11 : Method := { name := "coder", desc := "()B", sig := { parameters := [], returnType := some .byte }, accessFlags := 0, code := some k7c11 }
def k7c12 : Code := { maxStack := 1, maxLocals := 1, code := jdk_42_method_154_code, exceptionTable := #[], attributes := #[] }
def k7m12 : Method := { name := "isLatin1", desc := "()Z", sig := { parameters := [], returnType := some .boolean }, accessFlags := 0, code := some k7c12 }
def k7c13 : Code := { maxStack := 3, maxLocals := 2, code := jdk_42_method_155_code, exceptionTable := #[], attributes := #[] }
def k7m13 : Method := { name := "checkIndex", desc := "(II)V", sig := { parameters := [.int, .int], returnType := none }, accessFlags := 8, code := some k7c13 }
/-- java/lang/String -/
def k7 : Class := { plain "java/lang/String" (some 0) with
  accessFlags := 49
  interfaces := #[2, 3, 4, 5, 6]
  cf := some (fileOf pool7 10 #[.nestMembers #[1103]] #[{ accessFlags := 1, nameIndex := 5, descriptorIndex := 6, attributes := #[] }, { accessFlags := 1, nameIndex := 5, descriptorIndex := 1010, attributes := #[] }, { accessFlags := 1, nameIndex := 5, descriptorIndex := 1233, attributes := #[] }, { accessFlags := 1, nameIndex := 507, descriptorIndex := 334, attributes := #[] }, { accessFlags := 1, nameIndex := 497, descriptorIndex := 427, attributes := #[] }, { accessFlags := 1, nameIndex := 543, descriptorIndex := 573, attributes := #[] }, { accessFlags := 9, nameIndex := 782, descriptorIndex := 783, attributes := #[] }, { accessFlags := 0, nameIndex := 532, descriptorIndex := 821, attributes := #[] }, { accessFlags := 2, nameIndex := 5, descriptorIndex := 29, attributes := #[] }, { accessFlags := 0, nameIndex := 5, descriptorIndex := 491, attributes := #[] }, { accessFlags := 0, nameIndex := 5, descriptorIndex := 211, attributes := #[] }, { accessFlags := 0, nameIndex := 17, descriptorIndex := 337, attributes := #[] }, { accessFlags := 0, nameIndex := 494, descriptorIndex := 142, attributes := #[] }, { accessFlags := 8, nameIndex := 501, descriptorIndex := 391, attributes := #[] }] 49 2 #[1106, 1108, 575, 1110, 1112] #[{ accessFlags := 18, nameIndex := 13, descriptorIndex := 14, attributes := #[] }, { accessFlags := 18, nameIndex := 17, descriptorIndex := 18, attributes := #[] }, { accessFlags := 2, nameIndex := 21, descriptorIndex := 22, attributes := #[] }, { accessFlags := 2, nameIndex := 25, descriptorIndex := 26, attributes := #[] }, { accessFlags := 26, nameIndex := 1116, descriptorIndex := 1117, attributes := #[] }, { accessFlags := 24, nameIndex := 40, descriptorIndex := 26, attributes := #[] }, { accessFlags := 26, nameIndex := 1101, descriptorIndex := 1102, attributes := #[] }, { accessFlags := 26, nameIndex := 1121, descriptorIndex := 1122, attributes := #[] }, { accessFlags := 25, nameIndex := 599, descriptorIndex := 600, attributes := #[] }, { accessFlags := 24, nameIndex := 1125, descriptorIndex := 18, attributes := #[] }, { accessFlags := 24, nameIndex := 1127, descriptorIndex := 18, attributes := #[] }])
  fields := #[{ name := "value", type := (.array .byte), accessFlags := 18, slot := 0, constantValue := 0 }, { name := "coder", type := .byte, accessFlags := 18, slot := 1, constantValue := 0 }, { name := "hash", type := .int, accessFlags := 2, slot := 2, constantValue := 0 }, { name := "hashIsZero", type := .boolean, accessFlags := 2, slot := 3, constantValue := 0 }, { name := "serialVersionUID", type := .long, accessFlags := 26, slot := 0, constantValue := 0 }, { name := "COMPACT_STRINGS", type := .boolean, accessFlags := 24, slot := 1, constantValue := 0 }, { name := "serialPersistentFields", type := (.array (.object "java/io/ObjectStreamField")), accessFlags := 26, slot := 2, constantValue := 0 }, { name := "REPL", type := .char, accessFlags := 26, slot := 3, constantValue := 0 }, { name := "CASE_INSENSITIVE_ORDER", type := (.object "java/util/Comparator"), accessFlags := 25, slot := 4, constantValue := 0 }, { name := "LATIN1", type := .byte, accessFlags := 24, slot := 5, constantValue := 0 }, { name := "UTF16", type := .byte, accessFlags := 24, slot := 6, constantValue := 0 }]
  methods := #[k7m0, k7m1, k7m2, k7m3, k7m4, k7m5, k7m6, k7m7, k7m8, k7m9, k7m10, k7m11, k7m12, k7m13]
  instanceTypes := #[(.array .byte), .byte, .int, .boolean]
  staticTypes := #[.long, .boolean, (.array (.object "java/io/ObjectStreamField")), .char, (.object "java/util/Comparator"), .byte, .byte]
  resolved := Array.replicate 1451 none
  statics := some 0 }

def pool8 : Array CpInfo := pool [(6, .class_ 8), (1, u "java/lang/Object"), (0, u "<init>"), (0, u "()V"), (1, .class_ 14), (1, u "java/lang/StringUTF16"), (31, u "$assertionsDisabled"), (0, u "Z"), (13, u "HI_BYTE_SHIFT"), (0, u "I"), (2, u "LO_BYTE_SHIFT"), (49, .methodref 12 116), (0, .nameAndType 117 118), (0, u "compress"), (0, u "([CI[BII)I"), (3, u "([CII)[B"), (138, u "coderFromArrayLen"), (0, u "([BI)B"), (106, .class_ 371), (1, u "java/lang/StringUTF16$LinesSpliterator"), (58, u "MAX_LENGTH"), (196, .class_ 628), (0, u "java/lang/StringUTF16$CodePointsSpliterator"), (0, .class_ 630), (0, u "java/lang/StringUTF16$CharsSpliterator")] 4

def k8m0 : Method := { name := "<init>", desc := "()V", sig := { parameters := [], returnType := none }, accessFlags := 0, code := none }
def k8c1 : Code := { maxStack := 2, maxLocals := 2, code := jdk_52_method_15_code, exceptionTable := #[], attributes := #[] }
def k8m1 : Method := { name := "coderFromArrayLen", desc := "([BI)B", sig := { parameters := [(.array .byte), .int], returnType := some .byte }, accessFlags := 8, code := some k8c1 }
def k8c2 : Code := { maxStack := 5, maxLocals := 6, code := jdk_52_method_16_code, exceptionTable := #[], attributes := #[] }
def k8m2 : Method := { name := "compress", desc := "([CII)[B", sig := { parameters := [(.array .char), .int, .int], returnType := some (.array .byte) }, accessFlags := 9, code := some k8c2 }
def k8c3 : Code := { maxStack := 3, maxLocals := 7, code := jdk_52_method_21_code, exceptionTable := #[], attributes := #[] }
def k8m3 : Method := { name := "compress", desc := "([CI[BII)I", sig := { parameters := [(.array .char), .int, (.array .byte), .int, .int], returnType := some .int }, accessFlags := 9, code := some k8c3 }
/-- java/lang/StringUTF16 -/
def k8 : Class := { plain "java/lang/StringUTF16" (some 0) with
  accessFlags := 48
  interfaces := #[]
  cf := some (fileOf pool8 12 #[.nestMembers #[627, 629, 369]] #[{ accessFlags := 0, nameIndex := 9, descriptorIndex := 10, attributes := #[] }, { accessFlags := 8, nameIndex := 261, descriptorIndex := 262, attributes := #[] }, { accessFlags := 9, nameIndex := 117, descriptorIndex := 122, attributes := #[] }, { accessFlags := 9, nameIndex := 117, descriptorIndex := 118, attributes := #[] }] 48 6 #[] #[{ accessFlags := 26, nameIndex := 61, descriptorIndex := 62, attributes := #[] }, { accessFlags := 26, nameIndex := 65, descriptorIndex := 62, attributes := #[] }, { accessFlags := 24, nameIndex := 430, descriptorIndex := 62, attributes := #[] }, { accessFlags := 4120, nameIndex := 46, descriptorIndex := 47, attributes := #[] }])
  fields := #[{ name := "HI_BYTE_SHIFT", type := .int, accessFlags := 26, slot := 0, constantValue := 0 }, { name := "LO_BYTE_SHIFT", type := .int, accessFlags := 26, slot := 1, constantValue := 0 }, { name := "MAX_LENGTH", type := .int, accessFlags := 24, slot := 2, constantValue := 0 }, { name := "$assertionsDisabled", type := .boolean, accessFlags := 4120, slot := 3, constantValue := 0 }]
  methods := #[k8m0, k8m1, k8m2, k8m3]
  instanceTypes := #[]
  staticTypes := #[.int, .int, .int, .boolean]
  resolved := Array.replicate 635 none
  statics := none }

def pool9 : Array CpInfo := pool [(1, .methodref 2 3), (0, .class_ 4), (0, .nameAndType 5 6), (0, u "java/lang/Object"), (0, u "<init>"), (0, u "()V"), (0, .class_ 8), (0, u "java/lang/Record")] 13

def k9c0 : Code := { maxStack := 1, maxLocals := 1, code := jdk_30_method_1_code, exceptionTable := #[], attributes := #[] }
def k9m0 : Method := { name := "<init>", desc := "()V", sig := { parameters := [], returnType := none }, accessFlags := 4, code := some k9c0 }
/-- java/lang/Record -/
def k9 : Class := { plain "java/lang/Record" (some 0) with
  accessFlags := 1057
  interfaces := #[]
  cf := some (fileOf pool9 7 #[] #[{ accessFlags := 4, nameIndex := 5, descriptorIndex := 6, attributes := #[] }] 1057 2 #[] #[])
  fields := #[]
  methods := #[k9m0]
  instanceTypes := #[]
  staticTypes := #[]
  resolved := Array.replicate 22 none
  statics := none }

def pool10 : Array CpInfo := pool [(1, .methodref 2 3), (0, .class_ 4), (0, .nameAndType 5 6), (0, u "java/lang/Record"), (0, u "<init>"), (0, u "()V"), (0, .fieldref 8 9), (0, .class_ 10), (0, .nameAndType 11 12), (0, u "com/example/profile_to_target/profiletotarget/SfrId"), (0, u "component"), (0, u "Ljava/lang/String;"), (0, .fieldref 8 14), (0, .nameAndType 15 12), (0, u "iteration"), (2, u "SFR_PATTERN"), (0, u "Ljava/util/regex/Pattern;"), (5, u "()Ljava/lang/String;"), (14, .class_ 41), (0, u "java/lang/StringBuilder"), (0, .methodref 40 3), (2, .methodref 40 46), (0, .nameAndType 47 48), (0, u "append"), (0, u "(Ljava/lang/String;)Ljava/lang/StringBuilder;"), (2, .methodref 40 52), (0, .nameAndType 53 25), (0, u "toString"), (9, u "(Ljava/lang/String;Ljava/lang/String;)V"), (0, .string 65), (0, u "/")] 44

def k10c0 : Code := { maxStack := 2, maxLocals := 3, code := prog_3_method_1_code, exceptionTable := #[], attributes := #[] }
def k10m0 : Method := { name := "<init>", desc := "(Ljava/lang/String;Ljava/lang/String;)V", sig := { parameters := [(.object "java/lang/String"), (.object "java/lang/String")], returnType := none }, accessFlags := 1, code := some k10c0 }
def k10c1 : Code := { maxStack := 2, maxLocals := 1, code := prog_3_method_3_code, exceptionTable := #[], attributes := #[] }
def k10m1 : Method := { name := "toString", desc := "()Ljava/lang/String;", sig := { parameters := [], returnType := some (.object "java/lang/String") }, accessFlags := 1, code := some k10c1 }
/-- com/example/profile_to_target/profiletotarget/SfrId -/
def k10 : Class := { plain "com/example/profile_to_target/profiletotarget/SfrId" (some 9) with
  accessFlags := 49
  interfaces := #[]
  cf := some (fileOf pool10 8 #[] #[{ accessFlags := 1, nameIndex := 5, descriptorIndex := 63, attributes := #[] }, { accessFlags := 1, nameIndex := 53, descriptorIndex := 25, attributes := #[] }] 49 2 #[] #[{ accessFlags := 18, nameIndex := 11, descriptorIndex := 12, attributes := #[] }, { accessFlags := 18, nameIndex := 15, descriptorIndex := 12, attributes := #[] }, { accessFlags := 26, nameIndex := 18, descriptorIndex := 19, attributes := #[] }])
  fields := #[{ name := "component", type := (.object "java/lang/String"), accessFlags := 18, slot := 0, constantValue := 0 }, { name := "iteration", type := (.object "java/lang/String"), accessFlags := 18, slot := 1, constantValue := 0 }, { name := "SFR_PATTERN", type := (.object "java/util/regex/Pattern"), accessFlags := 26, slot := 0, constantValue := 0 }]
  methods := #[k10m0, k10m1]
  instanceTypes := #[(.object "java/lang/String"), (.object "java/lang/String")]
  staticTypes := #[(.object "java/util/regex/Pattern")]
  resolved := Array.replicate 110 none
  statics := none }

def pool11 : Array CpInfo := pool [(1, .class_ 2), (0, u "java/lang/String"), (1, .class_ 6), (1, u "java/lang/Object"), (0, u "<init>"), (0, u "()V"), (0, .methodref 1 10), (0, .nameAndType 11 12), (0, u "checkIndex"), (0, u "(II)V"), (1, .class_ 16), (1, u "java/lang/StringLatin1"), (36, u "([BI)C"), (36, u "canEncode"), (14, u "(C)Z"), (15, u "$assertionsDisabled"), (0, u "Z"), (98, .class_ 223), (1, u "java/lang/StringLatin1$LinesSpliterator"), (28, u "charAt"), (127, u "toBytes"), (1, u "(C)[B"), (7, .class_ 391), (0, u "java/lang/StringLatin1$CharsSpliterator")] 3

def k11m0 : Method := { name := "<init>", desc := "()V", sig := { parameters := [], returnType := none }, accessFlags := 0, code := none }
def k11c1 : Code := { maxStack := 2, maxLocals := 2, code := jdk_43_method_2_code, exceptionTable := #[], attributes := #[] }
def k11m1 : Method := { name := "charAt", desc := "([BI)C", sig := { parameters := [(.array .byte), .int], returnType := some .char }, accessFlags := 9, code := some k11c1 }
def k11c2 : Code := { maxStack := 2, maxLocals := 1, code := jdk_43_method_3_code, exceptionTable := #[], attributes := #[] }
def k11m2 : Method := { name := "canEncode", desc := "(C)Z", sig := { parameters := [.char], returnType := some .boolean }, accessFlags := 9, code := some k11c2 }
def k11c3 : Code := { maxStack := 4, maxLocals := 1, code := jdk_43_method_46_code, exceptionTable := #[], attributes := #[] }
def k11m3 : Method := { name := "toBytes", desc := "(C)[B", sig := { parameters := [.char], returnType := some (.array .byte) }, accessFlags := 9, code := some k11c3 }
/-- java/lang/StringLatin1 -/
def k11 : Class := { plain "java/lang/StringLatin1" (some 0) with
  accessFlags := 48
  interfaces := #[]
  cf := some (fileOf pool11 14 #[.nestMembers #[390, 221]] #[{ accessFlags := 0, nameIndex := 7, descriptorIndex := 8, attributes := #[] }, { accessFlags := 9, nameIndex := 252, descriptorIndex := 53, attributes := #[] }, { accessFlags := 9, nameIndex := 90, descriptorIndex := 105, attributes := #[] }, { accessFlags := 9, nameIndex := 380, descriptorIndex := 382, attributes := #[] }] 48 4 #[] #[{ accessFlags := 4120, nameIndex := 121, descriptorIndex := 122, attributes := #[] }])
  fields := #[{ name := "$assertionsDisabled", type := .boolean, accessFlags := 4120, slot := 0, constantValue := 0 }]
  methods := #[k11m0, k11m1, k11m2, k11m3]
  instanceTypes := #[]
  staticTypes := #[.boolean]
  resolved := Array.replicate 395 none
  statics := none }

def pool12 : Array CpInfo := pool [(1, .class_ 2), (0, u "java/lang/Appendable"), (0, .class_ 4), (0, u "java/lang/Object")] 9

/-- java/lang/Appendable -/
def k12 : Class := { plain "java/lang/Appendable" (some 0) with
  accessFlags := 1537
  interfaces := #[]
  cf := some (fileOf pool12 1 #[] #[] 1537 3 #[] #[])
  fields := #[]
  methods := #[]
  instanceTypes := #[]
  staticTypes := #[]
  resolved := Array.replicate 14 none
  statics := none }

def pool13 : Array CpInfo := pool [(1, .class_ 2), (0, u "java/lang/String"), (0, .methodref 4 5), (0, .class_ 6), (0, .nameAndType 7 8), (0, u "java/lang/Object"), (0, u "<init>"), (0, u "()V"), (1, .class_ 12), (1, u "java/lang/AbstractStringBuilder"), (0, u "EMPTYVALUE"), (0, u "[B"), (0, .fieldref 10 16), (0, .nameAndType 17 14), (0, u "value"), (0, .fieldref 1 19), (0, .nameAndType 20 21), (0, u "COMPACT_STRINGS"), (0, u "Z"), (0, .fieldref 10 23), (0, .nameAndType 24 25), (0, u "coder"), (0, u "B"), (6, .methodref 1 33), (0, .nameAndType 34 35), (0, u "length"), (0, u "()I"), (4, .methodref 1 41), (0, .nameAndType 24 42), (0, u "()B"), (2, u "append"), (0, u "(Ljava/lang/String;)Ljava/lang/AbstractStringBuilder;"), (1, .class_ 49), (0, u "java/lang/CharSequence"), (19, u "(Ljava/lang/String;)V"), (5, u "maybeLatin1"), (3, .fieldref 10 80), (0, .nameAndType 81 82), (0, u "count"), (0, u "I"), (2, u "isLatin1"), (0, u "()Z"), (13, .methodref 10 101), (0, .nameAndType 102 103), (0, u "ensureCapacityInternal"), (0, u "(I)V"), (104, .methodref 10 209), (0, .nameAndType 210 211), (0, u "putStringAt"), (0, u "(ILjava/lang/String;)V"), (5, u "inflateIfNeededFor"), (2, .nameAndType 221 222), (0, u "getBytes"), (0, u "([BIB)V"), (174, .methodref 10 398), (0, .nameAndType 217 69), (0, .methodref 1 220), (3, u "()[B"), (40, .class_ 445), (0, u "java/lang/Appendable"), (106, u "getValue")] 56

def k13m0 : Method := { name := "<init>", desc := "()V", sig := { parameters := [], returnType := none }, accessFlags := 0, code := none }
def k13c1 : Code := { maxStack := 2, maxLocals := 2, code := jdk_68_method_2_code, exceptionTable := #[], attributes := #[] }
def k13m1 : Method := { name := "<init>", desc := "(I)V", sig := { parameters := [.int], returnType := none }, accessFlags := 0, code := some k13c1 }
def k13c2 : Code := { maxStack := 1, maxLocals := 1, code := jdk_68_method_6_code, exceptionTable := #[], attributes := #[] }
def k13m2 : Method := { name := "length", desc := "()I", sig := { parameters := [], returnType := some .int }, accessFlags := 1, code := some k13c2 }
def k13c3 : Code := { maxStack := 4, maxLocals := 3, code := jdk_68_method_9_code, exceptionTable := #[], attributes := #[] }
def k13m3 : Method := { name := "ensureCapacityInternal", desc := "(I)V", sig := { parameters := [.int], returnType := none }, accessFlags := 2, code := some k13c3 }
def k13c4 : Code := { maxStack := 3, maxLocals := 3, code := jdk_68_method_22_code, exceptionTable := #[], attributes := #[] }
def k13m4 : Method := { name := "append", desc := "(Ljava/lang/String;)Ljava/lang/AbstractStringBuilder;", sig := { parameters := [(.object "java/lang/String")], returnType := some (.object "java/lang/AbstractStringBuilder") }, accessFlags := 1, code := some k13c4 }
def k13c5 : Code := { maxStack := 1, maxLocals := 1, code := jdk_68_method_64_code, exceptionTable := #[], attributes := #[] }
def k13m5 : Method := { name := "getValue", desc := "()[B", sig := { parameters := [], returnType := some (.array .byte) }, accessFlags := 16, code := some k13c5 }
def k13c6 : Code := { maxStack := 1, maxLocals := 1, code := jdk_68_method_68_code, exceptionTable := #[], attributes := #[] }
def k13m6 : Method := { name := "isLatin1", desc := "()Z", sig := { parameters := [], returnType := some .boolean }, accessFlags := 16, code := some k13c6 }
def k13c7 : Code := { maxStack := 2, maxLocals := 2, code := jdk_68_method_71_code, exceptionTable := #[], attributes := #[] }
def k13m7 : Method := { name := "inflateIfNeededFor", desc := "(Ljava/lang/String;)V", sig := { parameters := [(.object "java/lang/String")], returnType := none }, accessFlags := 2, code := some k13c7 }
def k13c8 : Code := { maxStack := 4, maxLocals := 3, code := jdk_68_method_73_code, exceptionTable := #[], attributes := #[] }
def k13m8 : Method := { name := "putStringAt", desc := "(ILjava/lang/String;)V", sig := { parameters := [.int, (.object "java/lang/String")], returnType := none }, accessFlags := 2, code := some k13c8 }
/-- java/lang/AbstractStringBuilder -/
def k13 : Class := { plain "java/lang/AbstractStringBuilder" (some 0) with
  accessFlags := 1056
  interfaces := #[12, 4]
  cf := some (fileOf pool13 10 #[] #[{ accessFlags := 0, nameIndex := 7, descriptorIndex := 8, attributes := #[] }, { accessFlags := 0, nameIndex := 7, descriptorIndex := 103, attributes := #[] }, { accessFlags := 1, nameIndex := 34, descriptorIndex := 35, attributes := #[] }, { accessFlags := 2, nameIndex := 102, descriptorIndex := 103, attributes := #[] }, { accessFlags := 1, nameIndex := 45, descriptorIndex := 46, attributes := #[] }, { accessFlags := 16, nameIndex := 552, descriptorIndex := 403, attributes := #[] }, { accessFlags := 16, nameIndex := 85, descriptorIndex := 86, attributes := #[] }, { accessFlags := 2, nameIndex := 217, descriptorIndex := 69, attributes := #[] }, { accessFlags := 2, nameIndex := 210, descriptorIndex := 211, attributes := #[] }] 1056 4 #[444, 48] #[{ accessFlags := 0, nameIndex := 17, descriptorIndex := 14, attributes := #[] }, { accessFlags := 0, nameIndex := 24, descriptorIndex := 25, attributes := #[] }, { accessFlags := 0, nameIndex := 75, descriptorIndex := 21, attributes := #[] }, { accessFlags := 0, nameIndex := 81, descriptorIndex := 82, attributes := #[] }, { accessFlags := 26, nameIndex := 13, descriptorIndex := 14, attributes := #[] }])
  fields := #[{ name := "value", type := (.array .byte), accessFlags := 0, slot := 0, constantValue := 0 }, { name := "coder", type := .byte, accessFlags := 0, slot := 1, constantValue := 0 }, { name := "maybeLatin1", type := .boolean, accessFlags := 0, slot := 2, constantValue := 0 }, { name := "count", type := .int, accessFlags := 0, slot := 3, constantValue := 0 }, { name := "EMPTYVALUE", type := (.array .byte), accessFlags := 26, slot := 0, constantValue := 0 }]
  methods := #[k13m0, k13m1, k13m2, k13m3, k13m4, k13m5, k13m6, k13m7, k13m8]
  instanceTypes := #[(.array .byte), .byte, .boolean, .int]
  staticTypes := #[(.array .byte)]
  resolved := Array.replicate 609 none
  statics := none }

def pool14 : Array CpInfo := pool [(1, .methodref 2 3), (0, .class_ 4), (0, .nameAndType 5 6), (0, u "java/lang/AbstractStringBuilder"), (0, u "<init>"), (0, u "(I)V"), (11, .class_ 20), (1, u "java/lang/String"), (3, .class_ 26), (1, u "java/lang/StringBuilder"), (0, u "append"), (0, u "(Ljava/lang/String;)Ljava/lang/StringBuilder;"), (0, .methodref 2 30), (0, .nameAndType 27 31), (0, u "(Ljava/lang/String;)Ljava/lang/AbstractStringBuilder;"), (105, .methodref 18 138), (0, .nameAndType 5 139), (0, u "(Ljava/lang/StringBuilder;)V"), (5, u "()V"), (10, u "()I"), (186, .methodref 2 344), (0, .nameAndType 345 156), (0, u "length"), (3, .class_ 350), (0, u "java/lang/Appendable"), (0, .class_ 352), (0, u "java/io/Serializable"), (0, .class_ 354), (0, u "java/lang/Comparable"), (0, .class_ 356), (0, u "java/lang/CharSequence"), (0, u "serialVersionUID"), (0, u "J"), (40, u "toString"), (0, u "()Ljava/lang/String;")] 21

def k14c0 : Code := { maxStack := 2, maxLocals := 1, code := jdk_67_method_1_code, exceptionTable := #[], attributes := #[] }
def k14m0 : Method := { name := "<init>", desc := "()V", sig := { parameters := [], returnType := none }, accessFlags := 1, code := some k14c0 }
def k14c1 : Code := { maxStack := 2, maxLocals := 2, code := jdk_67_method_7_code, exceptionTable := #[], attributes := #[] }
def k14m1 : Method := { name := "append", desc := "(Ljava/lang/String;)Ljava/lang/StringBuilder;", sig := { parameters := [(.object "java/lang/String")], returnType := some (.object "java/lang/StringBuilder") }, accessFlags := 1, code := some k14c1 }
def k14c2 : Code := { maxStack := 3, maxLocals := 1, code := jdk_67_method_42_code, exceptionTable := #[], attributes := #[] }
def k14m2 : Method := { name := "toString", desc := "()Ljava/lang/String;", sig := { parameters := [], returnType := some (.object "java/lang/String") }, accessFlags := 1, code := some k14c2 }
def k14c3 : Code := { maxStack := 1, maxLocals := 1, code := jdk_67_method_93_code, exceptionTable := #[], attributes := #[] }
def k14m3 : Method := { name := "length", desc := "()I", sig := { parameters := [], returnType := some .int }, accessFlags := 4161, code := some k14c3 }
/-- java/lang/StringBuilder -/
def k14 : Class := { plain "java/lang/StringBuilder" (some 13) with
  accessFlags := 49
  interfaces := #[12, 2, 3, 4]
  cf := some (fileOf pool14 24 #[] #[{ accessFlags := 1, nameIndex := 5, descriptorIndex := 145, attributes := #[] }, { accessFlags := 1, nameIndex := 27, descriptorIndex := 28, attributes := #[] }, { accessFlags := 1, nameIndex := 399, descriptorIndex := 400, attributes := #[] }, { accessFlags := 4161, nameIndex := 345, descriptorIndex := 156, attributes := #[] }] 49 2 #[349, 351, 353, 355] #[{ accessFlags := 24, nameIndex := 357, descriptorIndex := 358, attributes := #[] }])
  fields := #[{ name := "serialVersionUID", type := .long, accessFlags := 24, slot := 0, constantValue := 0 }]
  methods := #[k14m0, k14m1, k14m2, k14m3]
  instanceTypes := #[(.array .byte), .byte, .boolean, .int]
  staticTypes := #[.long]
  resolved := Array.replicate 422 none
  statics := none }

def pool15 : Array CpInfo := pool [(2, .class_ 4), (1, u "java/lang/Object"), (0, u "<init>"), (0, u "()V"), (1, .class_ 10), (1, u "java/lang/System"), (0, u "allowSecurityManager"), (0, u "I"), (16, u "cons"), (0, u "Ljava/io/Console;"), (77, .class_ 110), (1, u "java/lang/System$CallersHolder"), (43, u "initialErrStream"), (0, u "Ljava/io/PrintStream;"), (19, u "security"), (0, u "Ljava/lang/SecurityManager;"), (31, .class_ 209), (0, u "java/lang/System$1"), (7, u "props"), (0, u "Ljava/util/Properties;"), (2, u "lineSeparator"), (0, u "Ljava/lang/String;"), (96, .class_ 321), (1, u "java/lang/System$LoggerFinder"), (5, .class_ 328), (0, u "java/lang/System$Logger"), (67, u "err"), (2, u "out"), (91, u "notSupportedJnuEncoding"), (15, u "in"), (17, u "initialIn"), (0, u "Ljava/io/InputStream;"), (35, u "bootLayer"), (0, u "Ljava/lang/ModuleLayer;"), (99, .class_ 664), (0, u "java/lang/System$2"), (9, u "NEVER"), (2, u "MAYBE"), (49, u "arraycopy"), (0, u "(Ljava/lang/Object;ILjava/lang/Object;II)V"), (72, .class_ 802), (0, u "java/lang/System$Logger$Level")] 31

def k15m0 : Method := { name := "<init>", desc := "()V", sig := { parameters := [], returnType := none }, accessFlags := 2, code := none }
def k15m1 : Method := { name := "arraycopy", desc := "(Ljava/lang/Object;ILjava/lang/Object;II)V", sig := { parameters := [(.object "java/lang/Object"), .int, (.object "java/lang/Object"), .int, .int], returnType := none }, accessFlags := 265, code := none }
/-- java/lang/System -/
def k15 : Class := { plain "java/lang/System" (some 0) with
  accessFlags := 49
  interfaces := #[]
  cf := some (fileOf pool15 8 #[.nestMembers #[319, 327, 801, 108, 663, 208]] #[{ accessFlags := 2, nameIndex := 5, descriptorIndex := 6, attributes := #[] }, { accessFlags := 265, nameIndex := 727, descriptorIndex := 728, attributes := #[] }] 49 2 #[] #[{ accessFlags := 25, nameIndex := 507, descriptorIndex := 526, attributes := #[] }, { accessFlags := 25, nameIndex := 399, descriptorIndex := 155, attributes := #[] }, { accessFlags := 25, nameIndex := 396, descriptorIndex := 155, attributes := #[] }, { accessFlags := 10, nameIndex := 525, descriptorIndex := 526, attributes := #[] }, { accessFlags := 26, nameIndex := 674, descriptorIndex := 12, attributes := #[] }, { accessFlags := 26, nameIndex := 677, descriptorIndex := 12, attributes := #[] }, { accessFlags := 10, nameIndex := 11, descriptorIndex := 12, attributes := #[] }, { accessFlags := 74, nameIndex := 175, descriptorIndex := 176, attributes := #[] }, { accessFlags := 10, nameIndex := 491, descriptorIndex := 222, attributes := #[] }, { accessFlags := 74, nameIndex := 29, descriptorIndex := 30, attributes := #[] }, { accessFlags := 74, nameIndex := 154, descriptorIndex := 155, attributes := #[] }, { accessFlags := 10, nameIndex := 217, descriptorIndex := 218, attributes := #[] }, { accessFlags := 10, nameIndex := 221, descriptorIndex := 222, attributes := #[] }, { accessFlags := 8, nameIndex := 562, descriptorIndex := 563, attributes := #[] }])
  fields := #[{ name := "in", type := (.object "java/io/InputStream"), accessFlags := 25, slot := 0, constantValue := 0 }, { name := "out", type := (.object "java/io/PrintStream"), accessFlags := 25, slot := 1, constantValue := 0 }, { name := "err", type := (.object "java/io/PrintStream"), accessFlags := 25, slot := 2, constantValue := 0 }, { name := "initialIn", type := (.object "java/io/InputStream"), accessFlags := 10, slot := 3, constantValue := 0 }, { name := "NEVER", type := .int, accessFlags := 26, slot := 4, constantValue := 0 }, { name := "MAYBE", type := .int, accessFlags := 26, slot := 5, constantValue := 0 }, { name := "allowSecurityManager", type := .int, accessFlags := 10, slot := 6, constantValue := 0 }, { name := "security", type := (.object "java/lang/SecurityManager"), accessFlags := 74, slot := 7, constantValue := 0 }, { name := "notSupportedJnuEncoding", type := (.object "java/lang/String"), accessFlags := 10, slot := 8, constantValue := 0 }, { name := "cons", type := (.object "java/io/Console"), accessFlags := 74, slot := 9, constantValue := 0 }, { name := "initialErrStream", type := (.object "java/io/PrintStream"), accessFlags := 74, slot := 10, constantValue := 0 }, { name := "props", type := (.object "java/util/Properties"), accessFlags := 10, slot := 11, constantValue := 0 }, { name := "lineSeparator", type := (.object "java/lang/String"), accessFlags := 10, slot := 12, constantValue := 0 }, { name := "bootLayer", type := (.object "java/lang/ModuleLayer"), accessFlags := 8, slot := 13, constantValue := 0 }]
  methods := #[k15m0, k15m1]
  instanceTypes := #[]
  staticTypes := #[(.object "java/io/InputStream"), (.object "java/io/PrintStream"), (.object "java/io/PrintStream"), (.object "java/io/InputStream"), .int, .int, .int, (.object "java/lang/SecurityManager"), (.object "java/lang/String"), (.object "java/io/Console"), (.object "java/io/PrintStream"), (.object "java/util/Properties"), (.object "java/lang/String"), (.object "java/lang/ModuleLayer")]
  resolved := Array.replicate 834 none
  statics := none }

def pool16 : Array CpInfo := pool [(2, .class_ 4), (1, u "java/lang/Object"), (0, u "<init>"), (0, u "()V"), (7, .class_ 16), (1, u "java/util/Arrays"), (57, .class_ 76), (1, u "java/util/Arrays$NaturalOrder"), (36, .class_ 115), (1, u "java/util/Arrays$LegacyMergeSort"), (1, u "Z"), (21, u "copyOfRange"), (10, .methodref 151 152), (0, .class_ 153), (0, .nameAndType 154 155), (0, u "java/lang/System"), (0, u "arraycopy"), (0, u "(Ljava/lang/Object;ILjava/lang/Object;II)V"), (148, .methodref 305 306), (0, .class_ 307), (0, .nameAndType 308 309), (0, u "java/lang/Math"), (0, u "min"), (0, u "(II)I"), (29, .methodref 14 340), (0, .nameAndType 341 342), (0, u "copyOfRangeByte"), (0, u "([BII)[B"), (0, .methodref 14 344), (0, .nameAndType 345 346), (0, u "checkLength"), (0, u "(II)V"), (28, .class_ 376), (0, u "java/util/Arrays$ArrayList"), (68, u "$assertionsDisabled"), (269, u "MIN_ARRAY_SORT_GRAN"), (0, u "I"), (2, u "INSERTIONSORT_THRESHOLD"), (255, .class_ 976), (0, u "java/util/Arrays$ArrayItr")] 52

def k16m0 : Method := { name := "<init>", desc := "()V", sig := { parameters := [], returnType := none }, accessFlags := 2, code := none }
def k16c1 : Code := { maxStack := 4, maxLocals := 2, code := jdk_65_method_131_code, exceptionTable := #[], attributes := #[] }
def k16m1 : Method := { name := "checkLength", desc := "(II)V", sig := { parameters := [.int, .int], returnType := none }, accessFlags := 10, code := some k16c1 }
def k16c2 : Code := { maxStack := 3, maxLocals := 3, code := jdk_65_method_132_code, exceptionTable := #[], attributes := #[] }
def k16m2 : Method := { name := "copyOfRange", desc := "([BII)[B", sig := { parameters := [(.array .byte), .int, .int], returnType := some (.array .byte) }, accessFlags := 9, code := some k16c2 }
def k16c3 : Code := { maxStack := 6, maxLocals := 5, code := jdk_65_method_133_code, exceptionTable := #[], attributes := #[] }
def k16m3 : Method := { name := "copyOfRangeByte", desc := "([BII)[B", sig := { parameters := [(.array .byte), .int, .int], returnType := some (.array .byte) }, accessFlags := 10, code := some k16c3 }
/-- java/util/Arrays -/
def k16 : Class := { plain "java/util/Arrays" (some 0) with
  accessFlags := 49
  interfaces := #[]
  cf := some (fileOf pool16 14 #[.nestMembers #[975, 375, 113, 74]] #[{ accessFlags := 2, nameIndex := 5, descriptorIndex := 6, attributes := #[] }, { accessFlags := 10, nameIndex := 345, descriptorIndex := 346, attributes := #[] }, { accessFlags := 9, nameIndex := 139, descriptorIndex := 342, attributes := #[] }, { accessFlags := 10, nameIndex := 341, descriptorIndex := 342, attributes := #[] }] 49 2 #[] #[{ accessFlags := 26, nameIndex := 715, descriptorIndex := 716, attributes := #[] }, { accessFlags := 26, nameIndex := 719, descriptorIndex := 716, attributes := #[] }, { accessFlags := 4120, nameIndex := 445, descriptorIndex := 117, attributes := #[] }])
  fields := #[{ name := "MIN_ARRAY_SORT_GRAN", type := .int, accessFlags := 26, slot := 0, constantValue := 0 }, { name := "INSERTIONSORT_THRESHOLD", type := .int, accessFlags := 26, slot := 1, constantValue := 0 }, { name := "$assertionsDisabled", type := .boolean, accessFlags := 4120, slot := 2, constantValue := 0 }]
  methods := #[k16m0, k16m1, k16m2, k16m3]
  instanceTypes := #[]
  staticTypes := #[.int, .int, .boolean]
  resolved := Array.replicate 1029 none
  statics := none }

def pool17 : Array CpInfo := pool [(1, .class_ 2), (0, u "java/lang/Math"), (1, .class_ 6), (1, u "java/lang/Object"), (0, u "<init>"), (0, u "()V"), (89, .class_ 100), (1, u "java/lang/Math$RandomNumberGeneratorHolder"), (71, u "negativeZeroFloatBits"), (0, u "J"), (2, u "negativeZeroDoubleBits"), (24, u "min"), (43, u "$assertionsDisabled"), (0, u "Z"), (88, u "(II)I"), (2, u "twoToTheDoubleScaleDown"), (0, u "D"), (4, u "twoToTheDoubleScaleUp"), (9, u "E"), (3, u "PI"), (2, u "TAU"), (2, u "DEGREES_TO_RADIANS"), (0, u "RADIANS_TO_DEGREES")] 94

def k17m0 : Method := { name := "<init>", desc := "()V", sig := { parameters := [], returnType := none }, accessFlags := 2, code := none }
def k17c1 : Code := { maxStack := 2, maxLocals := 2, code := jdk_29_method_69_code, exceptionTable := #[], attributes := #[] }
def k17m1 : Method := { name := "min", desc := "(II)I", sig := { parameters := [.int, .int], returnType := some .int }, accessFlags := 9, code := some k17c1 }
/-- java/lang/Math -/
def k17 : Class := { plain "java/lang/Math" (some 0) with
  accessFlags := 49
  interfaces := #[]
  cf := some (fileOf pool17 1 #[.nestMembers #[98]] #[{ accessFlags := 2, nameIndex := 7, descriptorIndex := 8, attributes := #[] }, { accessFlags := 9, nameIndex := 201, descriptorIndex := 335, attributes := #[] }] 49 4 #[] #[{ accessFlags := 25, nameIndex := 354, descriptorIndex := 339, attributes := #[] }, { accessFlags := 25, nameIndex := 358, descriptorIndex := 339, attributes := #[] }, { accessFlags := 25, nameIndex := 361, descriptorIndex := 339, attributes := #[] }, { accessFlags := 26, nameIndex := 364, descriptorIndex := 339, attributes := #[] }, { accessFlags := 26, nameIndex := 365, descriptorIndex := 339, attributes := #[] }, { accessFlags := 26, nameIndex := 172, descriptorIndex := 173, attributes := #[] }, { accessFlags := 26, nameIndex := 176, descriptorIndex := 173, attributes := #[] }, { accessFlags := 8, nameIndex := 344, descriptorIndex := 339, attributes := #[] }, { accessFlags := 8, nameIndex := 338, descriptorIndex := 339, attributes := #[] }, { accessFlags := 4120, nameIndex := 245, descriptorIndex := 246, attributes := #[] }])
  fields := #[{ name := "E", type := .double, accessFlags := 25, slot := 0, constantValue := 0 }, { name := "PI", type := .double, accessFlags := 25, slot := 1, constantValue := 0 }, { name := "TAU", type := .double, accessFlags := 25, slot := 2, constantValue := 0 }, { name := "DEGREES_TO_RADIANS", type := .double, accessFlags := 26, slot := 3, constantValue := 0 }, { name := "RADIANS_TO_DEGREES", type := .double, accessFlags := 26, slot := 4, constantValue := 0 }, { name := "negativeZeroFloatBits", type := .long, accessFlags := 26, slot := 5, constantValue := 0 }, { name := "negativeZeroDoubleBits", type := .long, accessFlags := 26, slot := 6, constantValue := 0 }, { name := "twoToTheDoubleScaleUp", type := .double, accessFlags := 8, slot := 7, constantValue := 0 }, { name := "twoToTheDoubleScaleDown", type := .double, accessFlags := 8, slot := 8, constantValue := 0 }, { name := "$assertionsDisabled", type := .boolean, accessFlags := 4120, slot := 9, constantValue := 0 }]
  methods := #[k17m0, k17m1]
  instanceTypes := #[]
  staticTypes := #[.double, .double, .double, .double, .double, .long, .long, .double, .double, .boolean]
  resolved := Array.replicate 460 none
  statics := none }

def pool18 : Array CpInfo := pool [(2, .class_ 4), (1, u "java/lang/Object"), (0, u "<init>"), (0, u "()V"), (17, .class_ 26), (1, u "jdk/internal/util/Preconditions"), (6, u "checkIndex"), (21, .class_ 56), (0, u "jdk/internal/util/Preconditions$4"), (57, .class_ 115), (0, u "jdk/internal/util/Preconditions$1"), (7, u "SIOOBE_FORMATTER"), (0, u "Ljava/util/function/BiFunction;"), (0, .class_ 126), (0, u "jdk/internal/util/Preconditions$2"), (3, u "AIOOBE_FORMATTER"), (0, .class_ 132), (0, u "jdk/internal/util/Preconditions$3"), (3, u "IOOBE_FORMATTER"), (41, u "(IILjava/util/function/BiFunction;)I")] 15

def k18m0 : Method := { name := "<init>", desc := "()V", sig := { parameters := [], returnType := none }, accessFlags := 1, code := none }
def k18c1 : Code := { maxStack := 3, maxLocals := 3, code := jdk_41_method_11_code, exceptionTable := #[], attributes := #[] }
def k18m1 : Method := { name := "checkIndex", desc := "(IILjava/util/function/BiFunction;)I", sig := { parameters := [.int, .int, (.object "java/util/function/BiFunction")], returnType := some .int }, accessFlags := 9, code := some k18c1 }
/-- jdk/internal/util/Preconditions -/
def k18 : Class := { plain "jdk/internal/util/Preconditions" (some 0) with
  accessFlags := 33
  interfaces := #[]
  cf := some (fileOf pool18 24 #[.nestMembers #[55, 131, 125, 114]] #[{ accessFlags := 1, nameIndex := 5, descriptorIndex := 6, attributes := #[] }, { accessFlags := 9, nameIndex := 33, descriptorIndex := 178, attributes := #[] }] 33 2 #[] #[{ accessFlags := 25, nameIndex := 123, descriptorIndex := 124, attributes := #[] }, { accessFlags := 25, nameIndex := 130, descriptorIndex := 124, attributes := #[] }, { accessFlags := 25, nameIndex := 136, descriptorIndex := 124, attributes := #[] }])
  fields := #[{ name := "SIOOBE_FORMATTER", type := (.object "java/util/function/BiFunction"), accessFlags := 25, slot := 0, constantValue := 0 }, { name := "AIOOBE_FORMATTER", type := (.object "java/util/function/BiFunction"), accessFlags := 25, slot := 1, constantValue := 0 }, { name := "IOOBE_FORMATTER", type := (.object "java/util/function/BiFunction"), accessFlags := 25, slot := 2, constantValue := 0 }]
  methods := #[k18m0, k18m1]
  instanceTypes := #[]
  staticTypes := #[(.object "java/util/function/BiFunction"), (.object "java/util/function/BiFunction"), (.object "java/util/function/BiFunction")]
  resolved := Array.replicate 194 none
  statics := some 1 }

def pool19 : Array CpInfo := pool [(9, u "<init>"), (6, .class_ 18), (1, u "java/lang/Object"), (0, u "()V"), (1, .class_ 23), (1, u "jdk/internal/util/ArraysSupport"), (0, u "LOG2_ARRAY_LONG_INDEX_SCALE"), (0, u "I"), (2, u "U"), (0, u "Ljdk/internal/misc/Unsafe;"), (8, u "BIG_ENDIAN"), (0, u "Z"), (8, u "LOG2_BYTE_BIT_SIZE"), (4, u "LOG2_ARRAY_INT_INDEX_SCALE"), (54, u "JLA"), (0, u "Ljdk/internal/access/JavaLangAccess;"), (11, u "LOG2_ARRAY_BOOLEAN_INDEX_SCALE"), (9, u "LOG2_ARRAY_BYTE_INDEX_SCALE"), (5, u "LOG2_ARRAY_CHAR_INDEX_SCALE"), (5, u "LOG2_ARRAY_SHORT_INDEX_SCALE"), (18, u "LOG2_ARRAY_FLOAT_INDEX_SCALE"), (24, u "LOG2_ARRAY_DOUBLE_INDEX_SCALE"), (89, u "T_BOOLEAN"), (2, u "T_CHAR"), (1, u "T_FLOAT"), (1, u "T_DOUBLE"), (1, u "T_BYTE"), (1, u "T_SHORT"), (1, u "T_INT"), (1, u "T_LONG"), (1, u "SOFT_MAX_ARRAY_LENGTH")] 83

def k19m0 : Method := { name := "<init>", desc := "()V", sig := { parameters := [], returnType := none }, accessFlags := 2, code := none }
/-- jdk/internal/util/ArraysSupport -/
def k19 : Class := { plain "jdk/internal/util/ArraysSupport" (some 0) with
  accessFlags := 33
  interfaces := #[]
  cf := some (fileOf pool19 21 #[] #[{ accessFlags := 2, nameIndex := 9, descriptorIndex := 19, attributes := #[] }] 33 16 #[] #[{ accessFlags := 24, nameIndex := 28, descriptorIndex := 29, attributes := #[] }, { accessFlags := 26, nameIndex := 38, descriptorIndex := 39, attributes := #[] }, { accessFlags := 25, nameIndex := 121, descriptorIndex := 25, attributes := #[] }, { accessFlags := 25, nameIndex := 131, descriptorIndex := 25, attributes := #[] }, { accessFlags := 25, nameIndex := 137, descriptorIndex := 25, attributes := #[] }, { accessFlags := 25, nameIndex := 143, descriptorIndex := 25, attributes := #[] }, { accessFlags := 25, nameIndex := 53, descriptorIndex := 25, attributes := #[] }, { accessFlags := 25, nameIndex := 24, descriptorIndex := 25, attributes := #[] }, { accessFlags := 25, nameIndex := 162, descriptorIndex := 25, attributes := #[] }, { accessFlags := 25, nameIndex := 187, descriptorIndex := 25, attributes := #[] }, { accessFlags := 26, nameIndex := 48, descriptorIndex := 25, attributes := #[] }, { accessFlags := 25, nameIndex := 277, descriptorIndex := 25, attributes := #[] }, { accessFlags := 25, nameIndex := 280, descriptorIndex := 25, attributes := #[] }, { accessFlags := 25, nameIndex := 282, descriptorIndex := 25, attributes := #[] }, { accessFlags := 25, nameIndex := 284, descriptorIndex := 25, attributes := #[] }, { accessFlags := 25, nameIndex := 286, descriptorIndex := 25, attributes := #[] }, { accessFlags := 25, nameIndex := 288, descriptorIndex := 25, attributes := #[] }, { accessFlags := 25, nameIndex := 290, descriptorIndex := 25, attributes := #[] }, { accessFlags := 25, nameIndex := 292, descriptorIndex := 25, attributes := #[] }, { accessFlags := 26, nameIndex := 108, descriptorIndex := 109, attributes := #[] }, { accessFlags := 25, nameIndex := 294, descriptorIndex := 25, attributes := #[] }])
  fields := #[{ name := "U", type := (.object "jdk/internal/misc/Unsafe"), accessFlags := 24, slot := 0, constantValue := 0 }, { name := "BIG_ENDIAN", type := .boolean, accessFlags := 26, slot := 1, constantValue := 0 }, { name := "LOG2_ARRAY_BOOLEAN_INDEX_SCALE", type := .int, accessFlags := 25, slot := 2, constantValue := 0 }, { name := "LOG2_ARRAY_BYTE_INDEX_SCALE", type := .int, accessFlags := 25, slot := 3, constantValue := 0 }, { name := "LOG2_ARRAY_CHAR_INDEX_SCALE", type := .int, accessFlags := 25, slot := 4, constantValue := 0 }, { name := "LOG2_ARRAY_SHORT_INDEX_SCALE", type := .int, accessFlags := 25, slot := 5, constantValue := 0 }, { name := "LOG2_ARRAY_INT_INDEX_SCALE", type := .int, accessFlags := 25, slot := 6, constantValue := 0 }, { name := "LOG2_ARRAY_LONG_INDEX_SCALE", type := .int, accessFlags := 25, slot := 7, constantValue := 0 }, { name := "LOG2_ARRAY_FLOAT_INDEX_SCALE", type := .int, accessFlags := 25, slot := 8, constantValue := 0 }, { name := "LOG2_ARRAY_DOUBLE_INDEX_SCALE", type := .int, accessFlags := 25, slot := 9, constantValue := 0 }, { name := "LOG2_BYTE_BIT_SIZE", type := .int, accessFlags := 26, slot := 10, constantValue := 0 }, { name := "T_BOOLEAN", type := .int, accessFlags := 25, slot := 11, constantValue := 0 }, { name := "T_CHAR", type := .int, accessFlags := 25, slot := 12, constantValue := 0 }, { name := "T_FLOAT", type := .int, accessFlags := 25, slot := 13, constantValue := 0 }, { name := "T_DOUBLE", type := .int, accessFlags := 25, slot := 14, constantValue := 0 }, { name := "T_BYTE", type := .int, accessFlags := 25, slot := 15, constantValue := 0 }, { name := "T_SHORT", type := .int, accessFlags := 25, slot := 16, constantValue := 0 }, { name := "T_INT", type := .int, accessFlags := 25, slot := 17, constantValue := 0 }, { name := "T_LONG", type := .int, accessFlags := 25, slot := 18, constantValue := 0 }, { name := "JLA", type := (.object "jdk/internal/access/JavaLangAccess"), accessFlags := 26, slot := 19, constantValue := 0 }, { name := "SOFT_MAX_ARRAY_LENGTH", type := .int, accessFlags := 25, slot := 20, constantValue := 0 }]
  methods := #[k19m0]
  instanceTypes := #[]
  staticTypes := #[(.object "jdk/internal/misc/Unsafe"), .boolean, .int, .int, .int, .int, .int, .int, .int, .int, .int, .int, .int, .int, .int, .int, .int, .int, .int, (.object "jdk/internal/access/JavaLangAccess"), .int]
  resolved := Array.replicate 378 none
  statics := none }

def pool20 : Array CpInfo := pool [(1, u "java/lang/Cloneable"), (0, .class_ 1), (0, u "java/lang/Object"), (0, .class_ 3)] 3

/-- java/lang/Cloneable -/
def k20 : Class := { plain "java/lang/Cloneable" (some 0) with
  accessFlags := 1537
  interfaces := #[]
  cf := some (fileOf pool20 2 #[] #[] 1537 4 #[] #[])
  fields := #[]
  methods := #[]
  instanceTypes := #[]
  staticTypes := #[]
  resolved := Array.replicate 8 none
  statics := none }

/-- the primitive byte -/
def k21 : Class := { plain "byte" none with kind := .primitive 'B', accessFlags := 0x411 }
/-- [B -/
def k22 : Class := { plain "[B" (some 0) with kind := .array 21 .byte, interfaces := #[20, 2], accessFlags := 1041 }

/-- the primitive char -/
def k23 : Class := { plain "char" none with kind := .primitive 'C', accessFlags := 0x411 }
/-- [C -/
def k24 : Class := { plain "[C" (some 0) with kind := .array 23 .char, interfaces := #[20, 2], accessFlags := 1041 }

/-- the primitive int -/
def k25 : Class := { plain "int" none with kind := .primitive 'I', accessFlags := 0x411 }
/-- [I -/
def k26 : Class := { plain "[I" (some 0) with kind := .array 25 .int, interfaces := #[20, 2], accessFlags := 1041 }

def heap : Heap := #[{ cls := 7, slots := #[.long 0, .int 1, .null, .int 0, .null, .int 0, .int 0], vm := .statics 7 },
  { cls := 18, slots := #[.null, .null, .null], vm := .statics 18 }]
def classes : Array Class := #[k0, k1, k2, k3, k4, k5, k6, k7, k8, k9, k10, k11, k12, k13, k14, k15, k16, k17, k18, k19, k20, k21, k22, k23, k24, k25, k26]
def interned : List (Array UInt16 × Addr) := []
def slotsUsed : Nat := 10
def theMethod : MethodId := ⟨1, 1⟩
def args0 : Array Value := #[.int 5, .int 7, .int 25]
def aboutOver (below : List Frame) : State where
  vm := { classes := classes, interned := interned.toArray }
  heap := heap
  slotsUsed := slotsUsed
  threads := #[{ frames := .invoking theMethod args0 :: below }]
def below0 : List Frame := [.native { method := ⟨0, 0⟩, args := #[] }]
def about1 : State := aboutOver below0
def p0 : Program := .bare "" "" ""
def e0 : Env := launch0.env 0 0 0
theorem w_frames : about1.frames = Frame.invoking theMethod args0 :: below0 := rfl
set_option maxRecDepth 65536 in
theorem w_args : argsFit about1.vm theMethod args0 = true := by decide +kernel
set_option maxRecDepth 65536 in
theorem w_heap : heapFits about1 = true := by decide +kernel
set_option maxRecDepth 65536 in
theorem w_runnable : about1.curStatus? = some .runnable := by decide +kernel
set_option maxRecDepth 65536 in
theorem w_alone : about1.alone = true := by decide +kernel
set_option maxRecDepth 65536 in
theorem w_named : about1.methodNamed? x = some theMethod := by decide +kernel
set_option maxRecDepth 65536 in
theorem w_hears : about1.hears theMethod below0 = true := by decide +kernel
set_option maxRecDepth 65536 in
theorem w_ripe : about1.ripe theMethod args0 below0 = true := by decide +kernel
theorem w_running : about1.status = .running := rfl
set_option maxRecDepth 65536 in
theorem w_room : about1.hasRoom e0.platform room_1 = true :=
  launch0.hasRoom_least _ room_1 (by decide +kernel) (by decide +kernel) (by decide +kernel) (by decide +kernel) (by decide +kernel) (by decide +kernel)
theorem allAtoms_all (ts : List Jvm.Cond) (a : Array Jvm.Value) (st : Jvm.State) : (allAtoms ts).before a st = ts.all (fun c => c.before a st) := by
  induction ts with
  | nil => rfl
  | cons c t ih =>
    show (Jvm.Cond.and c (allAtoms t)).before a st = _
    rw [Jvm.Cond.before_and, ih, List.all_cons]
def words1 : List Jvm.Cond := Jvm.Cond.code x code maxLocals ret :: tables_1
/-- a 'code' word, met by the world's own term for the bytes: nothing is compared byte by byte -/
theorem code_word {y : MethodName} {bytes : ByteArray} {mx : Nat} {rt : Option FieldType} {a : Array Value} {s : State} {m : MethodId} {meth : Method} {c : Code} (h1 : s.methodNamed? y = some m) (h2 : s.vm.method? m = some meth) (h3 : meth.code = some c) (h4 : c.code = bytes)
    (h5 : (c.maxLocals == mx && c.exceptionTable.isEmpty && decide (c.maxStack ≤ mostOperands) && decide (meth.sig.returnType = rt) && !meth.locks && decide (parseMethodDescriptor y.desc = some meth.sig)) = true) : (Jvm.Cond.code y bytes mx rt).before a s = true := by
  simp only [Bool.and_eq_true, beq_iff_eq, Bool.not_eq_true', decide_eq_true_eq] at h5
  obtain ⟨⟨⟨⟨⟨g1, g2⟩, g3⟩, g4⟩, g5⟩, g6⟩ := h5
  simp [Cond.before, Cond.holds, Cond.value, h1, h2, h3, h4, g1, g2, g3, g4, g5, g6]
def isCode : Jvm.Cond → Bool
  | .code _ _ _ _ => true
  | _ => false
theorem all_split {L : List Jvm.Cond} {P : Jvm.Cond → Bool} (h1 : L.all (fun c => isCode c || P c) = true) (h2 : ∀ c ∈ L.filter isCode, P c = true) : L.all P = true := by
  refine List.all_eq_true.mpr fun c hc => ?_
  have h := List.all_eq_true.mp h1 c hc
  rcases Bool.eq_false_or_eq_true (isCode c) with hi | hi
  · exact h2 c (List.mem_filter.mpr ⟨hc, hi⟩)
  · simpa [hi] using h
set_option maxRecDepth 65536 in
theorem w_c0 : (Jvm.Cond.code x code maxLocals ret).before args0 about1 = true := code_word (m := ⟨1, 1⟩) (meth := k1m1) (c := k1c1) (by decide +kernel) rfl rfl rfl (by decide +kernel)
set_option maxRecDepth 65536 in
theorem w_c1 : (Jvm.Cond.code ({ cls := "com/example/profile_to_target/profiletotarget/SfrIdToStringPinLaw", name := "make", desc := "(ICC)Ljava/lang/String;" } : Jvm.MethodName) method_3_code (3 : Nat) (Option.some (Jvm.ClassFile.FieldType.object "java/lang/String"))).before args0 about1 = true := code_word (m := ⟨1, 2⟩) (meth := k1m2) (c := k1c2) (by decide +kernel) rfl rfl rfl (by decide +kernel)
set_option maxRecDepth 65536 in
theorem w_c2 : (Jvm.Cond.code ({ cls := "java/lang/String", name := "<init>", desc := "([C)V" } : Jvm.MethodName) jdk_42_method_3_code (2 : Nat) (Option.none : Option Jvm.ClassFile.FieldType)).before args0 about1 = true := code_word (m := ⟨7, 1⟩) (meth := k7m1) (c := k7c1) (by decide +kernel) rfl rfl rfl (by decide +kernel)
set_option maxRecDepth 65536 in
theorem w_c3 : (Jvm.Cond.code ({ cls := "java/lang/String", name := "<init>", desc := "([CIILjava/lang/Void;)V" } : Jvm.MethodName) jdk_42_method_149_code (6 : Nat) (Option.none : Option Jvm.ClassFile.FieldType)).before args0 about1 = true := code_word (m := ⟨7, 8⟩) (meth := k7m8) (c := k7c8) (by decide +kernel) rfl rfl rfl (by decide +kernel)
set_option maxRecDepth 65536 in
theorem w_c4 : (Jvm.Cond.code ({ cls := "java/lang/Object", name := "<init>", desc := "()V" } : Jvm.MethodName) object_method_1_code (1 : Nat) (Option.none : Option Jvm.ClassFile.FieldType)).before args0 about1 = true := code_word (m := ⟨0, 0⟩) (meth := k0m0) (c := k0c0) (by decide +kernel) rfl rfl rfl (by decide +kernel)
set_option maxRecDepth 65536 in
theorem w_c5 : (Jvm.Cond.code ({ cls := "java/lang/StringUTF16", name := "compress", desc := "([CII)[B" } : Jvm.MethodName) jdk_52_method_16_code (6 : Nat) (Option.some (Jvm.ClassFile.FieldType.array Jvm.ClassFile.FieldType.byte))).before args0 about1 = true := code_word (m := ⟨8, 2⟩) (meth := k8m2) (c := k8c2) (by decide +kernel) rfl rfl rfl (by decide +kernel)
set_option maxRecDepth 65536 in
theorem w_c6 : (Jvm.Cond.code ({ cls := "java/lang/StringUTF16", name := "compress", desc := "([CI[BII)I" } : Jvm.MethodName) jdk_52_method_21_code (7 : Nat) (Option.some Jvm.ClassFile.FieldType.int)).before args0 about1 = true := code_word (m := ⟨8, 3⟩) (meth := k8m3) (c := k8c3) (by decide +kernel) rfl rfl rfl (by decide +kernel)
set_option maxRecDepth 65536 in
theorem w_c7 : (Jvm.Cond.code ({ cls := "java/lang/StringUTF16", name := "coderFromArrayLen", desc := "([BI)B" } : Jvm.MethodName) jdk_52_method_15_code (2 : Nat) (Option.some Jvm.ClassFile.FieldType.byte)).before args0 about1 = true := code_word (m := ⟨8, 1⟩) (meth := k8m1) (c := k8c1) (by decide +kernel) rfl rfl rfl (by decide +kernel)
set_option maxRecDepth 65536 in
theorem w_c8 : (Jvm.Cond.code ({ cls := "com/example/profile_to_target/profiletotarget/SfrId", name := "<init>", desc := "(Ljava/lang/String;Ljava/lang/String;)V" } : Jvm.MethodName) prog_3_method_1_code (3 : Nat) (Option.none : Option Jvm.ClassFile.FieldType)).before args0 about1 = true := code_word (m := ⟨10, 0⟩) (meth := k10m0) (c := k10c0) (by decide +kernel) rfl rfl rfl (by decide +kernel)
set_option maxRecDepth 65536 in
theorem w_c9 : (Jvm.Cond.code ({ cls := "java/lang/Record", name := "<init>", desc := "()V" } : Jvm.MethodName) jdk_30_method_1_code (1 : Nat) (Option.none : Option Jvm.ClassFile.FieldType)).before args0 about1 = true := code_word (m := ⟨9, 0⟩) (meth := k9m0) (c := k9c0) (by decide +kernel) rfl rfl rfl (by decide +kernel)
set_option maxRecDepth 65536 in
theorem w_c10 : (Jvm.Cond.code ({ cls := "com/example/profile_to_target/profiletotarget/SfrId", name := "toString", desc := "()Ljava/lang/String;" } : Jvm.MethodName) prog_3_method_3_code (1 : Nat) (Option.some (Jvm.ClassFile.FieldType.object "java/lang/String"))).before args0 about1 = true := code_word (m := ⟨10, 1⟩) (meth := k10m1) (c := k10c1) (by decide +kernel) rfl rfl rfl (by decide +kernel)
set_option maxRecDepth 65536 in
theorem w_c11 : (Jvm.Cond.code ({ cls := "java/lang/String", name := "equals", desc := "(Ljava/lang/Object;)Z" } : Jvm.MethodName) jdk_42_method_66_code (3 : Nat) (Option.some Jvm.ClassFile.FieldType.boolean)).before args0 about1 = true := code_word (m := ⟨7, 5⟩) (meth := k7m5) (c := k7c5) (by decide +kernel) rfl rfl rfl (by decide +kernel)
set_option maxRecDepth 65536 in
theorem w_c12 : (Jvm.Cond.code ({ cls := "java/lang/String", name := "valueOf", desc := "(C)Ljava/lang/String;" } : Jvm.MethodName) jdk_42_method_139_code (1 : Nat) (Option.some (Jvm.ClassFile.FieldType.object "java/lang/String"))).before args0 about1 = true := code_word (m := ⟨7, 6⟩) (meth := k7m6) (c := k7c6) (by decide +kernel) rfl rfl rfl (by decide +kernel)
set_option maxRecDepth 65536 in
theorem w_c13 : (Jvm.Cond.code ({ cls := "java/lang/StringLatin1", name := "canEncode", desc := "(C)Z" } : Jvm.MethodName) jdk_43_method_3_code (1 : Nat) (Option.some Jvm.ClassFile.FieldType.boolean)).before args0 about1 = true := code_word (m := ⟨11, 2⟩) (meth := k11m2) (c := k11c2) (by decide +kernel) rfl rfl rfl (by decide +kernel)
set_option maxRecDepth 65536 in
theorem w_c14 : (Jvm.Cond.code ({ cls := "java/lang/StringLatin1", name := "toBytes", desc := "(C)[B" } : Jvm.MethodName) jdk_43_method_46_code (1 : Nat) (Option.some (Jvm.ClassFile.FieldType.array Jvm.ClassFile.FieldType.byte))).before args0 about1 = true := code_word (m := ⟨11, 3⟩) (meth := k11m3) (c := k11c3) (by decide +kernel) rfl rfl rfl (by decide +kernel)
set_option maxRecDepth 65536 in
theorem w_c15 : (Jvm.Cond.code ({ cls := "java/lang/String", name := "<init>", desc := "([BB)V" } : Jvm.MethodName) jdk_42_method_151_code (3 : Nat) (Option.none : Option Jvm.ClassFile.FieldType)).before args0 about1 = true := code_word (m := ⟨7, 10⟩) (meth := k7m10) (c := k7c10) (by decide +kernel) rfl rfl rfl (by decide +kernel)
set_option maxRecDepth 65536 in
theorem w_c16 : (Jvm.Cond.code ({ cls := "java/lang/StringBuilder", name := "<init>", desc := "()V" } : Jvm.MethodName) jdk_67_method_1_code (1 : Nat) (Option.none : Option Jvm.ClassFile.FieldType)).before args0 about1 = true := code_word (m := ⟨14, 0⟩) (meth := k14m0) (c := k14c0) (by decide +kernel) rfl rfl rfl (by decide +kernel)
set_option maxRecDepth 65536 in
theorem w_c17 : (Jvm.Cond.code ({ cls := "java/lang/AbstractStringBuilder", name := "<init>", desc := "(I)V" } : Jvm.MethodName) jdk_68_method_2_code (2 : Nat) (Option.none : Option Jvm.ClassFile.FieldType)).before args0 about1 = true := code_word (m := ⟨13, 1⟩) (meth := k13m1) (c := k13c1) (by decide +kernel) rfl rfl rfl (by decide +kernel)
set_option maxRecDepth 65536 in
theorem w_c18 : (Jvm.Cond.code ({ cls := "java/lang/StringBuilder", name := "append", desc := "(Ljava/lang/String;)Ljava/lang/StringBuilder;" } : Jvm.MethodName) jdk_67_method_7_code (2 : Nat) (Option.some (Jvm.ClassFile.FieldType.object "java/lang/StringBuilder"))).before args0 about1 = true := code_word (m := ⟨14, 1⟩) (meth := k14m1) (c := k14c1) (by decide +kernel) rfl rfl rfl (by decide +kernel)
set_option maxRecDepth 65536 in
theorem w_c19 : (Jvm.Cond.code ({ cls := "java/lang/AbstractStringBuilder", name := "append", desc := "(Ljava/lang/String;)Ljava/lang/AbstractStringBuilder;" } : Jvm.MethodName) jdk_68_method_22_code (3 : Nat) (Option.some (Jvm.ClassFile.FieldType.object "java/lang/AbstractStringBuilder"))).before args0 about1 = true := code_word (m := ⟨13, 4⟩) (meth := k13m4) (c := k13c4) (by decide +kernel) rfl rfl rfl (by decide +kernel)
set_option maxRecDepth 65536 in
theorem w_c20 : (Jvm.Cond.code ({ cls := "java/lang/String", name := "length", desc := "()I" } : Jvm.MethodName) jdk_42_method_54_code (1 : Nat) (Option.some Jvm.ClassFile.FieldType.int)).before args0 about1 = true := code_word (m := ⟨7, 3⟩) (meth := k7m3) (c := k7c3) (by decide +kernel) rfl rfl rfl (by decide +kernel)
set_option maxRecDepth 65536 in
theorem w_c21 : (Jvm.Cond.code ({ cls := "java/lang/String", name := "coder", desc := "()B" } : Jvm.MethodName) jdk_42_method_152_code (1 : Nat) (Option.some Jvm.ClassFile.FieldType.byte)).before args0 about1 = true := code_word (m := ⟨7, 11⟩) (meth := k7m11) (c := k7c11) (by decide +kernel) rfl rfl rfl (by decide +kernel)
set_option maxRecDepth 65536 in
theorem w_c22 : (Jvm.Cond.code ({ cls := "java/lang/AbstractStringBuilder", name := "ensureCapacityInternal", desc := "(I)V" } : Jvm.MethodName) jdk_68_method_9_code (3 : Nat) (Option.none : Option Jvm.ClassFile.FieldType)).before args0 about1 = true := code_word (m := ⟨13, 3⟩) (meth := k13m3) (c := k13c3) (by decide +kernel) rfl rfl rfl (by decide +kernel)
set_option maxRecDepth 65536 in
theorem w_c23 : (Jvm.Cond.code ({ cls := "java/lang/AbstractStringBuilder", name := "putStringAt", desc := "(ILjava/lang/String;)V" } : Jvm.MethodName) jdk_68_method_73_code (3 : Nat) (Option.none : Option Jvm.ClassFile.FieldType)).before args0 about1 = true := code_word (m := ⟨13, 8⟩) (meth := k13m8) (c := k13c8) (by decide +kernel) rfl rfl rfl (by decide +kernel)
set_option maxRecDepth 65536 in
theorem w_c24 : (Jvm.Cond.code ({ cls := "java/lang/AbstractStringBuilder", name := "inflateIfNeededFor", desc := "(Ljava/lang/String;)V" } : Jvm.MethodName) jdk_68_method_71_code (2 : Nat) (Option.none : Option Jvm.ClassFile.FieldType)).before args0 about1 = true := code_word (m := ⟨13, 7⟩) (meth := k13m7) (c := k13c7) (by decide +kernel) rfl rfl rfl (by decide +kernel)
set_option maxRecDepth 65536 in
theorem w_c25 : (Jvm.Cond.code ({ cls := "java/lang/String", name := "getBytes", desc := "([BIB)V" } : Jvm.MethodName) jdk_42_method_147_code (4 : Nat) (Option.none : Option Jvm.ClassFile.FieldType)).before args0 about1 = true := code_word (m := ⟨7, 7⟩) (meth := k7m7) (c := k7c7) (by decide +kernel) rfl rfl rfl (by decide +kernel)
set_option maxRecDepth 65536 in
theorem w_c26 : (Jvm.Cond.code ({ cls := "java/lang/StringBuilder", name := "toString", desc := "()Ljava/lang/String;" } : Jvm.MethodName) jdk_67_method_42_code (1 : Nat) (Option.some (Jvm.ClassFile.FieldType.object "java/lang/String"))).before args0 about1 = true := code_word (m := ⟨14, 2⟩) (meth := k14m2) (c := k14c2) (by decide +kernel) rfl rfl rfl (by decide +kernel)
set_option maxRecDepth 65536 in
theorem w_c27 : (Jvm.Cond.code ({ cls := "java/lang/String", name := "<init>", desc := "(Ljava/lang/StringBuilder;)V" } : Jvm.MethodName) jdk_42_method_53_code (2 : Nat) (Option.none : Option Jvm.ClassFile.FieldType)).before args0 about1 = true := code_word (m := ⟨7, 2⟩) (meth := k7m2) (c := k7c2) (by decide +kernel) rfl rfl rfl (by decide +kernel)
set_option maxRecDepth 65536 in
theorem w_c28 : (Jvm.Cond.code ({ cls := "java/lang/String", name := "<init>", desc := "(Ljava/lang/AbstractStringBuilder;Ljava/lang/Void;)V" } : Jvm.MethodName) jdk_42_method_150_code (5 : Nat) (Option.none : Option Jvm.ClassFile.FieldType)).before args0 about1 = true := code_word (m := ⟨7, 9⟩) (meth := k7m9) (c := k7c9) (by decide +kernel) rfl rfl rfl (by decide +kernel)
set_option maxRecDepth 65536 in
theorem w_c29 : (Jvm.Cond.code ({ cls := "java/lang/AbstractStringBuilder", name := "getValue", desc := "()[B" } : Jvm.MethodName) jdk_68_method_64_code (1 : Nat) (Option.some (Jvm.ClassFile.FieldType.array Jvm.ClassFile.FieldType.byte))).before args0 about1 = true := code_word (m := ⟨13, 5⟩) (meth := k13m5) (c := k13c5) (by decide +kernel) rfl rfl rfl (by decide +kernel)
set_option maxRecDepth 65536 in
theorem w_c30 : (Jvm.Cond.code ({ cls := "java/lang/StringBuilder", name := "length", desc := "()I" } : Jvm.MethodName) jdk_67_method_93_code (1 : Nat) (Option.some Jvm.ClassFile.FieldType.int)).before args0 about1 = true := code_word (m := ⟨14, 3⟩) (meth := k14m3) (c := k14c3) (by decide +kernel) rfl rfl rfl (by decide +kernel)
set_option maxRecDepth 65536 in
theorem w_c31 : (Jvm.Cond.code ({ cls := "java/lang/AbstractStringBuilder", name := "length", desc := "()I" } : Jvm.MethodName) jdk_68_method_6_code (1 : Nat) (Option.some Jvm.ClassFile.FieldType.int)).before args0 about1 = true := code_word (m := ⟨13, 2⟩) (meth := k13m2) (c := k13c2) (by decide +kernel) rfl rfl rfl (by decide +kernel)
set_option maxRecDepth 65536 in
theorem w_c32 : (Jvm.Cond.code ({ cls := "java/lang/AbstractStringBuilder", name := "isLatin1", desc := "()Z" } : Jvm.MethodName) jdk_68_method_68_code (1 : Nat) (Option.some Jvm.ClassFile.FieldType.boolean)).before args0 about1 = true := code_word (m := ⟨13, 6⟩) (meth := k13m6) (c := k13c6) (by decide +kernel) rfl rfl rfl (by decide +kernel)
set_option maxRecDepth 65536 in
theorem w_c33 : (Jvm.Cond.code ({ cls := "java/util/Arrays", name := "copyOfRange", desc := "([BII)[B" } : Jvm.MethodName) jdk_65_method_132_code (3 : Nat) (Option.some (Jvm.ClassFile.FieldType.array Jvm.ClassFile.FieldType.byte))).before args0 about1 = true := code_word (m := ⟨16, 2⟩) (meth := k16m2) (c := k16c2) (by decide +kernel) rfl rfl rfl (by decide +kernel)
set_option maxRecDepth 65536 in
theorem w_c34 : (Jvm.Cond.code ({ cls := "java/util/Arrays", name := "copyOfRangeByte", desc := "([BII)[B" } : Jvm.MethodName) jdk_65_method_133_code (5 : Nat) (Option.some (Jvm.ClassFile.FieldType.array Jvm.ClassFile.FieldType.byte))).before args0 about1 = true := code_word (m := ⟨16, 3⟩) (meth := k16m3) (c := k16c3) (by decide +kernel) rfl rfl rfl (by decide +kernel)
set_option maxRecDepth 65536 in
theorem w_c35 : (Jvm.Cond.code ({ cls := "java/util/Arrays", name := "checkLength", desc := "(II)V" } : Jvm.MethodName) jdk_65_method_131_code (2 : Nat) (Option.none : Option Jvm.ClassFile.FieldType)).before args0 about1 = true := code_word (m := ⟨16, 1⟩) (meth := k16m1) (c := k16c1) (by decide +kernel) rfl rfl rfl (by decide +kernel)
set_option maxRecDepth 65536 in
theorem w_c36 : (Jvm.Cond.code ({ cls := "java/lang/Math", name := "min", desc := "(II)I" } : Jvm.MethodName) jdk_29_method_69_code (2 : Nat) (Option.some Jvm.ClassFile.FieldType.int)).before args0 about1 = true := code_word (m := ⟨17, 1⟩) (meth := k17m1) (c := k17c1) (by decide +kernel) rfl rfl rfl (by decide +kernel)
set_option maxRecDepth 65536 in
theorem w_c37 : (Jvm.Cond.code ({ cls := "com/example/profile_to_target/profiletotarget/SfrIdToStringPinLaw", name := "at", desc := "(Ljava/lang/String;IICCCC)Z" } : Jvm.MethodName) method_4_code (8 : Nat) (Option.some Jvm.ClassFile.FieldType.boolean)).before args0 about1 = true := code_word (m := ⟨1, 3⟩) (meth := k1m3) (c := k1c3) (by decide +kernel) rfl rfl rfl (by decide +kernel)
set_option maxRecDepth 65536 in
theorem w_c38 : (Jvm.Cond.code ({ cls := "java/lang/String", name := "charAt", desc := "(I)C" } : Jvm.MethodName) jdk_42_method_56_code (2 : Nat) (Option.some Jvm.ClassFile.FieldType.char)).before args0 about1 = true := code_word (m := ⟨7, 4⟩) (meth := k7m4) (c := k7c4) (by decide +kernel) rfl rfl rfl (by decide +kernel)
set_option maxRecDepth 65536 in
theorem w_c39 : (Jvm.Cond.code ({ cls := "java/lang/String", name := "isLatin1", desc := "()Z" } : Jvm.MethodName) jdk_42_method_154_code (1 : Nat) (Option.some Jvm.ClassFile.FieldType.boolean)).before args0 about1 = true := code_word (m := ⟨7, 12⟩) (meth := k7m12) (c := k7c12) (by decide +kernel) rfl rfl rfl (by decide +kernel)
set_option maxRecDepth 65536 in
theorem w_c40 : (Jvm.Cond.code ({ cls := "java/lang/StringLatin1", name := "charAt", desc := "([BI)C" } : Jvm.MethodName) jdk_43_method_2_code (2 : Nat) (Option.some Jvm.ClassFile.FieldType.char)).before args0 about1 = true := code_word (m := ⟨11, 1⟩) (meth := k11m1) (c := k11c1) (by decide +kernel) rfl rfl rfl (by decide +kernel)
set_option maxRecDepth 65536 in
theorem w_c41 : (Jvm.Cond.code ({ cls := "java/lang/String", name := "checkIndex", desc := "(II)V" } : Jvm.MethodName) jdk_42_method_155_code (2 : Nat) (Option.none : Option Jvm.ClassFile.FieldType)).before args0 about1 = true := code_word (m := ⟨7, 13⟩) (meth := k7m13) (c := k7c13) (by decide +kernel) rfl rfl rfl (by decide +kernel)
set_option maxRecDepth 65536 in
theorem w_c42 : (Jvm.Cond.code ({ cls := "jdk/internal/util/Preconditions", name := "checkIndex", desc := "(IILjava/util/function/BiFunction;)I" } : Jvm.MethodName) jdk_41_method_11_code (3 : Nat) (Option.some Jvm.ClassFile.FieldType.int)).before args0 about1 = true := code_word (m := ⟨18, 1⟩) (meth := k18m1) (c := k18c1) (by decide +kernel) rfl rfl rfl (by decide +kernel)
def codes1 : List Jvm.Cond := [Jvm.Cond.code x code maxLocals ret, Jvm.Cond.code ({ cls := "com/example/profile_to_target/profiletotarget/SfrIdToStringPinLaw", name := "make", desc := "(ICC)Ljava/lang/String;" } : Jvm.MethodName) method_3_code (3 : Nat) (Option.some (Jvm.ClassFile.FieldType.object "java/lang/String")), Jvm.Cond.code ({ cls := "java/lang/String", name := "<init>", desc := "([C)V" } : Jvm.MethodName) jdk_42_method_3_code (2 : Nat) (Option.none : Option Jvm.ClassFile.FieldType), Jvm.Cond.code ({ cls := "java/lang/String", name := "<init>", desc := "([CIILjava/lang/Void;)V" } : Jvm.MethodName) jdk_42_method_149_code (6 : Nat) (Option.none : Option Jvm.ClassFile.FieldType), Jvm.Cond.code ({ cls := "java/lang/Object", name := "<init>", desc := "()V" } : Jvm.MethodName) object_method_1_code (1 : Nat) (Option.none : Option Jvm.ClassFile.FieldType), Jvm.Cond.code ({ cls := "java/lang/StringUTF16", name := "compress", desc := "([CII)[B" } : Jvm.MethodName) jdk_52_method_16_code (6 : Nat) (Option.some (Jvm.ClassFile.FieldType.array Jvm.ClassFile.FieldType.byte)), Jvm.Cond.code ({ cls := "java/lang/StringUTF16", name := "compress", desc := "([CI[BII)I" } : Jvm.MethodName) jdk_52_method_21_code (7 : Nat) (Option.some Jvm.ClassFile.FieldType.int), Jvm.Cond.code ({ cls := "java/lang/StringUTF16", name := "coderFromArrayLen", desc := "([BI)B" } : Jvm.MethodName) jdk_52_method_15_code (2 : Nat) (Option.some Jvm.ClassFile.FieldType.byte), Jvm.Cond.code ({ cls := "com/example/profile_to_target/profiletotarget/SfrId", name := "<init>", desc := "(Ljava/lang/String;Ljava/lang/String;)V" } : Jvm.MethodName) prog_3_method_1_code (3 : Nat) (Option.none : Option Jvm.ClassFile.FieldType), Jvm.Cond.code ({ cls := "java/lang/Record", name := "<init>", desc := "()V" } : Jvm.MethodName) jdk_30_method_1_code (1 : Nat) (Option.none : Option Jvm.ClassFile.FieldType), Jvm.Cond.code ({ cls := "com/example/profile_to_target/profiletotarget/SfrId", name := "toString", desc := "()Ljava/lang/String;" } : Jvm.MethodName) prog_3_method_3_code (1 : Nat) (Option.some (Jvm.ClassFile.FieldType.object "java/lang/String")), Jvm.Cond.code ({ cls := "java/lang/String", name := "equals", desc := "(Ljava/lang/Object;)Z" } : Jvm.MethodName) jdk_42_method_66_code (3 : Nat) (Option.some Jvm.ClassFile.FieldType.boolean), Jvm.Cond.code ({ cls := "java/lang/String", name := "valueOf", desc := "(C)Ljava/lang/String;" } : Jvm.MethodName) jdk_42_method_139_code (1 : Nat) (Option.some (Jvm.ClassFile.FieldType.object "java/lang/String")), Jvm.Cond.code ({ cls := "java/lang/StringLatin1", name := "canEncode", desc := "(C)Z" } : Jvm.MethodName) jdk_43_method_3_code (1 : Nat) (Option.some Jvm.ClassFile.FieldType.boolean), Jvm.Cond.code ({ cls := "java/lang/StringLatin1", name := "toBytes", desc := "(C)[B" } : Jvm.MethodName) jdk_43_method_46_code (1 : Nat) (Option.some (Jvm.ClassFile.FieldType.array Jvm.ClassFile.FieldType.byte)), Jvm.Cond.code ({ cls := "java/lang/String", name := "<init>", desc := "([BB)V" } : Jvm.MethodName) jdk_42_method_151_code (3 : Nat) (Option.none : Option Jvm.ClassFile.FieldType), Jvm.Cond.code ({ cls := "java/lang/StringBuilder", name := "<init>", desc := "()V" } : Jvm.MethodName) jdk_67_method_1_code (1 : Nat) (Option.none : Option Jvm.ClassFile.FieldType), Jvm.Cond.code ({ cls := "java/lang/AbstractStringBuilder", name := "<init>", desc := "(I)V" } : Jvm.MethodName) jdk_68_method_2_code (2 : Nat) (Option.none : Option Jvm.ClassFile.FieldType), Jvm.Cond.code ({ cls := "java/lang/StringBuilder", name := "append", desc := "(Ljava/lang/String;)Ljava/lang/StringBuilder;" } : Jvm.MethodName) jdk_67_method_7_code (2 : Nat) (Option.some (Jvm.ClassFile.FieldType.object "java/lang/StringBuilder")), Jvm.Cond.code ({ cls := "java/lang/AbstractStringBuilder", name := "append", desc := "(Ljava/lang/String;)Ljava/lang/AbstractStringBuilder;" } : Jvm.MethodName) jdk_68_method_22_code (3 : Nat) (Option.some (Jvm.ClassFile.FieldType.object "java/lang/AbstractStringBuilder")), Jvm.Cond.code ({ cls := "java/lang/String", name := "length", desc := "()I" } : Jvm.MethodName) jdk_42_method_54_code (1 : Nat) (Option.some Jvm.ClassFile.FieldType.int), Jvm.Cond.code ({ cls := "java/lang/String", name := "coder", desc := "()B" } : Jvm.MethodName) jdk_42_method_152_code (1 : Nat) (Option.some Jvm.ClassFile.FieldType.byte), Jvm.Cond.code ({ cls := "java/lang/AbstractStringBuilder", name := "ensureCapacityInternal", desc := "(I)V" } : Jvm.MethodName) jdk_68_method_9_code (3 : Nat) (Option.none : Option Jvm.ClassFile.FieldType), Jvm.Cond.code ({ cls := "java/lang/AbstractStringBuilder", name := "putStringAt", desc := "(ILjava/lang/String;)V" } : Jvm.MethodName) jdk_68_method_73_code (3 : Nat) (Option.none : Option Jvm.ClassFile.FieldType), Jvm.Cond.code ({ cls := "java/lang/AbstractStringBuilder", name := "inflateIfNeededFor", desc := "(Ljava/lang/String;)V" } : Jvm.MethodName) jdk_68_method_71_code (2 : Nat) (Option.none : Option Jvm.ClassFile.FieldType), Jvm.Cond.code ({ cls := "java/lang/String", name := "getBytes", desc := "([BIB)V" } : Jvm.MethodName) jdk_42_method_147_code (4 : Nat) (Option.none : Option Jvm.ClassFile.FieldType), Jvm.Cond.code ({ cls := "java/lang/StringBuilder", name := "toString", desc := "()Ljava/lang/String;" } : Jvm.MethodName) jdk_67_method_42_code (1 : Nat) (Option.some (Jvm.ClassFile.FieldType.object "java/lang/String")), Jvm.Cond.code ({ cls := "java/lang/String", name := "<init>", desc := "(Ljava/lang/StringBuilder;)V" } : Jvm.MethodName) jdk_42_method_53_code (2 : Nat) (Option.none : Option Jvm.ClassFile.FieldType), Jvm.Cond.code ({ cls := "java/lang/String", name := "<init>", desc := "(Ljava/lang/AbstractStringBuilder;Ljava/lang/Void;)V" } : Jvm.MethodName) jdk_42_method_150_code (5 : Nat) (Option.none : Option Jvm.ClassFile.FieldType), Jvm.Cond.code ({ cls := "java/lang/AbstractStringBuilder", name := "getValue", desc := "()[B" } : Jvm.MethodName) jdk_68_method_64_code (1 : Nat) (Option.some (Jvm.ClassFile.FieldType.array Jvm.ClassFile.FieldType.byte)), Jvm.Cond.code ({ cls := "java/lang/StringBuilder", name := "length", desc := "()I" } : Jvm.MethodName) jdk_67_method_93_code (1 : Nat) (Option.some Jvm.ClassFile.FieldType.int), Jvm.Cond.code ({ cls := "java/lang/AbstractStringBuilder", name := "length", desc := "()I" } : Jvm.MethodName) jdk_68_method_6_code (1 : Nat) (Option.some Jvm.ClassFile.FieldType.int), Jvm.Cond.code ({ cls := "java/lang/AbstractStringBuilder", name := "isLatin1", desc := "()Z" } : Jvm.MethodName) jdk_68_method_68_code (1 : Nat) (Option.some Jvm.ClassFile.FieldType.boolean), Jvm.Cond.code ({ cls := "java/util/Arrays", name := "copyOfRange", desc := "([BII)[B" } : Jvm.MethodName) jdk_65_method_132_code (3 : Nat) (Option.some (Jvm.ClassFile.FieldType.array Jvm.ClassFile.FieldType.byte)), Jvm.Cond.code ({ cls := "java/util/Arrays", name := "copyOfRangeByte", desc := "([BII)[B" } : Jvm.MethodName) jdk_65_method_133_code (5 : Nat) (Option.some (Jvm.ClassFile.FieldType.array Jvm.ClassFile.FieldType.byte)), Jvm.Cond.code ({ cls := "java/util/Arrays", name := "checkLength", desc := "(II)V" } : Jvm.MethodName) jdk_65_method_131_code (2 : Nat) (Option.none : Option Jvm.ClassFile.FieldType), Jvm.Cond.code ({ cls := "java/lang/Math", name := "min", desc := "(II)I" } : Jvm.MethodName) jdk_29_method_69_code (2 : Nat) (Option.some Jvm.ClassFile.FieldType.int), Jvm.Cond.code ({ cls := "com/example/profile_to_target/profiletotarget/SfrIdToStringPinLaw", name := "at", desc := "(Ljava/lang/String;IICCCC)Z" } : Jvm.MethodName) method_4_code (8 : Nat) (Option.some Jvm.ClassFile.FieldType.boolean), Jvm.Cond.code ({ cls := "java/lang/String", name := "charAt", desc := "(I)C" } : Jvm.MethodName) jdk_42_method_56_code (2 : Nat) (Option.some Jvm.ClassFile.FieldType.char), Jvm.Cond.code ({ cls := "java/lang/String", name := "isLatin1", desc := "()Z" } : Jvm.MethodName) jdk_42_method_154_code (1 : Nat) (Option.some Jvm.ClassFile.FieldType.boolean), Jvm.Cond.code ({ cls := "java/lang/StringLatin1", name := "charAt", desc := "([BI)C" } : Jvm.MethodName) jdk_43_method_2_code (2 : Nat) (Option.some Jvm.ClassFile.FieldType.char), Jvm.Cond.code ({ cls := "java/lang/String", name := "checkIndex", desc := "(II)V" } : Jvm.MethodName) jdk_42_method_155_code (2 : Nat) (Option.none : Option Jvm.ClassFile.FieldType), Jvm.Cond.code ({ cls := "jdk/internal/util/Preconditions", name := "checkIndex", desc := "(IILjava/util/function/BiFunction;)I" } : Jvm.MethodName) jdk_41_method_11_code (3 : Nat) (Option.some Jvm.ClassFile.FieldType.int)]
set_option maxRecDepth 65536 in
theorem codes_eq : words1.filter isCode = codes1 := rfl
theorem w_codes : ∀ c ∈ words1.filter isCode, c.before args0 about1 = true := by
  rw [codes_eq]
  intro c hc
  simp only [codes1, List.mem_cons, List.not_mem_nil, or_false] at hc
  rcases hc with rfl | rfl | rfl | rfl | rfl | rfl | rfl | rfl | rfl | rfl | rfl | rfl | rfl | rfl | rfl | rfl | rfl | rfl | rfl | rfl | rfl | rfl | rfl | rfl | rfl | rfl | rfl | rfl | rfl | rfl | rfl | rfl | rfl | rfl | rfl | rfl | rfl | rfl | rfl | rfl | rfl | rfl | rfl
  · exact w_c0
  · exact w_c1
  · exact w_c2
  · exact w_c3
  · exact w_c4
  · exact w_c5
  · exact w_c6
  · exact w_c7
  · exact w_c8
  · exact w_c9
  · exact w_c10
  · exact w_c11
  · exact w_c12
  · exact w_c13
  · exact w_c14
  · exact w_c15
  · exact w_c16
  · exact w_c17
  · exact w_c18
  · exact w_c19
  · exact w_c20
  · exact w_c21
  · exact w_c22
  · exact w_c23
  · exact w_c24
  · exact w_c25
  · exact w_c26
  · exact w_c27
  · exact w_c28
  · exact w_c29
  · exact w_c30
  · exact w_c31
  · exact w_c32
  · exact w_c33
  · exact w_c34
  · exact w_c35
  · exact w_c36
  · exact w_c37
  · exact w_c38
  · exact w_c39
  · exact w_c40
  · exact w_c41
  · exact w_c42
set_option maxRecDepth 65536 in
theorem w_t1 : (words1.take 24).all (fun c => isCode c || c.before args0 about1) = true := by decide +kernel
set_option maxRecDepth 65536 in
theorem w_t2 : ((words1.drop 24).take 24).all (fun c => isCode c || c.before args0 about1) = true := by decide +kernel
set_option maxRecDepth 65536 in
theorem w_t3 : (((words1.drop 24).drop 24).take 24).all (fun c => isCode c || c.before args0 about1) = true := by decide +kernel
set_option maxRecDepth 65536 in
theorem w_t4 : ((((words1.drop 24).drop 24).drop 24).take 24).all (fun c => isCode c || c.before args0 about1) = true := by decide +kernel
set_option maxRecDepth 65536 in
theorem w_t5 : (((((words1.drop 24).drop 24).drop 24).drop 24).take 24).all (fun c => isCode c || c.before args0 about1) = true := by decide +kernel
set_option maxRecDepth 65536 in
theorem w_t6 : ((((((words1.drop 24).drop 24).drop 24).drop 24).drop 24).take 24).all (fun c => isCode c || c.before args0 about1) = true := by decide +kernel
set_option maxRecDepth 65536 in
theorem w_t7 : (((((((words1.drop 24).drop 24).drop 24).drop 24).drop 24).drop 24).take 24).all (fun c => isCode c || c.before args0 about1) = true := by decide +kernel
set_option maxRecDepth 65536 in
theorem w_t8 : ((((((((words1.drop 24).drop 24).drop 24).drop 24).drop 24).drop 24).drop 24).take 24).all (fun c => isCode c || c.before args0 about1) = true := by decide +kernel
set_option maxRecDepth 65536 in
theorem w_t9 : ((((((((words1.drop 24).drop 24).drop 24).drop 24).drop 24).drop 24).drop 24).drop 24).all (fun c => isCode c || c.before args0 about1) = true := by decide +kernel
theorem w_tables : (allAtoms (Jvm.Cond.code x code maxLocals ret :: tables_1)).before args0 about1 = true := by
  rw [allAtoms_all]
  show words1.all (fun c => c.before args0 about1) = true
  refine all_split ?_ w_codes
  rw [← List.take_append_drop 24 words1, List.all_append, w_t1, ← List.take_append_drop 24 (words1.drop 24), List.all_append, w_t2, ← List.take_append_drop 24 ((words1.drop 24).drop 24), List.all_append, w_t3, ← List.take_append_drop 24 (((words1.drop 24).drop 24).drop 24), List.all_append, w_t4, ← List.take_append_drop 24 ((((words1.drop 24).drop 24).drop 24).drop 24), List.all_append, w_t5, ← List.take_append_drop 24 (((((words1.drop 24).drop 24).drop 24).drop 24).drop 24), List.all_append, w_t6, ← List.take_append_drop 24 ((((((words1.drop 24).drop 24).drop 24).drop 24).drop 24).drop 24), List.all_append, w_t7, ← List.take_append_drop 24 (((((((words1.drop 24).drop 24).drop 24).drop 24).drop 24).drop 24).drop 24), List.all_append, w_t8, w_t9]
  rfl
set_option maxRecDepth 65536 in
theorem w_rest : rest_1_c.before args0 about1 = true := by decide +kernel
set_option maxRecDepth 65536 in
theorem w_case : (Jvm.Cond.and given_1 narrow_1).before args0 about1 = true := by decide +kernel
set_option maxRecDepth 65536 in
theorem w_consts : constsHeld consts_1 about1 := Jvm.Lit.constsHeldB_iff.mp (by decide +kernel)
theorem w_applies : (headSpec (Jvm.Cond.code x code maxLocals ret :: tables_1) room_1).applies x e0.platform about1 = true :=
  (Spec.applies_iff w_frames).mpr ⟨w_running, w_runnable, w_alone, w_named, w_hears, w_ripe, w_room, w_tables⟩
theorem atStart : AtStart classFile x code maxLocals ret World_1 tables_1 room_1 Calls_1 rest_1 Pre_1 launch0 p0 e0 about1 theMethod args0 below0 :=
  ⟨lists_1, trivial, launch0.admits_env _ _ _, launch0.least_env, fairChoices_fair.cas, fairChoices_fair.clock, w_frames, w_args, w_heap, w_applies, ⟨w_consts, trivial⟩, w_rest, w_case⟩
end start1
theorem witness_1 : WitnessClaimed_1 := ⟨start1.p0, start1.e0, start1.about1, start1.theMethod, start1.args0, start1.below0, start1.atStart⟩
end Jvm.Pilot.@@N@@
