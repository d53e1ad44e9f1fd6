import JvmDerived
import JvmDerived.Pilot.@@N@@Statement
import JvmDerived.Pilot.@@N@@Code
set_option linter.unusedVariables false
set_option linter.unusedSimpArgs false
namespace Jvm.Pilot.@@N@@
open Jvm Jvm.ClassFile Sem Op Lib Jvm.Free Jvm.Stand Jvm.LawKit Jvm.RoadKit Jvm.Free.Fl Bundle Jvm.Pilot.@@N@@.Jvm.D
/-- from here the run comes to some end at which G holds -/
def Gl (tb : Tables) (e : Env) (below : List Frame) (T : State) (g : JFrame) (G : State → Prop) : Prop := ∃ s₂, Steps tb e below (T.setTop g) s₂ ∧ G s₂
theorem Gl.via {tb : Tables} {e : Env} {below : List Frame} {T T' : State} {g g' : JFrame} {G : State → Prop} (st : ∀ t, Steps tb e below (T'.setTop g') t → Steps tb e below (T.setTop g) t) (k : Gl tb e below T' g' G) : Gl tb e below T g G := by
  obtain ⟨s₂, h1, h2⟩ := k
  exact ⟨s₂, st _ h1, h2⟩
theorem own_catI (x : Int32) : (Value.int x).category = 1 := rfl
theorem own_catR (x : Addr) : (Value.ref x).category = 1 := rfl
theorem Gl.fin {tb : Tables} {e : Env} {below : List Frame} {T U : State} {g : JFrame} {G : State → Prop} (st : Steps tb e below (T.setTop g) U) (k : G U) : Gl tb e below T g G := ⟨U, st, k⟩
theorem own_nonface {Z : State} {a0 : Array Value} {C : String} {y : MethodName} (ws : (Jvm.Cond.selects C y y).before a0 Z = true) (wd : (Jvm.Cond.declares y).before a0 Z = true) : ∃ c k, Z.vm.findClass y.cls = some c ∧ Z.vm.classes[c]? = some k ∧ k.isInterface = false := by
  obtain ⟨m, meth, hn, -⟩ := Cond.declares_spec wd
  obtain ⟨k, hk, hni⟩ := notFace_of_selects ws m hn
  exact ⟨m.cls, k, findClass_of_methodNamed hn, hk, hni⟩
theorem own_selP {Z : State} {a0 : Array Value} {y : MethodName} (hf : ∃ c k, Z.vm.findClass y.cls = some c ∧ Z.vm.classes[c]? = some k ∧ k.isInterface = false) (wp : (Jvm.Cond.privateMethod y).before a0 Z = true) (wi : (Jvm.Cond.instanceMethod y).before a0 Z = true) (hy : y.cls ≠ "java/lang/invoke/MethodHandle" ∧ y.cls ≠ "java/lang/invoke/VarHandle") : (Jvm.Cond.selects y.cls y y).before a0 Z = true := by
  obtain ⟨c, k, hc, hk, hni⟩ := hf
  exact selects_self_of_private hc hk hni (Cond.privateMethod_at wp) wi hy
theorem own_sameM {Z : State} {a0 : Array Value} {y : MethodName} (hf : ∃ c k, Z.vm.findClass y.cls = some c ∧ Z.vm.classes[c]? = some k ∧ k.isInterface = false) (wd : (Jvm.Cond.declares y).before a0 Z = true) (hy : y.cls ≠ "java/lang/invoke/MethodHandle" ∧ y.cls ≠ "java/lang/invoke/VarHandle") : (Jvm.Cond.sameMethod y.cls y.cls y.name y.desc).before a0 Z = true := by
  obtain ⟨c, k, hc, hk, hni⟩ := hf
  obtain ⟨m, meth, hn, -⟩ := Cond.declares_spec wd
  have hfnd := State.methodFound?_of_named hn hy
  have hn' : Z.methodNamed? ⟨y.cls, y.name, y.desc⟩ = some m := hn
  simp [Cond.before, Cond.holds, Cond.value, hc, hfnd, hn', hk, hni]
theorem own_nfA {Z s : State} {y : MethodName} (hZ : Z.Warmed39 s.vm) (hf : ∃ c k, Z.vm.findClass y.cls = some c ∧ Z.vm.classes[c]? = some k ∧ k.isInterface = false) : NotFace s y := fun r0 h0 => by
  obtain ⟨c, k, hc, hk, hni⟩ := hf
  have e := findClass_of_methodNamed h0
  rw [hZ.alike.findClass] at e
  cases hc.symm.trans e
  obtain ⟨k', q1, q2⟩ := hZ.alike.2.2 _ _ hk
  exact ⟨k', q1, by rw [q2]; exact hni⟩
def own_ln (cs : List Int32) : Int32 := Int32.ofNat cs.length
theorem own_lnI {cs : List Int32} (h : cs.length ≤ 100) : (own_ln cs).toInt = cs.length := by
  unfold own_ln
  rw [Int32.toInt_ofNat_of_lt (by omega)]
theorem own_lnN {cs : List Int32} (h : cs.length ≤ 100) : (own_ln cs).toNatClampNeg = cs.length := by
  have e := own_lnI h
  show (own_ln cs).toInt.toNat = _
  omega
theorem own_ln0 {cs : List Int32} (h : cs.length ≤ 100) : ¬ (own_ln cs) < 0 := by
  have e := own_lnI h
  rw [Int32.lt_iff_toInt_lt]
  show ¬ (own_ln cs).toInt < 0
  omega
theorem own_shr0 (x : Int32) : x >>> ((0 : Int32) &&& 31) = x := by
  have e : (x >>> ((0 : Int32) &&& 31)).toInt = x.toInt / 1 := c_ishr x 0 0 (by decide)
  exact Int32.toInt_inj.mp (by rw [e]; omega)
theorem own_shl0 (x : Int32) : x <<< ((0 : Int32) &&& 31) = x := by
  have e : ((x <<< ((0 : Int32) &&& 31)).toInt - x.toInt * 1) % 4294967296 = 0 := c_ishl x 0 0 (by decide)
  have r := rng32 x
  have r2 := rng32 (x <<< ((0 : Int32) &&& 31))
  exact Int32.toInt_inj.mp (by omega)
theorem own_lnApp {a b : List Int32} (h : a.length + b.length ≤ 100) : own_ln a + own_ln b = own_ln (a ++ b) := by
  have ea := own_lnI (cs := a) (by omega)
  have eb := own_lnI (cs := b) (by omega)
  have ec := own_lnI (cs := a ++ b) (by rw [List.length_append]; exact h)
  have e := c_iadd (own_ln a) (own_ln b)
  have r := rng32 (own_ln a + own_ln b)
  rw [List.length_append] at ec
  exact Int32.toInt_inj.mp (by omega)
theorem own_cap {a : List Int32} (h : a.length ≤ 16) : ¬ ((0 : Int32) < own_ln a - (16 : Int32)) := by
  have ea := own_lnI (cs := a) (by omega)
  have e : ((own_ln a - (16 : Int32)).toInt - ((own_ln a).toInt - 16)) % 4294967296 = 0 := c_isub (own_ln a) 16
  have r := rng32 (own_ln a - (16 : Int32))
  rw [Int32.lt_iff_toInt_lt]
  show ¬ (0 : Int) < (own_ln a - (16 : Int32)).toInt
  omega
theorem own_cpy {Z : State} {h : Heap} {b : Addr} {k : ClassId} {z : Int32} {bcs scs : List Int32} {m : Nat} (hb : bcs.length ≤ 100) (hs : scs.length ≤ 100) (V : Arv Z h b k .byte z ((bcs.map Value.int ++ List.replicate m (Value.int (0 : Int32))).take (own_ln bcs).toNatClampNeg ++ scs.map Value.int ++ (bcs.map Value.int ++ List.replicate m (Value.int (0 : Int32))).drop ((own_ln bcs).toNatClampNeg + (own_ln scs).toNatClampNeg)) (Value.int (0 : Int32))) : Arv Z h b k .byte z ((bcs ++ scs).map Value.int) (Value.int (0 : Int32)) := by
  rw [own_lnN hb, own_lnN hs] at V
  have e1 : (bcs.map Value.int ++ List.replicate m (Value.int (0 : Int32))).take bcs.length = bcs.map Value.int := by
    rw [List.take_append_of_le_length (by simp), List.take_of_length_le (by simp)]
  have e2 : (bcs.map Value.int ++ List.replicate m (Value.int (0 : Int32))).drop (bcs.length + scs.length) = List.replicate (m - scs.length) (Value.int (0 : Int32)) := by
    rw [List.drop_append, List.drop_eq_nil_of_le (by simp)]
    simp
  rw [e1, e2, ← List.map_append] at V
  exact V.pad fun i => (pad_rep _ _ _ i).symm
theorem own_us {cs : List Int32} (h : cs.length ≤ 100) : cs.map Value.int = (List.range (own_ln cs).toNatClampNeg).map fun i => (cs.map Value.int).getD ((0 : Int32).toNatClampNeg + i) (Value.int (0 : Int32)) := by
  rw [own_lnN h]
  refine List.ext_getElem (by simp) fun i h1 h2 => ?_
  simp at h1
  simp [h1]
theorem own_bb (x : Int32) : nar .byte x.toInt8.toInt32 = x.toInt8.toInt32 := by
  show x.toInt8.toInt32.toInt8.toInt32 = _
  rw [Int8.toInt8_toInt32]
theorem own_sub0 (x : Int32) : x - (0 : Int32) = x := by
  have e : ((x - (0 : Int32)).toInt - (x.toInt - 0)) % 4294967296 = 0 := c_isub x 0
  have r := rng32 x
  have r2 := rng32 (x - (0 : Int32))
  exact Int32.toInt_inj.mp (by omega)
theorem own_lt16 {cs : List Int32} (h : cs.length ≤ 15) : own_ln cs < (16 : Int32) := by
  have e := own_lnI (cs := cs) (by omega)
  rw [Int32.lt_iff_toInt_lt]
  show (own_ln cs).toInt < 16
  omega
theorem own_n16 {cs : List Int32} (h : cs.length ≤ 15) : ¬ (own_ln cs = (16 : Int32)) := fun q => by
  have e := own_lt16 h
  rw [q] at e
  exact absurd e (by decide)
theorem own_cat {v : Value} (h : v.isRef = true) : v.category = 1 := by
  rcases ref_cases h with rfl | ⟨a, rfl⟩ <;> rfl
theorem pn_0 : plainName "java/lang/String" = true := by first | (simp [plainName, overriddenIn]; done) | decide +kernel
theorem d20_0 : decode jdk_42_method_152_code 0 = .ok (.getstatic 38, 3) := by decide +kernel
theorem d20_3 : decode jdk_42_method_152_code 3 = .ok (.ifCond .eq 10, 3) := by decide +kernel
theorem d20_6 : decode jdk_42_method_152_code 6 = .ok (.aload_n 0, 1) := by decide +kernel
theorem d20_7 : decode jdk_42_method_152_code 7 = .ok (.getfield 15, 3) := by decide +kernel
theorem d20_10 : decode jdk_42_method_152_code 10 = .ok (.goto 4, 3) := by decide +kernel
theorem d20_14 : decode jdk_42_method_152_code 14 = .ok (.ireturn, 1) := by decide +kernel
theorem ef_st_coder (m : MethodId) (x0 : Addr) : entryFrame m #[(.ref x0)] 1 = mkF m 0 #[.val (.ref x0)] [] := by first | (simp [entryFrame, mkF, argsToLocals, Value.category]; done) | rfl | (simp [entryFrame, mkF, argsToLocals, own_catI, own_catR, *]; done)
def Q_st_coder (Z : State) (sa : Addr) (cps : Int32) (h0 : Heap) (n0 : Nat) (v : Option Value) (h : Heap) (L : List Loc) : Prop := v = some (.int (0 : Int32)) ∧ Fr n0 L ∧ h = h0
set_option maxRecDepth 65536 in
set_option maxHeartbeats 40000000 in
theorem st_coder (l : Launch) (Z : State) (a0 : Array Value) (hw : ∀ d ∈ tables_1, d.before a0 Z = true) (ws : List Jvm.Cond) (sa : Addr) (cps : Int32) (h0 : Heap) (n0 : Nat) (Z0 : n0 ≤ h0.size) (F0_sa_coder : Fld Z h0 sa "java/lang/String" "coder" "B" (.int (0 : Int32))) (F1_java_lang_String : Sta Z Z.heap "java/lang/String" "COMPACT_STRINGS" "Z" (.int cps)) (F2_ : Old Z n0 h0) (hcps : ¬ (cps = (0 : Int32))) :
    MetFree l (⟨"java/lang/String", "coder", "()B"⟩ : MethodName) (head1 (Jvm.Cond.code (⟨"java/lang/String", "coder", "()B"⟩ : MethodName) jdk_42_method_152_code 1 (some .byte) :: ws) ({ frames := 0, cells := 0, slots := 0, locals := 0 } : Room)) (fun a U => a = #[(.ref sa)] ∧ Z.Warmed39 U.vm ∧ U.heap = h0) (fun _ _ _ _ _ => True) (fun _ U o U' => ∃ v L, o = .returned v ∧ Q_st_coder Z sa cps h0 n0 v U'.heap L ∧ FrameEnd U o U' L ({ frames := 0, cells := 0, slots := 0, locals := 0 } : Room).cells ({ frames := 0, cells := 0, slots := 0, locals := 0 } : Room).slots) := by
  refine MetFree.of_bodySF (plainFor_of_name pn_0) hisR ?_
  intro p e s m args below meth c s₁ Bd hml0 hP hK
  obtain ⟨rfl, hZ, hh⟩ := hP
  have hx := Bd.exec
  have hby := Bd.bytes
  have hml : c.maxLocals = 1 := hml0
  have hown : s.vm.findClass "java/lang/String" = some m.cls := findClass_of_methodNamed Bd.named
  have hnm := (name_of_methodNamed Bd.named Bd.method).1
  have X0 : Stand p l e ({ frames := 0, cells := 0, slots := 0, locals := 0 } : Room) s m #[(.ref sa)] below meth c s₁ [] 0 0 := Stand.of_body Bd
  have e0 : s₁.heap = h0 := by rw [← hh, Bd.state]; rfl
  have N0 := Fr.nil n0
  obtain ⟨G, hG⟩ : ∃ G : State → Prop, G = (fun U' => ∃ o, U'.status = .running ∧ Ended U' below o ∧ ∃ v L, o = .returned v ∧ Q_st_coder Z sa cps h0 n0 v U'.heap L ∧ FrameEnd s o U' L ({ frames := 0, cells := 0, slots := 0, locals := 0 } : Room).cells ({ frames := 0, cells := 0, slots := 0, locals := 0 } : Room).slots) := ⟨_, rfl⟩
  suffices key : Gl p.tables e below s₁ (mkF m 0 #[.val (.ref sa)] []) G by
    obtain ⟨s₂, k1, k2⟩ := key
    rw [hG] at k2
    obtain ⟨o, k3, k4, k5⟩ := k2
    exact ⟨s₂, o, castTop (ef_st_coder m sa) k1, k3, k4, k5⟩
  show Gl p.tables e below s₁ (mkF m 0 #[.val (.ref sa)] []) G
  have G1 : Sta Z h0 "java/lang/String" "COMPACT_STRINGS" "Z" (.int cps) := F1_java_lang_String.ext F2_.2
  obtain ⟨T2, X2, e2, st2⟩ := getS2 X0 hx hZ hown (host := "") (Or.inl (hw _ (List.mem_of_getElem? (i := 26) rfl))) Via.refl e0 G1 (g := (mkF m 0 #[.val (.ref sa)] [])) rfl (hb hby d20_0)
  refine Gl.via st2 ?_
  show Gl p.tables e below T2 (mkF m 3 #[.val (.ref sa)] [(.int cps)]) G
  refine Gl.via (fun _ k => XS.ifNo X2.here hx rfl (hb hby d20_3) rfl ((if0 _ _).trans (feq hcps).1) k) ?_
  show Gl p.tables e below T2 (mkF m 6 #[.val (.ref sa)] []) G
  refine Gl.via (fun _ k => XS.aloadN X2.here hx rfl (hb hby d20_6) rfl rfl k) ?_
  show Gl p.tables e below T2 (mkF m 7 #[.val (.ref sa)] [(.ref sa)]) G
  obtain ⟨T3, X3, e3, st3⟩ := getF X2 hx hZ hown (host := "") (Or.inl (hw _ (List.mem_of_getElem? (i := 25) rfl))) Via.refl e2 F0_sa_coder (g := (mkF m 7 #[.val (.ref sa)] [(.ref sa)])) rfl rfl (hb hby d20_7)
  refine Gl.via st3 ?_
  show Gl p.tables e below T3 (mkF m 10 #[.val (.ref sa)] [(.int (0 : Int32))]) G
  refine Gl.via (fun _ k => XS.goto X3.here hx rfl (pc0 := 10) (pc' := 14) rfl (hb hby d20_10) (by decide) (by decide) k) ?_
  show Gl p.tables e below T3 (mkF m 14 #[.val (.ref sa)] [(.int (0 : Int32))]) G
  obtain ⟨fs, hr, hrun, hended, hW, hsame⟩ := X3.leave (v := some (.int (0 : Int32))) (fun h => by rw [Bd.returns] at h; cases h)
  have hq : ∀ L, Fr n0 L → Q_st_coder Z sa cps h0 n0 (some (.int (0 : Int32))) T3.heap L := by
    intro L hN
    rw [e3]
    exact ⟨rfl, hN, rfl⟩
  rw [hG]
  exact Gl.fin (retN X3 hx (t := .byte) Bd.returns (by simp) (hb hby d20_14) hr) ⟨_, hrun, hended, _, _, rfl, hq _ N0, ⟨_, rfl⟩, hW, hsame.mono (by decide) (by decide)⟩
theorem d19_0 : decode jdk_42_method_54_code 0 = .ok (.aload_n 0, 1) := by decide +kernel
theorem d19_1 : decode jdk_42_method_54_code 1 = .ok (.getfield 9, 3) := by decide +kernel
theorem d19_4 : decode jdk_42_method_54_code 4 = .ok (.arraylength, 1) := by decide +kernel
theorem d19_5 : decode jdk_42_method_54_code 5 = .ok (.aload_n 0, 1) := by decide +kernel
theorem d19_6 : decode jdk_42_method_54_code 6 = .ok (.invokevirtual 335, 3) := by decide +kernel
theorem pd_0 : parseMethodDescriptor "()B" = some ⟨[], some .byte⟩ := by decide +kernel
theorem d19_9 : decode jdk_42_method_54_code 9 = .ok (.ishr, 1) := by decide +kernel
theorem d19_10 : decode jdk_42_method_54_code 10 = .ok (.ireturn, 1) := by decide +kernel
theorem ef_st_len (m : MethodId) (x0 : Addr) : entryFrame m #[(.ref x0)] 1 = mkF m 0 #[.val (.ref x0)] [] := by first | (simp [entryFrame, mkF, argsToLocals, Value.category]; done) | rfl | (simp [entryFrame, mkF, argsToLocals, own_catI, own_catR, *]; done)
def Q_st_len (Z : State) (sa : Addr) (sb : Addr) (sk : ClassId) (scs : List Int32) (cps : Int32) (h0 : Heap) (n0 : Nat) (v : Option Value) (h : Heap) (L : List Loc) : Prop := v = some (.int (own_ln scs)) ∧ Fr n0 L ∧ h = h0
set_option maxRecDepth 65536 in
set_option maxHeartbeats 40000000 in
theorem st_len (l : Launch) (Z : State) (a0 : Array Value) (hw : ∀ d ∈ tables_1, d.before a0 Z = true) (ws : List Jvm.Cond) (sa : Addr) (sb : Addr) (sk : ClassId) (scs : List Int32) (cps : Int32) (h0 : Heap) (n0 : Nat) (Z0 : n0 ≤ h0.size) (F0_sa : Exa Z h0 sa "java/lang/String") (F1_sa_coder : Fld Z h0 sa "java/lang/String" "coder" "B" (.int (0 : Int32))) (F2_sa_value : Fld Z h0 sa "java/lang/String" "value" "[B" (.ref sb)) (F3_sb : Arv Z h0 sb sk .byte (own_ln scs) (scs.map Value.int) (.int (0 : Int32))) (F4_java_lang_String : Sta Z Z.heap "java/lang/String" "COMPACT_STRINGS" "Z" (.int cps)) (F5_ : Old Z n0 h0) (hcps : ¬ (cps = (0 : Int32))) :
    MetFree l (⟨"java/lang/String", "length", "()I"⟩ : MethodName) (head1 (Jvm.Cond.code (⟨"java/lang/String", "length", "()I"⟩ : MethodName) jdk_42_method_54_code 1 (some .int) :: ws) ({ frames := 1, cells := 0, slots := 0, locals := 13 } : Room)) (fun a U => a = #[(.ref sa)] ∧ Z.Warmed39 U.vm ∧ U.heap = h0) (fun _ _ _ _ _ => True) (fun _ U o U' => ∃ v L, o = .returned v ∧ Q_st_len Z sa sb sk scs cps h0 n0 v U'.heap L ∧ FrameEnd U o U' L ({ frames := 1, cells := 0, slots := 0, locals := 13 } : Room).cells ({ frames := 1, cells := 0, slots := 0, locals := 13 } : Room).slots) := by
  refine MetFree.of_bodySF (plainFor_of_name pn_0) hisR ?_
  intro p e s m args below meth c s₁ Bd hml0 hP hK
  obtain ⟨rfl, hZ, hh⟩ := hP
  have hx := Bd.exec
  have hby := Bd.bytes
  have hml : c.maxLocals = 1 := hml0
  have hown : s.vm.findClass "java/lang/String" = some m.cls := findClass_of_methodNamed Bd.named
  have hnm := (name_of_methodNamed Bd.named Bd.method).1
  have X0 : Stand p l e ({ frames := 1, cells := 0, slots := 0, locals := 13 } : Room) s m #[(.ref sa)] below meth c s₁ [] 0 0 := Stand.of_body Bd
  have e0 : s₁.heap = h0 := by rw [← hh, Bd.state]; rfl
  have N0 := Fr.nil n0
  obtain ⟨G, hG⟩ : ∃ G : State → Prop, G = (fun U' => ∃ o, U'.status = .running ∧ Ended U' below o ∧ ∃ v L, o = .returned v ∧ Q_st_len Z sa sb sk scs cps h0 n0 v U'.heap L ∧ FrameEnd s o U' L ({ frames := 1, cells := 0, slots := 0, locals := 13 } : Room).cells ({ frames := 1, cells := 0, slots := 0, locals := 13 } : Room).slots) := ⟨_, rfl⟩
  suffices key : Gl p.tables e below s₁ (mkF m 0 #[.val (.ref sa)] []) G by
    obtain ⟨s₂, k1, k2⟩ := key
    rw [hG] at k2
    obtain ⟨o, k3, k4, k5⟩ := k2
    exact ⟨s₂, o, castTop (ef_st_len m sa) k1, k3, k4, k5⟩
  show Gl p.tables e below s₁ (mkF m 0 #[.val (.ref sa)] []) G
  refine Gl.via (fun _ k => XS.aloadN X0.here hx rfl (hb hby d19_0) rfl rfl k) ?_
  show Gl p.tables e below s₁ (mkF m 1 #[.val (.ref sa)] [(.ref sa)]) G
  obtain ⟨T1, X1, e1, st1⟩ := getF X0 hx hZ hown (host := "") (Or.inl (hw _ (List.mem_of_getElem? (i := 24) rfl))) Via.refl e0 F2_sa_value (g := (mkF m 1 #[.val (.ref sa)] [(.ref sa)])) rfl rfl (hb hby d19_1)
  refine Gl.via st1 ?_
  show Gl p.tables e below T1 (mkF m 4 #[.val (.ref sa)] [(.ref sb)]) G
  obtain ⟨cl2, Ar2, -, S2, N2, -, -⟩ := id F3_sb
  refine Gl.via (fun _ k => X1.arraylength hx (by rw [e1]; exact Ar2.1) (State.isArrayOf_alike hZ.alike Ar2.2.1) (g := (mkF m 4 #[.val (.ref sa)] [(.ref sb)])) rfl rfl (hb hby d19_4) _ k) ?_
  rw [len_of S2 N2]
  show Gl p.tables e below T1 (mkF m 5 #[.val (.ref sa)] [(.int (own_ln scs))]) G
  refine Gl.via (fun _ k => XS.aloadN X1.here hx rfl (hb hby d19_5) rfl rfl k) ?_
  show Gl p.tables e below T1 (mkF m 6 #[.val (.ref sa)] [(.ref sa), (.int (own_ln scs))]) G
  obtain ⟨cq3, kq3, q3a, q3b, q3c⟩ := isOf hZ e1 F0_sa
  obtain ⟨_, _, ⟨T3, L3, k3, n3⟩, -, X3, ⟨Lc3, hQ3, l3, y3, z3⟩, st3⟩ := X1.virtualBack hx (y := (⟨"java/lang/String", "coder", "()B"⟩ : MethodName)) (z := (⟨"java/lang/String", "coder", "()B"⟩ : MethodName)) hown (mvT hZ (hw _ (List.mem_of_getElem? (i := 109) rfl))) (mvT hZ (hw _ (List.mem_of_getElem? (i := 110) rfl))) (notFace_of_selects (args := #[]) (mvT hZ (hw _ (List.mem_of_getElem? (i := 112) rfl)))) (mvT hZ (hw _ (List.mem_of_getElem? (i := 112) rfl))) (mvT hZ (hw _ (List.mem_of_getElem? (i := 111) rfl))) (by decide) (backOf (W := 1) (st_coder l Z a0 hw [] sa cps h0 n0 Z0 F1_sa_coder F4_java_lang_String F5_ hcps) hZ (hw _ (List.mem_of_getElem? (i := 113) rfl)) (hw _ (List.mem_of_getElem? (i := 6) rfl)) (by decide) (by decide)) q3a q3c (g := (mkF m 6 #[.val (.ref sa)] [(.ref sa), (.int (own_ln scs))])) rfl (by rw [hml]; rfl) (Steps.refl _) (argsL := []) (rest := [(.int (own_ln scs))]) (lenOf pd_0 rfl) rfl (by show 2 * 0 + _ ≤ _; exact Nat.le_of_eq rfl) (hb hby d19_6) (fun _ _ => ⟨rfl, e1, (by decide : 0 + 0 ≤ _), (by decide : 0 + 0 ≤ _)⟩)
  dsimp only [Pt.U, Pt.locs, Pt.cells, Pt.slots] at X3 l3 y3 z3 st3 hQ3
  subst l3 y3 z3
  obtain ⟨rfl, N3q, eh3⟩ := hQ3
  have N3_ := Fr.app N0 N3q
  refine Gl.via (fun _ k => st3.trans k) ?_
  show Gl p.tables e below T3 (mkF m 9 #[.val (.ref sa)] [(.int (0 : Int32)), (.int (own_ln scs))]) G
  refine Gl.via (fun _ k => XS.ishr X3.here hx rfl (hb hby d19_9) rfl k) ?_
  show Gl p.tables e below T3 (mkF m 10 #[.val (.ref sa)] [(.int ((own_ln scs) >>> ((0 : Int32) &&& 31)))]) G
  rw [show ((own_ln scs) >>> ((0 : Int32) &&& 31)) = (own_ln scs) from (own_shr0 _)]
  show Gl p.tables e below T3 (mkF m 10 #[.val (.ref sa)] [(.int (own_ln scs))]) G
  obtain ⟨fs, hr, hrun, hended, hW, hsame⟩ := X3.leave (v := some (.int (own_ln scs))) (fun h => by rw [Bd.returns] at h; cases h)
  have hq : ∀ L, Fr n0 L → Q_st_len Z sa sb sk scs cps h0 n0 (some (.int (own_ln scs))) T3.heap L := by
    intro L hN
    rw [eh3]
    exact ⟨rfl, hN, rfl⟩
  rw [hG]
  exact Gl.fin (retOut X3 hx Bd.returns rfl (Or.inl ⟨rfl, Or.inl rfl, _, rfl⟩) (hb hby d19_10) hr) ⟨_, hrun, hended, _, _, rfl, hq _ N3_, ⟨_, rfl⟩, hW, hsame.mono (by decide) (by decide)⟩
theorem d37_0 : decode jdk_42_method_154_code 0 = .ok (.getstatic 38, 3) := by decide +kernel
theorem d37_3 : decode jdk_42_method_154_code 3 = .ok (.ifCond .eq 14, 3) := by decide +kernel
theorem d37_6 : decode jdk_42_method_154_code 6 = .ok (.aload_n 0, 1) := by decide +kernel
theorem d37_7 : decode jdk_42_method_154_code 7 = .ok (.getfield 15, 3) := by decide +kernel
theorem d37_10 : decode jdk_42_method_154_code 10 = .ok (.ifCond .ne 7, 3) := by decide +kernel
theorem d37_13 : decode jdk_42_method_154_code 13 = .ok (.iconst 1, 1) := by decide +kernel
theorem d37_14 : decode jdk_42_method_154_code 14 = .ok (.goto 4, 3) := by decide +kernel
theorem d37_18 : decode jdk_42_method_154_code 18 = .ok (.ireturn, 1) := by decide +kernel
theorem ef_st_lat (m : MethodId) (x0 : Addr) : entryFrame m #[(.ref x0)] 1 = mkF m 0 #[.val (.ref x0)] [] := by first | (simp [entryFrame, mkF, argsToLocals, Value.category]; done) | rfl | (simp [entryFrame, mkF, argsToLocals, own_catI, own_catR, *]; done)
def Q_st_lat (Z : State) (sa : Addr) (cps : Int32) (h0 : Heap) (n0 : Nat) (v : Option Value) (h : Heap) (L : List Loc) : Prop := v = some (.int (1 : Int32)) ∧ Fr n0 L ∧ h = h0
set_option maxRecDepth 65536 in
set_option maxHeartbeats 40000000 in
theorem st_lat (l : Launch) (Z : State) (a0 : Array Value) (hw : ∀ d ∈ tables_1, d.before a0 Z = true) (ws : List Jvm.Cond) (sa : Addr) (cps : Int32) (h0 : Heap) (n0 : Nat) (Z0 : n0 ≤ h0.size) (F0_sa_coder : Fld Z h0 sa "java/lang/String" "coder" "B" (.int (0 : Int32))) (F1_java_lang_String : Sta Z Z.heap "java/lang/String" "COMPACT_STRINGS" "Z" (.int cps)) (F2_ : Old Z n0 h0) (hcps : ¬ (cps = (0 : Int32))) :
    MetFree l (⟨"java/lang/String", "isLatin1", "()Z"⟩ : MethodName) (head1 (Jvm.Cond.code (⟨"java/lang/String", "isLatin1", "()Z"⟩ : MethodName) jdk_42_method_154_code 1 (some .boolean) :: ws) ({ frames := 0, cells := 0, slots := 0, locals := 0 } : Room)) (fun a U => a = #[(.ref sa)] ∧ Z.Warmed39 U.vm ∧ U.heap = h0) (fun _ _ _ _ _ => True) (fun _ U o U' => ∃ v L, o = .returned v ∧ Q_st_lat Z sa cps h0 n0 v U'.heap L ∧ FrameEnd U o U' L ({ frames := 0, cells := 0, slots := 0, locals := 0 } : Room).cells ({ frames := 0, cells := 0, slots := 0, locals := 0 } : Room).slots) := by
  refine MetFree.of_bodySF (plainFor_of_name pn_0) hisR ?_
  intro p e s m args below meth c s₁ Bd hml0 hP hK
  obtain ⟨rfl, hZ, hh⟩ := hP
  have hx := Bd.exec
  have hby := Bd.bytes
  have hml : c.maxLocals = 1 := hml0
  have hown : s.vm.findClass "java/lang/String" = some m.cls := findClass_of_methodNamed Bd.named
  have hnm := (name_of_methodNamed Bd.named Bd.method).1
  have X0 : Stand p l e ({ frames := 0, cells := 0, slots := 0, locals := 0 } : Room) s m #[(.ref sa)] below meth c s₁ [] 0 0 := Stand.of_body Bd
  have e0 : s₁.heap = h0 := by rw [← hh, Bd.state]; rfl
  have N0 := Fr.nil n0
  obtain ⟨G, hG⟩ : ∃ G : State → Prop, G = (fun U' => ∃ o, U'.status = .running ∧ Ended U' below o ∧ ∃ v L, o = .returned v ∧ Q_st_lat Z sa cps h0 n0 v U'.heap L ∧ FrameEnd s o U' L ({ frames := 0, cells := 0, slots := 0, locals := 0 } : Room).cells ({ frames := 0, cells := 0, slots := 0, locals := 0 } : Room).slots) := ⟨_, rfl⟩
  suffices key : Gl p.tables e below s₁ (mkF m 0 #[.val (.ref sa)] []) G by
    obtain ⟨s₂, k1, k2⟩ := key
    rw [hG] at k2
    obtain ⟨o, k3, k4, k5⟩ := k2
    exact ⟨s₂, o, castTop (ef_st_lat m sa) k1, k3, k4, k5⟩
  show Gl p.tables e below s₁ (mkF m 0 #[.val (.ref sa)] []) G
  have G1 : Sta Z h0 "java/lang/String" "COMPACT_STRINGS" "Z" (.int cps) := F1_java_lang_String.ext F2_.2
  obtain ⟨T2, X2, e2, st2⟩ := getS2 X0 hx hZ hown (host := "") (Or.inl (hw _ (List.mem_of_getElem? (i := 26) rfl))) Via.refl e0 G1 (g := (mkF m 0 #[.val (.ref sa)] [])) rfl (hb hby d37_0)
  refine Gl.via st2 ?_
  show Gl p.tables e below T2 (mkF m 3 #[.val (.ref sa)] [(.int cps)]) G
  refine Gl.via (fun _ k => XS.ifNo X2.here hx rfl (hb hby d37_3) rfl ((if0 _ _).trans (feq hcps).1) k) ?_
  show Gl p.tables e below T2 (mkF m 6 #[.val (.ref sa)] []) G
  refine Gl.via (fun _ k => XS.aloadN X2.here hx rfl (hb hby d37_6) rfl rfl k) ?_
  show Gl p.tables e below T2 (mkF m 7 #[.val (.ref sa)] [(.ref sa)]) G
  obtain ⟨T3, X3, e3, st3⟩ := getF X2 hx hZ hown (host := "") (Or.inl (hw _ (List.mem_of_getElem? (i := 25) rfl))) Via.refl e2 F0_sa_coder (g := (mkF m 7 #[.val (.ref sa)] [(.ref sa)])) rfl rfl (hb hby d37_7)
  refine Gl.via st3 ?_
  show Gl p.tables e below T3 (mkF m 10 #[.val (.ref sa)] [(.int (0 : Int32))]) G
  refine Gl.via (fun _ k => XS.ifNo X3.here hx rfl (hb hby d37_10) rfl ((if0 _ _).trans (teq (by decide)).2) k) ?_
  show Gl p.tables e below T3 (mkF m 13 #[.val (.ref sa)] []) G
  refine Gl.via (fun _ k => XS.iconst X3.here hx rfl (hb hby d37_13) k) ?_
  show Gl p.tables e below T3 (mkF m 14 #[.val (.ref sa)] [(.int (1 : Int32))]) G
  refine Gl.via (fun _ k => XS.goto X3.here hx rfl (pc0 := 14) (pc' := 18) rfl (hb hby d37_14) (by decide) (by decide) k) ?_
  show Gl p.tables e below T3 (mkF m 18 #[.val (.ref sa)] [(.int (1 : Int32))]) G
  obtain ⟨fs, hr, hrun, hended, hW, hsame⟩ := X3.leave (v := some (.int (1 : Int32))) (fun h => by rw [Bd.returns] at h; cases h)
  have hq : ∀ L, Fr n0 L → Q_st_lat Z sa cps h0 n0 (some (.int (1 : Int32))) T3.heap L := by
    intro L hN
    rw [e3]
    exact ⟨rfl, hN, rfl⟩
  rw [hG]
  exact Gl.fin (retN X3 hx (t := .boolean) Bd.returns (by simp) (hb hby d37_18) hr) ⟨_, hrun, hended, _, _, rfl, hq _ N0, ⟨_, rfl⟩, hW, hsame.mono (by decide) (by decide)⟩
theorem pn_1 : plainName "jdk/internal/util/Preconditions" = true := by first | (simp [plainName, overriddenIn]; done) | decide +kernel
theorem d40_0 : decode jdk_41_method_11_code 0 = .ok (.iload_n 0, 1) := by decide +kernel
theorem d40_1 : decode jdk_41_method_11_code 1 = .ok (.ifCond .lt 8, 3) := by decide +kernel
theorem d40_4 : decode jdk_41_method_11_code 4 = .ok (.iload_n 0, 1) := by decide +kernel
theorem d40_5 : decode jdk_41_method_11_code 5 = .ok (.iload_n 1, 1) := by decide +kernel
theorem d40_6 : decode jdk_41_method_11_code 6 = .ok (.if_icmp .lt 10, 3) := by decide +kernel
theorem d40_16 : decode jdk_41_method_11_code 16 = .ok (.iload_n 0, 1) := by decide +kernel
theorem d40_17 : decode jdk_41_method_11_code 17 = .ok (.ireturn, 1) := by decide +kernel
theorem ef_pre_chk (m : MethodId) (x0 : Int32) (x1 : Int32) (x2 : Value) (hx2 : x2.category = 1) : entryFrame m #[(.int x0), (.int x1), x2] 3 = mkF m 0 #[.val (.int x0), .val (.int x1), .val x2] [] := by first | (simp [entryFrame, mkF, argsToLocals, Value.category]; done) | rfl | (simp [entryFrame, mkF, argsToLocals, own_catI, own_catR, *]; done)
def Q_pre_chk (Z : State) (ix : Int32) (iz : Int32) (fm : Value) (h0 : Heap) (n0 : Nat) (v : Option Value) (h : Heap) (L : List Loc) : Prop := v = some (.int ix) ∧ Fr n0 L ∧ h = h0
set_option maxRecDepth 65536 in
set_option maxHeartbeats 40000000 in
theorem pre_chk (l : Launch) (Z : State) (a0 : Array Value) (hw : ∀ d ∈ tables_1, d.before a0 Z = true) (ws : List Jvm.Cond) (ix : Int32) (iz : Int32) (fm : Value) (h0 : Heap) (n0 : Nat) (Z0 : n0 ≤ h0.size) (hfm : fm.category = 1) (hi0 : ¬ (ix < (0 : Int32))) (hi1 : ix < iz) :
    MetFree l (⟨"jdk/internal/util/Preconditions", "checkIndex", "(IILjava/util/function/BiFunction;)I"⟩ : MethodName) (head1 (Jvm.Cond.code (⟨"jdk/internal/util/Preconditions", "checkIndex", "(IILjava/util/function/BiFunction;)I"⟩ : MethodName) jdk_41_method_11_code 3 (some .int) :: ws) ({ frames := 0, cells := 0, slots := 0, locals := 0 } : Room)) (fun a U => a = #[(.int ix), (.int iz), fm] ∧ Z.Warmed39 U.vm ∧ U.heap = h0) (fun _ _ _ _ _ => True) (fun _ U o U' => ∃ v L, o = .returned v ∧ Q_pre_chk Z ix iz fm h0 n0 v U'.heap L ∧ FrameEnd U o U' L ({ frames := 0, cells := 0, slots := 0, locals := 0 } : Room).cells ({ frames := 0, cells := 0, slots := 0, locals := 0 } : Room).slots) := by
  refine MetFree.of_bodySF (plainFor_of_name pn_1) hisR ?_
  intro p e s m args below meth c s₁ Bd hml0 hP hK
  obtain ⟨rfl, hZ, hh⟩ := hP
  have hx := Bd.exec
  have hby := Bd.bytes
  have hml : c.maxLocals = 3 := hml0
  have hown : s.vm.findClass "jdk/internal/util/Preconditions" = some m.cls := findClass_of_methodNamed Bd.named
  have hnm := (name_of_methodNamed Bd.named Bd.method).1
  have X0 : Stand p l e ({ frames := 0, cells := 0, slots := 0, locals := 0 } : Room) s m #[(.int ix), (.int iz), fm] below meth c s₁ [] 0 0 := Stand.of_body Bd
  have e0 : s₁.heap = h0 := by rw [← hh, Bd.state]; rfl
  have N0 := Fr.nil n0
  obtain ⟨G, hG⟩ : ∃ G : State → Prop, G = (fun U' => ∃ o, U'.status = .running ∧ Ended U' below o ∧ ∃ v L, o = .returned v ∧ Q_pre_chk Z ix iz fm h0 n0 v U'.heap L ∧ FrameEnd s o U' L ({ frames := 0, cells := 0, slots := 0, locals := 0 } : Room).cells ({ frames := 0, cells := 0, slots := 0, locals := 0 } : Room).slots) := ⟨_, rfl⟩
  suffices key : Gl p.tables e below s₁ (mkF m 0 #[.val (.int ix), .val (.int iz), .val fm] []) G by
    obtain ⟨s₂, k1, k2⟩ := key
    rw [hG] at k2
    obtain ⟨o, k3, k4, k5⟩ := k2
    exact ⟨s₂, o, castTop (ef_pre_chk m ix iz fm (by assumption)) k1, k3, k4, k5⟩
  show Gl p.tables e below s₁ (mkF m 0 #[.val (.int ix), .val (.int iz), .val fm] []) G
  refine Gl.via (fun _ k => XS.iloadN X0.here hx rfl (hb hby d40_0) rfl k) ?_
  show Gl p.tables e below s₁ (mkF m 1 #[.val (.int ix), .val (.int iz), .val fm] [(.int ix)]) G
  refine Gl.via (fun _ k => XS.ifNo X0.here hx rfl (hb hby d40_1) rfl ((if0 _ _).trans (flt hi0).1) k) ?_
  show Gl p.tables e below s₁ (mkF m 4 #[.val (.int ix), .val (.int iz), .val fm] []) G
  refine Gl.via (fun _ k => XS.iloadN X0.here hx rfl (hb hby d40_4) rfl k) ?_
  show Gl p.tables e below s₁ (mkF m 5 #[.val (.int ix), .val (.int iz), .val fm] [(.int ix)]) G
  refine Gl.via (fun _ k => XS.iloadN X0.here hx rfl (hb hby d40_5) rfl k) ?_
  show Gl p.tables e below s₁ (mkF m 6 #[.val (.int ix), .val (.int iz), .val fm] [(.int iz), (.int ix)]) G
  refine Gl.via (fun _ k => XS.icmpYes X0.here hx rfl (pc0 := 6) (pc' := 16) rfl (hb hby d40_6) rfl (tlt hi1).1 (by decide) (by decide) k) ?_
  show Gl p.tables e below s₁ (mkF m 16 #[.val (.int ix), .val (.int iz), .val fm] []) G
  refine Gl.via (fun _ k => XS.iloadN X0.here hx rfl (hb hby d40_16) rfl k) ?_
  show Gl p.tables e below s₁ (mkF m 17 #[.val (.int ix), .val (.int iz), .val fm] [(.int ix)]) G
  obtain ⟨fs, hr, hrun, hended, hW, hsame⟩ := X0.leave (v := some (.int ix)) (fun h => by rw [Bd.returns] at h; cases h)
  have hq : ∀ L, Fr n0 L → Q_pre_chk Z ix iz fm h0 n0 (some (.int ix)) s₁.heap L := by
    intro L hN
    rw [e0]
    exact ⟨rfl, hN, rfl⟩
  rw [hG]
  exact Gl.fin (retOut X0 hx Bd.returns rfl (Or.inl ⟨rfl, Or.inl rfl, _, rfl⟩) (hb hby d40_17) hr) ⟨_, hrun, hended, _, _, rfl, hq _ N0, ⟨_, rfl⟩, hW, hsame.mono (by decide) (by decide)⟩
theorem d39_0 : decode jdk_42_method_155_code 0 = .ok (.iload_n 0, 1) := by decide +kernel
theorem d39_1 : decode jdk_42_method_155_code 1 = .ok (.iload_n 1, 1) := by decide +kernel
theorem d39_2 : decode jdk_42_method_155_code 2 = .ok (.getstatic 1053, 3) := by decide +kernel
theorem d39_5 : decode jdk_42_method_155_code 5 = .ok (.invokestatic 1059, 3) := by decide +kernel
theorem pd_1 : parseMethodDescriptor "(IILjava/util/function/BiFunction;)I" = some ⟨[.int, .int, (.object "java/util/function/BiFunction")], some .int⟩ := by decide +kernel
theorem d39_8 : decode jdk_42_method_155_code 8 = .ok (.pop, 1) := by decide +kernel
theorem d39_9 : decode jdk_42_method_155_code 9 = .ok (.return_, 1) := by decide +kernel
theorem ef_st_chk (m : MethodId) (x0 : Int32) (x1 : Int32) : entryFrame m #[(.int x0), (.int x1)] 2 = mkF m 0 #[.val (.int x0), .val (.int x1)] [] := by first | (simp [entryFrame, mkF, argsToLocals, Value.category]; done) | rfl | (simp [entryFrame, mkF, argsToLocals, own_catI, own_catR, *]; done)
def Q_st_chk (Z : State) (ix : Int32) (iz : Int32) (fm : Value) (h0 : Heap) (n0 : Nat) (v : Option Value) (h : Heap) (L : List Loc) : Prop := v = none ∧ Fr n0 L ∧ h = h0
set_option maxRecDepth 65536 in
set_option maxHeartbeats 40000000 in
theorem st_chk (l : Launch) (Z : State) (a0 : Array Value) (hw : ∀ d ∈ tables_1, d.before a0 Z = true) (ws : List Jvm.Cond) (ix : Int32) (iz : Int32) (fm : Value) (h0 : Heap) (n0 : Nat) (Z0 : n0 ≤ h0.size) (F0_jdk_internal_util_Preconditions : Sta Z Z.heap "jdk/internal/util/Preconditions" "SIOOBE_FORMATTER" "Ljava/util/function/BiFunction;" fm) (F1_ : Old Z n0 h0) (hfm : fm.category = 1) (hi0 : ¬ (ix < (0 : Int32))) (hi1 : ix < iz) :
    MetFree l (⟨"java/lang/String", "checkIndex", "(II)V"⟩ : MethodName) (head1 (Jvm.Cond.code (⟨"java/lang/String", "checkIndex", "(II)V"⟩ : MethodName) jdk_42_method_155_code 2 none :: ws) ({ frames := 1, cells := 0, slots := 0, locals := 14 } : Room)) (fun a U => a = #[(.int ix), (.int iz)] ∧ Z.Warmed39 U.vm ∧ U.heap = h0) (fun _ _ _ _ _ => True) (fun _ U o U' => ∃ v L, o = .returned v ∧ Q_st_chk Z ix iz fm h0 n0 v U'.heap L ∧ FrameEnd U o U' L ({ frames := 1, cells := 0, slots := 0, locals := 14 } : Room).cells ({ frames := 1, cells := 0, slots := 0, locals := 14 } : Room).slots) := by
  refine MetFree.of_bodySF (plainFor_of_name pn_0) hisR ?_
  intro p e s m args below meth c s₁ Bd hml0 hP hK
  obtain ⟨rfl, hZ, hh⟩ := hP
  have hx := Bd.exec
  have hby := Bd.bytes
  have hml : c.maxLocals = 2 := hml0
  have hown : s.vm.findClass "java/lang/String" = some m.cls := findClass_of_methodNamed Bd.named
  have hnm := (name_of_methodNamed Bd.named Bd.method).1
  have X0 : Stand p l e ({ frames := 1, cells := 0, slots := 0, locals := 14 } : Room) s m #[(.int ix), (.int iz)] below meth c s₁ [] 0 0 := Stand.of_body Bd
  have e0 : s₁.heap = h0 := by rw [← hh, Bd.state]; rfl
  have N0 := Fr.nil n0
  obtain ⟨G, hG⟩ : ∃ G : State → Prop, G = (fun U' => ∃ o, U'.status = .running ∧ Ended U' below o ∧ ∃ v L, o = .returned v ∧ Q_st_chk Z ix iz fm h0 n0 v U'.heap L ∧ FrameEnd s o U' L ({ frames := 1, cells := 0, slots := 0, locals := 14 } : Room).cells ({ frames := 1, cells := 0, slots := 0, locals := 14 } : Room).slots) := ⟨_, rfl⟩
  suffices key : Gl p.tables e below s₁ (mkF m 0 #[.val (.int ix), .val (.int iz)] []) G by
    obtain ⟨s₂, k1, k2⟩ := key
    rw [hG] at k2
    obtain ⟨o, k3, k4, k5⟩ := k2
    exact ⟨s₂, o, castTop (ef_st_chk m ix iz) k1, k3, k4, k5⟩
  show Gl p.tables e below s₁ (mkF m 0 #[.val (.int ix), .val (.int iz)] []) G
  refine Gl.via (fun _ k => XS.iloadN X0.here hx rfl (hb hby d39_0) rfl k) ?_
  show Gl p.tables e below s₁ (mkF m 1 #[.val (.int ix), .val (.int iz)] [(.int ix)]) G
  refine Gl.via (fun _ k => XS.iloadN X0.here hx rfl (hb hby d39_1) rfl k) ?_
  show Gl p.tables e below s₁ (mkF m 2 #[.val (.int ix), .val (.int iz)] [(.int iz), (.int ix)]) G
  have G1 : Sta Z h0 "jdk/internal/util/Preconditions" "SIOOBE_FORMATTER" "Ljava/util/function/BiFunction;" fm := F0_jdk_internal_util_Preconditions.ext F1_.2
  obtain ⟨T2, X2, e2, st2⟩ := getS2 X0 hx hZ hown (host := "") (Or.inl (hw _ (List.mem_of_getElem? (i := 204) rfl))) Via.refl e0 G1 (g := (mkF m 2 #[.val (.int ix), .val (.int iz)] [(.int iz), (.int ix)])) rfl (hb hby d39_2)
  refine Gl.via st2 ?_
  show Gl p.tables e below T2 (mkF m 5 #[.val (.int ix), .val (.int iz)] [fm, (.int iz), (.int ix)]) G
  obtain ⟨_, _, ⟨T3, L3, k3, n3⟩, -, X3, ⟨Lc3, hQ3, l3, y3, z3⟩, st3⟩ := Jvm.LawKit.callS X2 hx (y := (⟨"jdk/internal/util/Preconditions", "checkIndex", "(IILjava/util/function/BiFunction;)I"⟩ : MethodName)) hown (mvT hZ (hw _ (List.mem_of_getElem? (i := 206) rfl))) (mvT hZ (hw _ (List.mem_of_getElem? (i := 207) rfl))) (mvT hZ (hw _ (List.mem_of_getElem? (i := 205) rfl))) (mvT hZ (hw _ (List.mem_of_getElem? (i := 208) rfl))) (by decide) (backOf (W := 0) (pre_chk l Z a0 hw [] ix iz fm h0 n0 Z0 hfm hi0 hi1) hZ (hw _ (List.mem_of_getElem? (i := 208) rfl)) (hw _ (List.mem_of_getElem? (i := 205) rfl)) (by decide) (by decide)) (g := (mkF m 5 #[.val (.int ix), .val (.int iz)] [fm, (.int iz), (.int ix)])) rfl (by rw [hml]; rfl) (argsL := [(.int ix), (.int iz), fm]) (rest := []) (lenOf pd_1 rfl) rfl (by show 2 * 0 + _ ≤ _; exact Nat.le_of_eq rfl) (hb hby d39_5) (fun _ _ => ⟨rfl, e2, (by decide : 0 + 0 ≤ _), (by decide : 0 + 0 ≤ _)⟩)
  dsimp only [Pt.U, Pt.locs, Pt.cells, Pt.slots] at X3 l3 y3 z3 st3 hQ3
  subst l3 y3 z3
  obtain ⟨rfl, N3q, eh3⟩ := hQ3
  have N3_ := Fr.app N0 N3q
  refine Gl.via (fun _ k => st3 _ k) ?_
  show Gl p.tables e below T3 (mkF m 8 #[.val (.int ix), .val (.int iz)] [(.int ix)]) G
  refine Gl.via (fun _ k => XS.pop X3.here hx rfl (hb hby d39_8) rfl rfl k) ?_
  show Gl p.tables e below T3 (mkF m 9 #[.val (.int ix), .val (.int iz)] []) G
  obtain ⟨fs, hr, hrun, hended, hW, hsame⟩ := X3.leave (v := none) (fun _ => rfl)
  have hq : ∀ L, Fr n0 L → Q_st_chk Z ix iz fm h0 n0 (none) T3.heap L := by
    intro L hN
    rw [eh3]
    exact ⟨rfl, hN, rfl⟩
  rw [hG]
  exact Gl.fin (X3.returnOut hx Bd.returns (hb hby d39_9) hr) ⟨_, hrun, hended, _, _, rfl, hq _ N3_, ⟨_, rfl⟩, hW, hsame.mono (by decide) (by decide)⟩
theorem pn_2 : plainName "java/lang/StringLatin1" = true := by first | (simp [plainName, overriddenIn]; done) | decide +kernel
theorem d38_0 : decode jdk_43_method_2_code 0 = .ok (.iload_n 1, 1) := by decide +kernel
theorem d38_1 : decode jdk_43_method_2_code 1 = .ok (.aload_n 0, 1) := by decide +kernel
theorem d38_2 : decode jdk_43_method_2_code 2 = .ok (.arraylength, 1) := by decide +kernel
theorem d38_3 : decode jdk_43_method_2_code 3 = .ok (.invokestatic 9, 3) := by decide +kernel
theorem pd_2 : parseMethodDescriptor "(II)V" = some ⟨[.int, .int], none⟩ := by decide +kernel
theorem d38_6 : decode jdk_43_method_2_code 6 = .ok (.aload_n 0, 1) := by decide +kernel
theorem d38_7 : decode jdk_43_method_2_code 7 = .ok (.iload_n 1, 1) := by decide +kernel
theorem d38_8 : decode jdk_43_method_2_code 8 = .ok (.baload, 1) := by decide +kernel
theorem d38_9 : decode jdk_43_method_2_code 9 = .ok (.sipush 255, 3) := by decide +kernel
theorem d38_12 : decode jdk_43_method_2_code 12 = .ok (.iand, 1) := by decide +kernel
theorem d38_13 : decode jdk_43_method_2_code 13 = .ok (.i2c, 1) := by decide +kernel
theorem d38_14 : decode jdk_43_method_2_code 14 = .ok (.ireturn, 1) := by decide +kernel
theorem ef_l1_at (m : MethodId) (x0 : Addr) (x1 : Int32) : entryFrame m #[(.ref x0), (.int x1)] 2 = mkF m 0 #[.val (.ref x0), .val (.int x1)] [] := by first | (simp [entryFrame, mkF, argsToLocals, Value.category]; done) | rfl | (simp [entryFrame, mkF, argsToLocals, own_catI, own_catR, *]; done)
def Q_l1_at (Z : State) (sb : Addr) (sk : ClassId) (scs : List Int32) (ix : Int32) (iv : Int32) (fm : Value) (h0 : Heap) (n0 : Nat) (v : Option Value) (h : Heap) (L : List Loc) : Prop := v = some (.int (iv &&& (255 : Int32))) ∧ Fr n0 L ∧ h = h0
set_option maxRecDepth 65536 in
set_option maxHeartbeats 40000000 in
theorem l1_at (l : Launch) (Z : State) (a0 : Array Value) (hw : ∀ d ∈ tables_1, d.before a0 Z = true) (ws : List Jvm.Cond) (sb : Addr) (sk : ClassId) (scs : List Int32) (ix : Int32) (iv : Int32) (fm : Value) (h0 : Heap) (n0 : Nat) (Z0 : n0 ≤ h0.size) (F0_sb : Arv Z h0 sb sk .byte (own_ln scs) (scs.map Value.int) (.int (0 : Int32))) (F1_jdk_internal_util_Preconditions : Sta Z Z.heap "jdk/internal/util/Preconditions" "SIOOBE_FORMATTER" "Ljava/util/function/BiFunction;" fm) (F2_ : Old Z n0 h0) (hfm : fm.category = 1) (hi0 : ¬ (ix < (0 : Int32))) (hi1 : ix < own_ln scs) (hat : (scs.map Value.int).getD ix.toNatClampNeg (.int (0 : Int32)) = .int iv) :
    MetFree l (⟨"java/lang/StringLatin1", "charAt", "([BI)C"⟩ : MethodName) (head1 (Jvm.Cond.code (⟨"java/lang/StringLatin1", "charAt", "([BI)C"⟩ : MethodName) jdk_43_method_2_code 2 (some .char) :: ws) ({ frames := 2, cells := 0, slots := 0, locals := 27 } : Room)) (fun a U => a = #[(.ref sb), (.int ix)] ∧ Z.Warmed39 U.vm ∧ U.heap = h0) (fun _ _ _ _ _ => True) (fun _ U o U' => ∃ v L, o = .returned v ∧ Q_l1_at Z sb sk scs ix iv fm h0 n0 v U'.heap L ∧ FrameEnd U o U' L ({ frames := 2, cells := 0, slots := 0, locals := 27 } : Room).cells ({ frames := 2, cells := 0, slots := 0, locals := 27 } : Room).slots) := by
  refine MetFree.of_bodySF (plainFor_of_name pn_2) hisR ?_
  intro p e s m args below meth c s₁ Bd hml0 hP hK
  obtain ⟨rfl, hZ, hh⟩ := hP
  have hx := Bd.exec
  have hby := Bd.bytes
  have hml : c.maxLocals = 2 := hml0
  have hown : s.vm.findClass "java/lang/StringLatin1" = some m.cls := findClass_of_methodNamed Bd.named
  have hnm := (name_of_methodNamed Bd.named Bd.method).1
  have X0 : Stand p l e ({ frames := 2, cells := 0, slots := 0, locals := 27 } : Room) s m #[(.ref sb), (.int ix)] below meth c s₁ [] 0 0 := Stand.of_body Bd
  have e0 : s₁.heap = h0 := by rw [← hh, Bd.state]; rfl
  have N0 := Fr.nil n0
  obtain ⟨G, hG⟩ : ∃ G : State → Prop, G = (fun U' => ∃ o, U'.status = .running ∧ Ended U' below o ∧ ∃ v L, o = .returned v ∧ Q_l1_at Z sb sk scs ix iv fm h0 n0 v U'.heap L ∧ FrameEnd s o U' L ({ frames := 2, cells := 0, slots := 0, locals := 27 } : Room).cells ({ frames := 2, cells := 0, slots := 0, locals := 27 } : Room).slots) := ⟨_, rfl⟩
  suffices key : Gl p.tables e below s₁ (mkF m 0 #[.val (.ref sb), .val (.int ix)] []) G by
    obtain ⟨s₂, k1, k2⟩ := key
    rw [hG] at k2
    obtain ⟨o, k3, k4, k5⟩ := k2
    exact ⟨s₂, o, castTop (ef_l1_at m sb ix) k1, k3, k4, k5⟩
  show Gl p.tables e below s₁ (mkF m 0 #[.val (.ref sb), .val (.int ix)] []) G
  refine Gl.via (fun _ k => XS.iloadN X0.here hx rfl (hb hby d38_0) rfl k) ?_
  show Gl p.tables e below s₁ (mkF m 1 #[.val (.ref sb), .val (.int ix)] [(.int ix)]) G
  refine Gl.via (fun _ k => XS.aloadN X0.here hx rfl (hb hby d38_1) rfl rfl k) ?_
  show Gl p.tables e below s₁ (mkF m 2 #[.val (.ref sb), .val (.int ix)] [(.ref sb), (.int ix)]) G
  obtain ⟨cl1, Ar1, -, S1, N1, -, -⟩ := id F0_sb
  refine Gl.via (fun _ k => X0.arraylength hx (by rw [e0]; exact Ar1.1) (State.isArrayOf_alike hZ.alike Ar1.2.1) (g := (mkF m 2 #[.val (.ref sb), .val (.int ix)] [(.ref sb), (.int ix)])) rfl rfl (hb hby d38_2) _ k) ?_
  rw [len_of S1 N1]
  show Gl p.tables e below s₁ (mkF m 3 #[.val (.ref sb), .val (.int ix)] [(.int (own_ln scs)), (.int ix)]) G
  obtain ⟨_, _, ⟨T2, L2, k2, n2⟩, -, X2, ⟨Lc2, hQ2, l2, y2, z2⟩, st2⟩ := Jvm.LawKit.callS X0 hx (y := (⟨"java/lang/String", "checkIndex", "(II)V"⟩ : MethodName)) hown (mvT hZ (hw _ (List.mem_of_getElem? (i := 201) rfl))) (mvT hZ (hw _ (List.mem_of_getElem? (i := 202) rfl))) (mvT hZ (hw _ (List.mem_of_getElem? (i := 6) rfl))) (mvT hZ (hw _ (List.mem_of_getElem? (i := 203) rfl))) (by decide) (backOf (W := 0) (st_chk l Z a0 hw [] ix (own_ln scs) fm h0 n0 Z0 F1_jdk_internal_util_Preconditions F2_ hfm hi0 (by first | assumption | rfl | decide | omega)) hZ (hw _ (List.mem_of_getElem? (i := 203) rfl)) (hw _ (List.mem_of_getElem? (i := 6) rfl)) (by decide) (by decide)) (g := (mkF m 3 #[.val (.ref sb), .val (.int ix)] [(.int (own_ln scs)), (.int ix)])) rfl (by rw [hml]; rfl) (argsL := [(.int ix), (.int (own_ln scs))]) (rest := []) (lenOf pd_2 rfl) rfl (by show 2 * 0 + _ ≤ _; exact Nat.le_of_eq rfl) (hb hby d38_3) (fun _ _ => ⟨rfl, e0, (by decide : 0 + 0 ≤ _), (by decide : 0 + 0 ≤ _)⟩)
  dsimp only [Pt.U, Pt.locs, Pt.cells, Pt.slots] at X2 l2 y2 z2 st2 hQ2
  subst l2 y2 z2
  obtain ⟨rfl, N2q, eh2⟩ := hQ2
  have N2_ := Fr.app N0 N2q
  refine Gl.via (fun _ k => st2 _ k) ?_
  show Gl p.tables e below T2 (mkF m 6 #[.val (.ref sb), .val (.int ix)] []) G
  refine Gl.via (fun _ k => XS.aloadN X2.here hx rfl (hb hby d38_6) rfl rfl k) ?_
  show Gl p.tables e below T2 (mkF m 7 #[.val (.ref sb), .val (.int ix)] [(.ref sb)]) G
  refine Gl.via (fun _ k => XS.iloadN X2.here hx rfl (hb hby d38_7) rfl k) ?_
  show Gl p.tables e below T2 (mkF m 8 #[.val (.ref sb), .val (.int ix)] [(.int ix), (.ref sb)]) G
  obtain ⟨cl3, Ar3, q3, S3, N3, H3, G3⟩ := id F0_sb
  have hin3 : ¬ (ix < 0 ∨ cl3.slots.size ≤ (ix).toNatClampNeg) := inb_of S3 ⟨hi0, hi1⟩
  refine Gl.via (fun _ k => X2.baloadBytes hx (j := ix) (v := (.int iv)) (by rw [eh2]; exact Ar3.1) (State.isArrayOf_alike hZ.alike Ar3.2.1) Ar3.2.2 hin3 (Has.at H3 hin3 hat) (g := (mkF m 8 #[.val (.ref sb), .val (.int ix)] [(.int ix), (.ref sb)])) rfl rfl (hb hby d38_8) _ k) ?_
  show Gl p.tables e below T2 (mkF m 9 #[.val (.ref sb), .val (.int ix)] [(.int iv)]) G
  refine Gl.via (fun _ k => XS.sipush X2.here hx rfl (hb hby d38_9) k) ?_
  show Gl p.tables e below T2 (mkF m 12 #[.val (.ref sb), .val (.int ix)] [(.int (255 : Int32)), (.int iv)]) G
  refine Gl.via (fun _ k => XS.iand X2.here hx rfl (hb hby d38_12) rfl k) ?_
  show Gl p.tables e below T2 (mkF m 13 #[.val (.ref sb), .val (.int ix)] [(.int (iv &&& (255 : Int32)))]) G
  refine Gl.via (fun _ k => XS.i2c X2.here hx rfl (hb hby d38_13) rfl k) ?_
  show Gl p.tables e below T2 (mkF m 14 #[.val (.ref sb), .val (.int ix)] [(.int ((iv &&& (255 : Int32)).toUInt32.toUInt16.toUInt32.toInt32))]) G
  rw [show ((iv &&& (255 : Int32)).toUInt32.toUInt16.toUInt32.toInt32) = (iv &&& (255 : Int32)) from (i2c_mask _)]
  show Gl p.tables e below T2 (mkF m 14 #[.val (.ref sb), .val (.int ix)] [(.int (iv &&& (255 : Int32)))]) G
  obtain ⟨fs, hr, hrun, hended, hW, hsame⟩ := X2.leave (v := some (.int (iv &&& (255 : Int32)))) (fun h => by rw [Bd.returns] at h; cases h)
  have hnr : nar .char (iv &&& (255 : Int32)) = (iv &&& (255 : Int32)) := (i2c_mask _)
  rw [← hnr] at hr
  have hq : ∀ L, Fr n0 L → Q_l1_at Z sb sk scs ix iv fm h0 n0 (some (.int (iv &&& (255 : Int32)))) T2.heap L := by
    intro L hN
    rw [eh2]
    exact ⟨rfl, hN, rfl⟩
  rw [hG]
  exact Gl.fin (retN X2 hx (t := .char) Bd.returns (by simp) (hb hby d38_14) hr) ⟨_, hrun, hended, _, _, rfl, hq _ N2_, ⟨_, rfl⟩, hW, hsame.mono (by decide) (by decide)⟩
theorem d36_0 : decode jdk_42_method_56_code 0 = .ok (.aload_n 0, 1) := by decide +kernel
theorem d36_1 : decode jdk_42_method_56_code 1 = .ok (.invokevirtual 492, 3) := by decide +kernel
theorem pd_3 : parseMethodDescriptor "()Z" = some ⟨[], some .boolean⟩ := by decide +kernel
theorem d36_4 : decode jdk_42_method_56_code 4 = .ok (.ifCond .eq 12, 3) := by decide +kernel
theorem d36_7 : decode jdk_42_method_56_code 7 = .ok (.aload_n 0, 1) := by decide +kernel
theorem d36_8 : decode jdk_42_method_56_code 8 = .ok (.getfield 9, 3) := by decide +kernel
theorem d36_11 : decode jdk_42_method_56_code 11 = .ok (.iload_n 1, 1) := by decide +kernel
theorem d36_12 : decode jdk_42_method_56_code 12 = .ok (.invokestatic 495, 3) := by decide +kernel
theorem pd_4 : parseMethodDescriptor "([BI)C" = some ⟨[(.array .byte), .int], some .char⟩ := by decide +kernel
theorem d36_15 : decode jdk_42_method_56_code 15 = .ok (.ireturn, 1) := by decide +kernel
theorem ef_st_at (m : MethodId) (x0 : Addr) (x1 : Int32) : entryFrame m #[(.ref x0), (.int x1)] 2 = mkF m 0 #[.val (.ref x0), .val (.int x1)] [] := by first | (simp [entryFrame, mkF, argsToLocals, Value.category]; done) | rfl | (simp [entryFrame, mkF, argsToLocals, own_catI, own_catR, *]; done)
def Q_st_at (Z : State) (sa : Addr) (sb : Addr) (sk : ClassId) (scs : List Int32) (ix : Int32) (iv : Int32) (fm : Value) (cps : Int32) (h0 : Heap) (n0 : Nat) (v : Option Value) (h : Heap) (L : List Loc) : Prop := v = some (.int (iv &&& (255 : Int32))) ∧ Fr n0 L ∧ h = h0
set_option maxRecDepth 65536 in
set_option maxHeartbeats 40000000 in
theorem st_at (l : Launch) (Z : State) (a0 : Array Value) (hw : ∀ d ∈ tables_1, d.before a0 Z = true) (ws : List Jvm.Cond) (sa : Addr) (sb : Addr) (sk : ClassId) (scs : List Int32) (ix : Int32) (iv : Int32) (fm : Value) (cps : Int32) (h0 : Heap) (n0 : Nat) (Z0 : n0 ≤ h0.size) (F0_sa : Exa Z h0 sa "java/lang/String") (F1_sa_coder : Fld Z h0 sa "java/lang/String" "coder" "B" (.int (0 : Int32))) (F2_sa_value : Fld Z h0 sa "java/lang/String" "value" "[B" (.ref sb)) (F3_sb : Arv Z h0 sb sk .byte (own_ln scs) (scs.map Value.int) (.int (0 : Int32))) (F4_java_lang_String : Sta Z Z.heap "java/lang/String" "COMPACT_STRINGS" "Z" (.int cps)) (F5_jdk_internal_util_Preconditions : Sta Z Z.heap "jdk/internal/util/Preconditions" "SIOOBE_FORMATTER" "Ljava/util/function/BiFunction;" fm) (F6_ : Old Z n0 h0) (hcps : ¬ (cps = (0 : Int32))) (hfm : fm.category = 1) (hi0 : ¬ (ix < (0 : Int32))) (hi1 : ix < own_ln scs) (hat : (scs.map Value.int).getD ix.toNatClampNeg (.int (0 : Int32)) = .int iv) :
    MetFree l (⟨"java/lang/String", "charAt", "(I)C"⟩ : MethodName) (head1 (Jvm.Cond.code (⟨"java/lang/String", "charAt", "(I)C"⟩ : MethodName) jdk_42_method_56_code 2 (some .char) :: ws) ({ frames := 3, cells := 0, slots := 0, locals := 40 } : Room)) (fun a U => a = #[(.ref sa), (.int ix)] ∧ Z.Warmed39 U.vm ∧ U.heap = h0) (fun _ _ _ _ _ => True) (fun _ U o U' => ∃ v L, o = .returned v ∧ Q_st_at Z sa sb sk scs ix iv fm cps h0 n0 v U'.heap L ∧ FrameEnd U o U' L ({ frames := 3, cells := 0, slots := 0, locals := 40 } : Room).cells ({ frames := 3, cells := 0, slots := 0, locals := 40 } : Room).slots) := by
  refine MetFree.of_bodySF (plainFor_of_name pn_0) hisR ?_
  intro p e s m args below meth c s₁ Bd hml0 hP hK
  obtain ⟨rfl, hZ, hh⟩ := hP
  have hx := Bd.exec
  have hby := Bd.bytes
  have hml : c.maxLocals = 2 := hml0
  have hown : s.vm.findClass "java/lang/String" = some m.cls := findClass_of_methodNamed Bd.named
  have hnm := (name_of_methodNamed Bd.named Bd.method).1
  have X0 : Stand p l e ({ frames := 3, cells := 0, slots := 0, locals := 40 } : Room) s m #[(.ref sa), (.int ix)] below meth c s₁ [] 0 0 := Stand.of_body Bd
  have e0 : s₁.heap = h0 := by rw [← hh, Bd.state]; rfl
  have N0 := Fr.nil n0
  obtain ⟨G, hG⟩ : ∃ G : State → Prop, G = (fun U' => ∃ o, U'.status = .running ∧ Ended U' below o ∧ ∃ v L, o = .returned v ∧ Q_st_at Z sa sb sk scs ix iv fm cps h0 n0 v U'.heap L ∧ FrameEnd s o U' L ({ frames := 3, cells := 0, slots := 0, locals := 40 } : Room).cells ({ frames := 3, cells := 0, slots := 0, locals := 40 } : Room).slots) := ⟨_, rfl⟩
  suffices key : Gl p.tables e below s₁ (mkF m 0 #[.val (.ref sa), .val (.int ix)] []) G by
    obtain ⟨s₂, k1, k2⟩ := key
    rw [hG] at k2
    obtain ⟨o, k3, k4, k5⟩ := k2
    exact ⟨s₂, o, castTop (ef_st_at m sa ix) k1, k3, k4, k5⟩
  show Gl p.tables e below s₁ (mkF m 0 #[.val (.ref sa), .val (.int ix)] []) G
  refine Gl.via (fun _ k => XS.aloadN X0.here hx rfl (hb hby d36_0) rfl rfl k) ?_
  show Gl p.tables e below s₁ (mkF m 1 #[.val (.ref sa), .val (.int ix)] [(.ref sa)]) G
  obtain ⟨cq1, kq1, q1a, q1b, q1c⟩ := isOf hZ e0 F0_sa
  obtain ⟨_, _, ⟨T1, L1, k1, n1⟩, -, X1, ⟨Lc1, hQ1, l1, y1, z1⟩, st1⟩ := X0.virtualBack hx (y := (⟨"java/lang/String", "isLatin1", "()Z"⟩ : MethodName)) (z := (⟨"java/lang/String", "isLatin1", "()Z"⟩ : MethodName)) hown (mvT hZ (hw _ (List.mem_of_getElem? (i := 193) rfl))) (mvT hZ (hw _ (List.mem_of_getElem? (i := 194) rfl))) (notFace_of_selects (args := #[]) (mvT hZ (hw _ (List.mem_of_getElem? (i := 196) rfl)))) (mvT hZ (hw _ (List.mem_of_getElem? (i := 196) rfl))) (mvT hZ (hw _ (List.mem_of_getElem? (i := 195) rfl))) (by decide) (backOf (W := 0) (st_lat l Z a0 hw [] sa cps h0 n0 Z0 F1_sa_coder F4_java_lang_String F6_ hcps) hZ (hw _ (List.mem_of_getElem? (i := 197) rfl)) (hw _ (List.mem_of_getElem? (i := 6) rfl)) (by decide) (by decide)) q1a q1c (g := (mkF m 1 #[.val (.ref sa), .val (.int ix)] [(.ref sa)])) rfl (by rw [hml]; rfl) (Steps.refl _) (argsL := []) (rest := []) (lenOf pd_3 rfl) rfl (by show 2 * 0 + _ ≤ _; exact Nat.le_of_eq rfl) (hb hby d36_1) (fun _ _ => ⟨rfl, e0, (by decide : 0 + 0 ≤ _), (by decide : 0 + 0 ≤ _)⟩)
  dsimp only [Pt.U, Pt.locs, Pt.cells, Pt.slots] at X1 l1 y1 z1 st1 hQ1
  subst l1 y1 z1
  obtain ⟨rfl, N1q, eh1⟩ := hQ1
  have N1_ := Fr.app N0 N1q
  refine Gl.via (fun _ k => st1.trans k) ?_
  show Gl p.tables e below T1 (mkF m 4 #[.val (.ref sa), .val (.int ix)] [(.int (1 : Int32))]) G
  refine Gl.via (fun _ k => XS.ifNo X1.here hx rfl (hb hby d36_4) rfl ((if0 _ _).trans (feq (by decide)).1) k) ?_
  show Gl p.tables e below T1 (mkF m 7 #[.val (.ref sa), .val (.int ix)] []) G
  refine Gl.via (fun _ k => XS.aloadN X1.here hx rfl (hb hby d36_7) rfl rfl k) ?_
  show Gl p.tables e below T1 (mkF m 8 #[.val (.ref sa), .val (.int ix)] [(.ref sa)]) G
  obtain ⟨T2, X2, e2, st2⟩ := getF X1 hx hZ hown (host := "") (Or.inl (hw _ (List.mem_of_getElem? (i := 24) rfl))) Via.refl eh1 F2_sa_value (g := (mkF m 8 #[.val (.ref sa), .val (.int ix)] [(.ref sa)])) rfl rfl (hb hby d36_8)
  refine Gl.via st2 ?_
  show Gl p.tables e below T2 (mkF m 11 #[.val (.ref sa), .val (.int ix)] [(.ref sb)]) G
  refine Gl.via (fun _ k => XS.iloadN X2.here hx rfl (hb hby d36_11) rfl k) ?_
  show Gl p.tables e below T2 (mkF m 12 #[.val (.ref sa), .val (.int ix)] [(.int ix), (.ref sb)]) G
  obtain ⟨_, _, ⟨T3, L3, k3, n3⟩, -, X3, ⟨Lc3, hQ3, l3, y3, z3⟩, st3⟩ := Jvm.LawKit.callS X2 hx (y := (⟨"java/lang/StringLatin1", "charAt", "([BI)C"⟩ : MethodName)) hown (mvT hZ (hw _ (List.mem_of_getElem? (i := 198) rfl))) (mvT hZ (hw _ (List.mem_of_getElem? (i := 199) rfl))) (mvT hZ (hw _ (List.mem_of_getElem? (i := 42) rfl))) (mvT hZ (hw _ (List.mem_of_getElem? (i := 200) rfl))) (by decide) (backOf (W := 0) (l1_at l Z a0 hw [] sb sk scs ix iv fm h0 n0 Z0 F3_sb F5_jdk_internal_util_Preconditions F6_ hfm hi0 hi1 hat) hZ (hw _ (List.mem_of_getElem? (i := 200) rfl)) (hw _ (List.mem_of_getElem? (i := 42) rfl)) (by decide) (by decide)) (g := (mkF m 12 #[.val (.ref sa), .val (.int ix)] [(.int ix), (.ref sb)])) rfl (by rw [hml]; rfl) (argsL := [(.ref sb), (.int ix)]) (rest := []) (lenOf pd_4 rfl) rfl (by show 2 * 0 + _ ≤ _; exact Nat.le_of_eq rfl) (hb hby d36_12) (fun _ _ => ⟨rfl, e2, (by decide : 0 + 0 ≤ _), (by decide : 0 + 0 ≤ _)⟩)
  dsimp only [Pt.U, Pt.locs, Pt.cells, Pt.slots] at X3 l3 y3 z3 st3 hQ3
  subst l3 y3 z3
  obtain ⟨rfl, N3q, eh3⟩ := hQ3
  have N3_ := Fr.app N1_ N3q
  refine Gl.via (fun _ k => st3 _ k) ?_
  show Gl p.tables e below T3 (mkF m 15 #[.val (.ref sa), .val (.int ix)] [(.int (iv &&& (255 : Int32)))]) G
  obtain ⟨fs, hr, hrun, hended, hW, hsame⟩ := X3.leave (v := some (.int (iv &&& (255 : Int32)))) (fun h => by rw [Bd.returns] at h; cases h)
  have hnr : nar .char (iv &&& (255 : Int32)) = (iv &&& (255 : Int32)) := (i2c_mask _)
  rw [← hnr] at hr
  have hq : ∀ L, Fr n0 L → Q_st_at Z sa sb sk scs ix iv fm cps h0 n0 (some (.int (iv &&& (255 : Int32)))) T3.heap L := by
    intro L hN
    rw [eh3]
    exact ⟨rfl, hN, rfl⟩
  rw [hG]
  exact Gl.fin (retN X3 hx (t := .char) Bd.returns (by simp) (hb hby d36_15) hr) ⟨_, hrun, hended, _, _, rfl, hq _ N3_, ⟨_, rfl⟩, hW, hsame.mono (by decide) (by decide)⟩
theorem pn_3 : plainName "java/lang/AbstractStringBuilder" = true := by first | (simp [plainName, overriddenIn]; done) | decide +kernel
theorem d16_0 : decode jdk_68_method_2_code 0 = .ok (.aload_n 0, 1) := by decide +kernel
theorem d16_1 : decode jdk_68_method_2_code 1 = .ok (.invokespecial 3, 3) := by decide +kernel
theorem d16_4 : decode jdk_68_method_2_code 4 = .ok (.getstatic 18, 3) := by decide +kernel
theorem d16_7 : decode jdk_68_method_2_code 7 = .ok (.ifCond .eq 18, 3) := by decide +kernel
theorem d16_10 : decode jdk_68_method_2_code 10 = .ok (.aload_n 0, 1) := by decide +kernel
theorem d16_11 : decode jdk_68_method_2_code 11 = .ok (.iload_n 1, 1) := by decide +kernel
theorem d16_12 : decode jdk_68_method_2_code 12 = .ok (.newarray .byte, 2) := by decide +kernel
theorem d16_14 : decode jdk_68_method_2_code 14 = .ok (.putfield 15, 3) := by decide +kernel
theorem d16_17 : decode jdk_68_method_2_code 17 = .ok (.aload_n 0, 1) := by decide +kernel
theorem d16_18 : decode jdk_68_method_2_code 18 = .ok (.iconst 0, 1) := by decide +kernel
theorem d16_19 : decode jdk_68_method_2_code 19 = .ok (.putfield 22, 3) := by decide +kernel
theorem d16_22 : decode jdk_68_method_2_code 22 = .ok (.goto 16, 3) := by decide +kernel
theorem d16_38 : decode jdk_68_method_2_code 38 = .ok (.return_, 1) := by decide +kernel
theorem ef_asb_init (m : MethodId) (x0 : Addr) (x1 : Int32) : entryFrame m #[(.ref x0), (.int x1)] 2 = mkF m 0 #[.val (.ref x0), .val (.int x1)] [] := by first | (simp [entryFrame, mkF, argsToLocals, Value.category]; done) | rfl | (simp [entryFrame, mkF, argsToLocals, own_catI, own_catR, *]; done)
def Q_asb_init (Z : State) (ba : Addr) (u1 : Value) (u2 : Value) (cps : Int32) (h0 : Heap) (n0 : Nat) (v : Option Value) (h : Heap) (L : List Loc) : Prop := ∃ (bv : Addr), ∃ (bk : ClassId), v = none ∧ Fr n0 L ∧ Keep h0 h [ba] ∧ Exa Z h ba "java/lang/StringBuilder" ∧ Fld Z h ba "java/lang/AbstractStringBuilder" "value" "[B" (.ref bv) ∧ Fld Z h ba "java/lang/AbstractStringBuilder" "coder" "B" (.int (0 : Int32)) ∧ Fld Z h ba "java/lang/AbstractStringBuilder" "count" "I" (.int (own_ln ([] : List Int32))) ∧ Arv Z h bv bk .byte (16 : Int32) (([] : List Int32).map Value.int) (.int (0 : Int32)) ∧ (h0.size ≤ bv)
set_option maxRecDepth 65536 in
set_option maxHeartbeats 40000000 in
theorem asb_init (l : Launch) (Z : State) (a0 : Array Value) (hw : ∀ d ∈ tables_1, d.before a0 Z = true) (ws : List Jvm.Cond) (ba : Addr) (u1 : Value) (u2 : Value) (cps : Int32) (h0 : Heap) (n0 : Nat) (Z0 : n0 ≤ h0.size) (F0_ba : Exa Z h0 ba "java/lang/StringBuilder") (F1_ba_value : Fld Z h0 ba "java/lang/AbstractStringBuilder" "value" "[B" u1) (F2_ba_coder : Fld Z h0 ba "java/lang/AbstractStringBuilder" "coder" "B" u2) (F3_ba_count : Fld Z h0 ba "java/lang/AbstractStringBuilder" "count" "I" (.int (0 : Int32))) (F4_java_lang_String : Sta Z Z.heap "java/lang/String" "COMPACT_STRINGS" "Z" (.int cps)) (F5_ : Old Z n0 h0) (hp0 : n0 ≤ ba) (hcps : ¬ (cps = (0 : Int32))) :
    MetFree l (⟨"java/lang/AbstractStringBuilder", "<init>", "(I)V"⟩ : MethodName) (head1 (Jvm.Cond.code (⟨"java/lang/AbstractStringBuilder", "<init>", "(I)V"⟩ : MethodName) jdk_68_method_2_code 2 none :: ws) ({ frames := 1, cells := 1, slots := 16, locals := 12 } : Room)) (fun a U => a = #[(.ref ba), (.int (16 : Int32))] ∧ Z.Warmed39 U.vm ∧ U.heap = h0) (fun _ _ _ _ _ => True) (fun _ U o U' => ∃ v L, o = .returned v ∧ Q_asb_init Z ba u1 u2 cps h0 n0 v U'.heap L ∧ FrameEnd U o U' L ({ frames := 1, cells := 1, slots := 16, locals := 12 } : Room).cells ({ frames := 1, cells := 1, slots := 16, locals := 12 } : Room).slots) := by
  refine MetFree.of_bodySF (plainFor_of_name pn_3) hisR ?_
  intro p e s m args below meth c s₁ Bd hml0 hP hK
  obtain ⟨rfl, hZ, hh⟩ := hP
  have hx := Bd.exec
  have hby := Bd.bytes
  have hml : c.maxLocals = 2 := hml0
  have hown : s.vm.findClass "java/lang/AbstractStringBuilder" = some m.cls := findClass_of_methodNamed Bd.named
  have hnm := (name_of_methodNamed Bd.named Bd.method).1
  have X0 : Stand p l e ({ frames := 1, cells := 1, slots := 16, locals := 12 } : Room) s m #[(.ref ba), (.int (16 : Int32))] below meth c s₁ [] 0 0 := Stand.of_body Bd
  have e0 : s₁.heap = h0 := by rw [← hh, Bd.state]; rfl
  have N0 := Fr.nil n0
  obtain ⟨G, hG⟩ : ∃ G : State → Prop, G = (fun U' => ∃ o, U'.status = .running ∧ Ended U' below o ∧ ∃ v L, o = .returned v ∧ Q_asb_init Z ba u1 u2 cps h0 n0 v U'.heap L ∧ FrameEnd s o U' L ({ frames := 1, cells := 1, slots := 16, locals := 12 } : Room).cells ({ frames := 1, cells := 1, slots := 16, locals := 12 } : Room).slots) := ⟨_, rfl⟩
  suffices key : Gl p.tables e below s₁ (mkF m 0 #[.val (.ref ba), .val (.int (16 : Int32))] []) G by
    obtain ⟨s₂, k1, k2⟩ := key
    rw [hG] at k2
    obtain ⟨o, k3, k4, k5⟩ := k2
    exact ⟨s₂, o, castTop (ef_asb_init m ba (16 : Int32)) k1, k3, k4, k5⟩
  show Gl p.tables e below s₁ (mkF m 0 #[.val (.ref ba), .val (.int (16 : Int32))] []) G
  refine Gl.via (fun _ k => XS.aloadN X0.here hx rfl (hb hby d16_0) rfl rfl k) ?_
  show Gl p.tables e below s₁ (mkF m 1 #[.val (.ref ba), .val (.int (16 : Int32))] [(.ref ba)]) G
  obtain ⟨T1, X1, e1, st1⟩ := initO X0 hx hZ hown (hw _ (List.mem_of_getElem? (i := 88) rfl)) (hw _ (List.mem_of_getElem? (i := 16) rfl)) (hw _ (List.mem_of_getElem? (i := 17) rfl)) e0 (g := (mkF m 1 #[.val (.ref ba), .val (.int (16 : Int32))] [(.ref ba)])) rfl (by rw [hml]; rfl) rfl (hb hby d16_1) (by decide) (W := 0) (by show 2 * 0 + _ ≤ _; exact Nat.le_of_eq rfl) (by decide)
  refine Gl.via st1 ?_
  show Gl p.tables e below T1 (mkF m 4 #[.val (.ref ba), .val (.int (16 : Int32))] []) G
  have G2 : Sta Z h0 "java/lang/String" "COMPACT_STRINGS" "Z" (.int cps) := F4_java_lang_String.ext F5_.2
  obtain ⟨T3, X3, e3, st3⟩ := getS2 X1 hx hZ hown (host := "") (Or.inl (hw _ (List.mem_of_getElem? (i := 89) rfl))) Via.refl e1 G2 (g := (mkF m 4 #[.val (.ref ba), .val (.int (16 : Int32))] [])) rfl (hb hby d16_4)
  refine Gl.via st3 ?_
  show Gl p.tables e below T3 (mkF m 7 #[.val (.ref ba), .val (.int (16 : Int32))] [(.int cps)]) G
  refine Gl.via (fun _ k => XS.ifNo X3.here hx rfl (hb hby d16_7) rfl ((if0 _ _).trans (feq hcps).1) k) ?_
  show Gl p.tables e below T3 (mkF m 10 #[.val (.ref ba), .val (.int (16 : Int32))] []) G
  refine Gl.via (fun _ k => XS.aloadN X3.here hx rfl (hb hby d16_10) rfl rfl k) ?_
  show Gl p.tables e below T3 (mkF m 11 #[.val (.ref ba), .val (.int (16 : Int32))] [(.ref ba)]) G
  refine Gl.via (fun _ k => XS.iloadN X3.here hx rfl (hb hby d16_11) rfl k) ?_
  show Gl p.tables e below T3 (mkF m 12 #[.val (.ref ba), .val (.int (16 : Int32))] [(.int (16 : Int32)), (.ref ba)]) G
  obtain ⟨T4, h4, k4, X4, e4, E4, A4, st4⟩ := newP X3 hx hZ (hw _ (List.mem_of_getElem? (i := 19) rfl)) e3 (g := (mkF m 12 #[.val (.ref ba), .val (.int (16 : Int32))] [(.int (16 : Int32)), (.ref ba)])) rfl (hb hby d16_12) rfl (by decide) (cap := 16) (by decide) (by decide) (by decide) (by decide)
  obtain ⟨b4, g4⟩ : ∃ z, z = h0.size := ⟨_, rfl⟩
  rw [← g4] at A4 st4
  have ne5 : ba ≠ b4 := Nat.ne_of_lt (Nat.lt_of_lt_of_le F0_ba.lt (Nat.le_of_eq g4.symm))
  have ge6 : n0 ≤ b4 := Nat.le_trans Z0 (Nat.le_of_eq g4.symm)
  have gz7 : h0.size ≤ b4 := Nat.le_trans (Nat.le_refl h0.size) (Nat.le_of_eq g4.symm)
  refine Gl.via st4 ?_
  have Z8 : n0 ≤ h4.size := Nat.le_trans Z0 E4.1
  have Y9 : h0.size ≤ h4.size := Nat.le_trans (Nat.le_refl h0.size) E4.1
  have V10 : Arv Z h4 b4 k4 .byte (16 : Int32) [] (.int (0 : Int32)) := Arv.new A4 (by decide)
  show Gl p.tables e below T4 (mkF m 14 #[.val (.ref ba), .val (.int (16 : Int32))] [(.ref b4), (.ref ba)]) G
  have G11 : Fld Z h4 ba "java/lang/AbstractStringBuilder" "value" "[B" u1 := (F1_ba_value.ext E4)
  have G12 : Exa Z h4 ba "java/lang/StringBuilder" := (F0_ba.ext E4)
  obtain ⟨T13, h13, X13, e13, W13, st13⟩ := putF X4 hx hZ hown (host := "") (Or.inl (hw _ (List.mem_of_getElem? (i := 90) rfl))) Via.refl e4 G11 G12 (Or.inl (hw _ (List.mem_of_getElem? (i := 91) rfl))) (hw _ (List.mem_of_getElem? (i := 77) rfl)) (ty := (.array .byte)) (by decide) rfl rfl (g := (mkF m 14 #[.val (.ref ba), .val (.int (16 : Int32))] [(.ref b4), (.ref ba)])) rfl rfl (hb hby d16_14)
  refine Gl.via st13 ?_
  have N13_ := Fr.snoc X13 N0 hp0
  have Z14 : n0 ≤ h13.size := Nat.le_trans Z8 (Keep.of_wr W13).1
  have Y15 : h0.size ≤ h13.size := Nat.le_trans Y9 (Keep.of_wr W13).1
  show Gl p.tables e below T13 (mkF m 17 #[.val (.ref ba), .val (.int (16 : Int32))] []) G
  refine Gl.via (fun _ k => XS.aloadN X13.here hx rfl (hb hby d16_17) rfl rfl k) ?_
  show Gl p.tables e below T13 (mkF m 18 #[.val (.ref ba), .val (.int (16 : Int32))] [(.ref ba)]) G
  refine Gl.via (fun _ k => XS.iconst X13.here hx rfl (hb hby d16_18) k) ?_
  show Gl p.tables e below T13 (mkF m 19 #[.val (.ref ba), .val (.int (16 : Int32))] [(.int (0 : Int32)), (.ref ba)]) G
  have G16 : Fld Z h13 ba "java/lang/AbstractStringBuilder" "coder" "B" u2 := ((F2_ba_coder.ext E4).other W13 (Or.inr (slot_ne (Or.inl (hw _ (List.mem_of_getElem? (i := 93) rfl))) (Or.inl (hw _ (List.mem_of_getElem? (i := 91) rfl))) (by decide) (t := .byte) (t' := (.array .byte)) (by decide) (by decide))))
  have G17 : Exa Z h13 ba "java/lang/StringBuilder" := (G12.wr W13)
  obtain ⟨T18, h18, X18, e18, W18, st18⟩ := putFN X13 hx hZ hown (hw _ (List.mem_of_getElem? (i := 92) rfl)) Via.refl e13 G16 G17 (Or.inl (hw _ (List.mem_of_getElem? (i := 93) rfl))) (hw _ (List.mem_of_getElem? (i := 77) rfl)) (ty := .byte) (v' := (.int (0 : Int32))) (by decide) rfl (by decide) (g := (mkF m 19 #[.val (.ref ba), .val (.int (16 : Int32))] [(.int (0 : Int32)), (.ref ba)])) rfl rfl (hb hby d16_19)
  refine Gl.via st18 ?_
  have N18_ := Fr.snoc X18 N13_ hp0
  have Z19 : n0 ≤ h18.size := Nat.le_trans Z14 (Keep.of_wr W18).1
  have Y20 : h0.size ≤ h18.size := Nat.le_trans Y15 (Keep.of_wr W18).1
  show Gl p.tables e below T18 (mkF m 22 #[.val (.ref ba), .val (.int (16 : Int32))] []) G
  refine Gl.via (fun _ k => XS.goto X18.here hx rfl (pc0 := 22) (pc' := 38) rfl (hb hby d16_22) (by decide) (by decide) k) ?_
  show Gl p.tables e below T18 (mkF m 38 #[.val (.ref ba), .val (.int (16 : Int32))] []) G
  obtain ⟨fs, hr, hrun, hended, hW, hsame⟩ := X18.leave (v := none) (fun _ => rfl)
  have G21 : Exa Z h18 ba "java/lang/StringBuilder" := (G17.wr W18)
  have G22 : Fld Z h18 ba "java/lang/AbstractStringBuilder" "value" "[B" (.ref b4) := ((Fld.same W13 G11).other W18 (Or.inr (slot_ne (Or.inl (hw _ (List.mem_of_getElem? (i := 91) rfl))) (Or.inl (hw _ (List.mem_of_getElem? (i := 93) rfl))) (by decide) (t := (.array .byte)) (t' := .byte) (by decide) (by decide))))
  have G23 : Fld Z h18 ba "java/lang/AbstractStringBuilder" "count" "I" (.int (0 : Int32)) := (((F3_ba_count.ext E4).other W13 (Or.inr (slot_ne (Or.inl (hw _ (List.mem_of_getElem? (i := 115) rfl))) (Or.inl (hw _ (List.mem_of_getElem? (i := 91) rfl))) (by decide) (t := .int) (t' := (.array .byte)) (by decide) (by decide)))).other W18 (Or.inr (slot_ne (Or.inl (hw _ (List.mem_of_getElem? (i := 115) rfl))) (Or.inl (hw _ (List.mem_of_getElem? (i := 93) rfl))) (by decide) (t := .int) (t' := .byte) (by decide) (by decide))))
  have G24 : Arv Z h18 b4 k4 .byte (16 : Int32) [] (.int (0 : Int32)) := ((V10.other W13 (Ne.symm ne5)).other W18 (Ne.symm ne5))
  have hq : ∀ L, Fr n0 L → Q_asb_init Z ba u1 u2 cps h0 n0 (none) T18.heap L := by
    intro L hN
    rw [e18]
    exact ⟨b4, k4, rfl, hN, ((((Keep.refl h0 [ba]).ext E4).wr W13 (Or.inl (List.mem_of_getElem? (i := 0) rfl))).wr W18 (Or.inl (List.mem_of_getElem? (i := 0) rfl))), G21, G22, (Fld.same W18 G16), G23, G24, gz7⟩
  rw [hG]
  exact Gl.fin (X18.returnOut hx Bd.returns (hb hby d16_38) hr) ⟨_, hrun, hended, _, _, rfl, hq _ N18_, ⟨_, rfl⟩, hW, hsame.mono (by decide) (by decide)⟩
theorem pn_4 : plainName "java/lang/StringBuilder" = true := by first | (simp [plainName, overriddenIn]; done) | decide +kernel
theorem d15_0 : decode jdk_67_method_1_code 0 = .ok (.aload_n 0, 1) := by decide +kernel
theorem d15_1 : decode jdk_67_method_1_code 1 = .ok (.bipush 16, 2) := by decide +kernel
theorem d15_3 : decode jdk_67_method_1_code 3 = .ok (.invokespecial 1, 3) := by decide +kernel
theorem pd_5 : parseMethodDescriptor "(I)V" = some ⟨[.int], none⟩ := by decide +kernel
theorem d15_6 : decode jdk_67_method_1_code 6 = .ok (.return_, 1) := by decide +kernel
theorem ef_sb_init (m : MethodId) (x0 : Addr) : entryFrame m #[(.ref x0)] 1 = mkF m 0 #[.val (.ref x0)] [] := by first | (simp [entryFrame, mkF, argsToLocals, Value.category]; done) | rfl | (simp [entryFrame, mkF, argsToLocals, own_catI, own_catR, *]; done)
def Q_sb_init (Z : State) (ba : Addr) (u1 : Value) (u2 : Value) (cps : Int32) (h0 : Heap) (n0 : Nat) (v : Option Value) (h : Heap) (L : List Loc) : Prop := ∃ (bv : Addr), ∃ (bk : ClassId), v = none ∧ Fr n0 L ∧ Keep h0 h [ba] ∧ Exa Z h ba "java/lang/StringBuilder" ∧ Fld Z h ba "java/lang/AbstractStringBuilder" "value" "[B" (.ref bv) ∧ Fld Z h ba "java/lang/AbstractStringBuilder" "coder" "B" (.int (0 : Int32)) ∧ Fld Z h ba "java/lang/AbstractStringBuilder" "count" "I" (.int (own_ln ([] : List Int32))) ∧ Arv Z h bv bk .byte (16 : Int32) (([] : List Int32).map Value.int) (.int (0 : Int32)) ∧ (h0.size ≤ bv)
set_option maxRecDepth 65536 in
set_option maxHeartbeats 40000000 in
theorem sb_init (l : Launch) (Z : State) (a0 : Array Value) (hw : ∀ d ∈ tables_1, d.before a0 Z = true) (ws : List Jvm.Cond) (ba : Addr) (u1 : Value) (u2 : Value) (cps : Int32) (h0 : Heap) (n0 : Nat) (Z0 : n0 ≤ h0.size) (F0_ba : Exa Z h0 ba "java/lang/StringBuilder") (F1_ba_value : Fld Z h0 ba "java/lang/AbstractStringBuilder" "value" "[B" u1) (F2_ba_coder : Fld Z h0 ba "java/lang/AbstractStringBuilder" "coder" "B" u2) (F3_ba_count : Fld Z h0 ba "java/lang/AbstractStringBuilder" "count" "I" (.int (0 : Int32))) (F4_java_lang_String : Sta Z Z.heap "java/lang/String" "COMPACT_STRINGS" "Z" (.int cps)) (F5_ : Old Z n0 h0) (hp0 : n0 ≤ ba) (hcps : ¬ (cps = (0 : Int32))) :
    MetFree l (⟨"java/lang/StringBuilder", "<init>", "()V"⟩ : MethodName) (head1 (Jvm.Cond.code (⟨"java/lang/StringBuilder", "<init>", "()V"⟩ : MethodName) jdk_67_method_1_code 1 none :: ws) ({ frames := 2, cells := 1, slots := 16, locals := 25 } : Room)) (fun a U => a = #[(.ref ba)] ∧ Z.Warmed39 U.vm ∧ U.heap = h0) (fun _ _ _ _ _ => True) (fun _ U o U' => ∃ v L, o = .returned v ∧ Q_sb_init Z ba u1 u2 cps h0 n0 v U'.heap L ∧ FrameEnd U o U' L ({ frames := 2, cells := 1, slots := 16, locals := 25 } : Room).cells ({ frames := 2, cells := 1, slots := 16, locals := 25 } : Room).slots) := by
  refine MetFree.of_bodySF (plainFor_of_name pn_4) hisR ?_
  intro p e s m args below meth c s₁ Bd hml0 hP hK
  obtain ⟨rfl, hZ, hh⟩ := hP
  have hx := Bd.exec
  have hby := Bd.bytes
  have hml : c.maxLocals = 1 := hml0
  have hown : s.vm.findClass "java/lang/StringBuilder" = some m.cls := findClass_of_methodNamed Bd.named
  have hnm := (name_of_methodNamed Bd.named Bd.method).1
  have X0 : Stand p l e ({ frames := 2, cells := 1, slots := 16, locals := 25 } : Room) s m #[(.ref ba)] below meth c s₁ [] 0 0 := Stand.of_body Bd
  have e0 : s₁.heap = h0 := by rw [← hh, Bd.state]; rfl
  have N0 := Fr.nil n0
  obtain ⟨G, hG⟩ : ∃ G : State → Prop, G = (fun U' => ∃ o, U'.status = .running ∧ Ended U' below o ∧ ∃ v L, o = .returned v ∧ Q_sb_init Z ba u1 u2 cps h0 n0 v U'.heap L ∧ FrameEnd s o U' L ({ frames := 2, cells := 1, slots := 16, locals := 25 } : Room).cells ({ frames := 2, cells := 1, slots := 16, locals := 25 } : Room).slots) := ⟨_, rfl⟩
  suffices key : Gl p.tables e below s₁ (mkF m 0 #[.val (.ref ba)] []) G by
    obtain ⟨s₂, k1, k2⟩ := key
    rw [hG] at k2
    obtain ⟨o, k3, k4, k5⟩ := k2
    exact ⟨s₂, o, castTop (ef_sb_init m ba) k1, k3, k4, k5⟩
  show Gl p.tables e below s₁ (mkF m 0 #[.val (.ref ba)] []) G
  refine Gl.via (fun _ k => XS.aloadN X0.here hx rfl (hb hby d15_0) rfl rfl k) ?_
  show Gl p.tables e below s₁ (mkF m 1 #[.val (.ref ba)] [(.ref ba)]) G
  refine Gl.via (fun _ k => XS.bipush X0.here hx rfl (hb hby d15_1) k) ?_
  show Gl p.tables e below s₁ (mkF m 3 #[.val (.ref ba)] [(.int (16 : Int32)), (.ref ba)]) G
  obtain ⟨_, _, ⟨T1, L1, k1, n1⟩, -, X1, ⟨Lc1, hQ1, l1, y1, z1⟩, st1⟩ := X0.specialBack hx (y := (⟨"java/lang/AbstractStringBuilder", "<init>", "(I)V"⟩ : MethodName)) rfl hown (mvT hZ (hw _ (List.mem_of_getElem? (i := 82) rfl))) (mvT hZ (hw _ (List.mem_of_getElem? (i := 83) rfl))) (mvT hZ (hw _ (List.mem_of_getElem? (i := 87) rfl))) (by decide) (backOf (W := 0) (asb_init l Z a0 hw [] ba u1 u2 cps h0 n0 Z0 F0_ba F1_ba_value F2_ba_coder F3_ba_count F4_java_lang_String F5_ hp0 hcps) hZ (hw _ (List.mem_of_getElem? (i := 87) rfl)) (hw _ (List.mem_of_getElem? (i := 86) rfl)) (by decide) (by decide)) (g := (mkF m 3 #[.val (.ref ba)] [(.int (16 : Int32)), (.ref ba)])) rfl (by rw [hml]; rfl) (Steps.refl _) (a := ba) (argsL := [(.int (16 : Int32))]) (rest := []) (lenOf pd_5 rfl) rfl (by show 2 * 0 + _ ≤ _; exact Nat.le_of_eq rfl) (hb hby d15_3) (fun _ _ => ⟨rfl, e0, (by decide : 0 + 1 ≤ _), (by decide : 0 + 16 ≤ _)⟩)
  dsimp only [Pt.U, Pt.locs, Pt.cells, Pt.slots] at X1 l1 y1 z1 st1 hQ1
  subst l1 y1 z1
  obtain ⟨bv_1, bk_1, rfl, N1q, K1, P2, P3, P4, P5, P6, R7⟩ := hQ1
  have N1_ := Fr.app N0 N1q
  refine Gl.via (fun _ k => st1.trans k) ?_
  have ne8 : ba ≠ bv_1 := Nat.ne_of_lt (Nat.lt_of_lt_of_le F0_ba.lt R7)
  have ge9 : n0 ≤ bv_1 := Nat.le_trans Z0 R7
  have gz10 : h0.size ≤ bv_1 := Nat.le_trans (Nat.le_refl h0.size) R7
  have Z11 : n0 ≤ T1.heap.size := Nat.le_trans Z0 K1.1
  have Y12 : h0.size ≤ T1.heap.size := Nat.le_trans (Nat.le_refl h0.size) K1.1
  show Gl p.tables e below T1 (mkF m 6 #[.val (.ref ba)] []) G
  obtain ⟨fs, hr, hrun, hended, hW, hsame⟩ := X1.leave (v := none) (fun _ => rfl)
  have hq : ∀ L, Fr n0 L → Q_sb_init Z ba u1 u2 cps h0 n0 (none) T1.heap L := by
    intro L hN
    exact ⟨bv_1, bk_1, rfl, hN, ((Keep.refl h0 [ba]).trans K1 (allS (Or.inl (List.mem_of_getElem? (i := 0) rfl)) all0)), P2, P3, P4, P5, P6, R7⟩
  rw [hG]
  exact Gl.fin (X1.returnOut hx Bd.returns (hb hby d15_6) hr) ⟨_, hrun, hended, _, _, rfl, hq _ N1_, ⟨_, rfl⟩, hW, hsame.mono (by decide) (by decide)⟩
theorem d21_0 : decode jdk_68_method_9_code 0 = .ok (.aload_n 0, 1) := by decide +kernel
theorem d21_1 : decode jdk_68_method_9_code 1 = .ok (.getfield 15, 3) := by decide +kernel
theorem d21_4 : decode jdk_68_method_9_code 4 = .ok (.arraylength, 1) := by decide +kernel
theorem d21_5 : decode jdk_68_method_9_code 5 = .ok (.aload_n 0, 1) := by decide +kernel
theorem d21_6 : decode jdk_68_method_9_code 6 = .ok (.getfield 22, 3) := by decide +kernel
theorem d21_9 : decode jdk_68_method_9_code 9 = .ok (.ishr, 1) := by decide +kernel
theorem d21_10 : decode jdk_68_method_9_code 10 = .ok (.istore_n 2, 1) := by decide +kernel
theorem d21_11 : decode jdk_68_method_9_code 11 = .ok (.iload_n 1, 1) := by decide +kernel
theorem d21_12 : decode jdk_68_method_9_code 12 = .ok (.iload_n 2, 1) := by decide +kernel
theorem d21_13 : decode jdk_68_method_9_code 13 = .ok (.isub, 1) := by decide +kernel
theorem d21_14 : decode jdk_68_method_9_code 14 = .ok (.ifCond .le 24, 3) := by decide +kernel
theorem d21_38 : decode jdk_68_method_9_code 38 = .ok (.return_, 1) := by decide +kernel
theorem ef_asb_ens (m : MethodId) (x0 : Addr) (x1 : Int32) : entryFrame m #[(.ref x0), (.int x1)] 3 = mkF m 0 #[.val (.ref x0), .val (.int x1), .unset] [] := by first | (simp [entryFrame, mkF, argsToLocals, Value.category]; done) | rfl | (simp [entryFrame, mkF, argsToLocals, own_catI, own_catR, *]; done)
def Q_asb_ens (Z : State) (ba : Addr) (bv : Addr) (bk : ClassId) (bcs : List Int32) (mc : Int32) (h0 : Heap) (n0 : Nat) (v : Option Value) (h : Heap) (L : List Loc) : Prop := v = none ∧ Fr n0 L ∧ h = h0
set_option maxRecDepth 65536 in
set_option maxHeartbeats 40000000 in
theorem asb_ens (l : Launch) (Z : State) (a0 : Array Value) (hw : ∀ d ∈ tables_1, d.before a0 Z = true) (ws : List Jvm.Cond) (ba : Addr) (bv : Addr) (bk : ClassId) (bcs : List Int32) (mc : Int32) (h0 : Heap) (n0 : Nat) (Z0 : n0 ≤ h0.size) (F0_ba_value : Fld Z h0 ba "java/lang/AbstractStringBuilder" "value" "[B" (.ref bv)) (F1_ba_coder : Fld Z h0 ba "java/lang/AbstractStringBuilder" "coder" "B" (.int (0 : Int32))) (F2_bv : Arv Z h0 bv bk .byte (16 : Int32) (bcs.map Value.int) (.int (0 : Int32))) (hmc : ¬ ((0 : Int32) < mc - (16 : Int32))) :
    MetFree l (⟨"java/lang/AbstractStringBuilder", "ensureCapacityInternal", "(I)V"⟩ : MethodName) (head1 (Jvm.Cond.code (⟨"java/lang/AbstractStringBuilder", "ensureCapacityInternal", "(I)V"⟩ : MethodName) jdk_68_method_9_code 3 none :: ws) ({ frames := 0, cells := 0, slots := 0, locals := 0 } : Room)) (fun a U => a = #[(.ref ba), (.int mc)] ∧ Z.Warmed39 U.vm ∧ U.heap = h0) (fun _ _ _ _ _ => True) (fun _ U o U' => ∃ v L, o = .returned v ∧ Q_asb_ens Z ba bv bk bcs mc h0 n0 v U'.heap L ∧ FrameEnd U o U' L ({ frames := 0, cells := 0, slots := 0, locals := 0 } : Room).cells ({ frames := 0, cells := 0, slots := 0, locals := 0 } : Room).slots) := by
  refine MetFree.of_bodySF (plainFor_of_name pn_3) hisR ?_
  intro p e s m args below meth c s₁ Bd hml0 hP hK
  obtain ⟨rfl, hZ, hh⟩ := hP
  have hx := Bd.exec
  have hby := Bd.bytes
  have hml : c.maxLocals = 3 := hml0
  have hown : s.vm.findClass "java/lang/AbstractStringBuilder" = some m.cls := findClass_of_methodNamed Bd.named
  have hnm := (name_of_methodNamed Bd.named Bd.method).1
  have X0 : Stand p l e ({ frames := 0, cells := 0, slots := 0, locals := 0 } : Room) s m #[(.ref ba), (.int mc)] below meth c s₁ [] 0 0 := Stand.of_body Bd
  have e0 : s₁.heap = h0 := by rw [← hh, Bd.state]; rfl
  have N0 := Fr.nil n0
  obtain ⟨G, hG⟩ : ∃ G : State → Prop, G = (fun U' => ∃ o, U'.status = .running ∧ Ended U' below o ∧ ∃ v L, o = .returned v ∧ Q_asb_ens Z ba bv bk bcs mc h0 n0 v U'.heap L ∧ FrameEnd s o U' L ({ frames := 0, cells := 0, slots := 0, locals := 0 } : Room).cells ({ frames := 0, cells := 0, slots := 0, locals := 0 } : Room).slots) := ⟨_, rfl⟩
  suffices key : Gl p.tables e below s₁ (mkF m 0 #[.val (.ref ba), .val (.int mc), .unset] []) G by
    obtain ⟨s₂, k1, k2⟩ := key
    rw [hG] at k2
    obtain ⟨o, k3, k4, k5⟩ := k2
    exact ⟨s₂, o, castTop (ef_asb_ens m ba mc) k1, k3, k4, k5⟩
  show Gl p.tables e below s₁ (mkF m 0 #[.val (.ref ba), .val (.int mc), .unset] []) G
  refine Gl.via (fun _ k => XS.aloadN X0.here hx rfl (hb hby d21_0) rfl rfl k) ?_
  show Gl p.tables e below s₁ (mkF m 1 #[.val (.ref ba), .val (.int mc), .unset] [(.ref ba)]) G
  obtain ⟨T1, X1, e1, st1⟩ := getF X0 hx hZ hown (host := "") (Or.inl (hw _ (List.mem_of_getElem? (i := 90) rfl))) Via.refl e0 F0_ba_value (g := (mkF m 1 #[.val (.ref ba), .val (.int mc), .unset] [(.ref ba)])) rfl rfl (hb hby d21_1)
  refine Gl.via st1 ?_
  show Gl p.tables e below T1 (mkF m 4 #[.val (.ref ba), .val (.int mc), .unset] [(.ref bv)]) G
  obtain ⟨cl2, Ar2, -, S2, N2, -, -⟩ := id F2_bv
  refine Gl.via (fun _ k => X1.arraylength hx (by rw [e1]; exact Ar2.1) (State.isArrayOf_alike hZ.alike Ar2.2.1) (g := (mkF m 4 #[.val (.ref ba), .val (.int mc), .unset] [(.ref bv)])) rfl rfl (hb hby d21_4) _ k) ?_
  rw [len_of S2 N2]
  show Gl p.tables e below T1 (mkF m 5 #[.val (.ref ba), .val (.int mc), .unset] [(.int (16 : Int32))]) G
  refine Gl.via (fun _ k => XS.aloadN X1.here hx rfl (hb hby d21_5) rfl rfl k) ?_
  show Gl p.tables e below T1 (mkF m 6 #[.val (.ref ba), .val (.int mc), .unset] [(.ref ba), (.int (16 : Int32))]) G
  obtain ⟨T3, X3, e3, st3⟩ := getF X1 hx hZ hown (host := "") (Or.inl (hw _ (List.mem_of_getElem? (i := 92) rfl))) Via.refl e1 F1_ba_coder (g := (mkF m 6 #[.val (.ref ba), .val (.int mc), .unset] [(.ref ba), (.int (16 : Int32))])) rfl rfl (hb hby d21_6)
  refine Gl.via st3 ?_
  show Gl p.tables e below T3 (mkF m 9 #[.val (.ref ba), .val (.int mc), .unset] [(.int (0 : Int32)), (.int (16 : Int32))]) G
  refine Gl.via (fun _ k => XS.ishr X3.here hx rfl (hb hby d21_9) rfl k) ?_
  show Gl p.tables e below T3 (mkF m 10 #[.val (.ref ba), .val (.int mc), .unset] [(.int (16 : Int32))]) G
  refine Gl.via (fun _ k => XS.istoreN X3.here hx rfl (hb hby d21_10) rfl (l' := #[.val (.ref ba), .val (.int mc), .val (.int (16 : Int32))]) rfl k) ?_
  show Gl p.tables e below T3 (mkF m 11 #[.val (.ref ba), .val (.int mc), .val (.int (16 : Int32))] []) G
  refine Gl.via (fun _ k => XS.iloadN X3.here hx rfl (hb hby d21_11) rfl k) ?_
  show Gl p.tables e below T3 (mkF m 12 #[.val (.ref ba), .val (.int mc), .val (.int (16 : Int32))] [(.int mc)]) G
  refine Gl.via (fun _ k => XS.iloadN X3.here hx rfl (hb hby d21_12) rfl k) ?_
  show Gl p.tables e below T3 (mkF m 13 #[.val (.ref ba), .val (.int mc), .val (.int (16 : Int32))] [(.int (16 : Int32)), (.int mc)]) G
  refine Gl.via (fun _ k => XS.isub X3.here hx rfl (hb hby d21_13) rfl k) ?_
  show Gl p.tables e below T3 (mkF m 14 #[.val (.ref ba), .val (.int mc), .val (.int (16 : Int32))] [(.int (mc - (16 : Int32)))]) G
  refine Gl.via (fun _ k => XS.ifYes X3.here hx rfl (pc0 := 14) (pc' := 38) rfl (hb hby d21_14) rfl ((if0 _ _).trans (flt hmc).2.2.2) (by decide) (by decide) k) ?_
  show Gl p.tables e below T3 (mkF m 38 #[.val (.ref ba), .val (.int mc), .val (.int (16 : Int32))] []) G
  obtain ⟨fs, hr, hrun, hended, hW, hsame⟩ := X3.leave (v := none) (fun _ => rfl)
  have hq : ∀ L, Fr n0 L → Q_asb_ens Z ba bv bk bcs mc h0 n0 (none) T3.heap L := by
    intro L hN
    rw [e3]
    exact ⟨rfl, hN, rfl⟩
  rw [hG]
  exact Gl.fin (X3.returnOut hx Bd.returns (hb hby d21_38) hr) ⟨_, hrun, hended, _, _, rfl, hq _ N0, ⟨_, rfl⟩, hW, hsame.mono (by decide) (by decide)⟩
theorem d23_0 : decode jdk_68_method_71_code 0 = .ok (.getstatic 18, 3) := by decide +kernel
theorem d23_3 : decode jdk_68_method_71_code 3 = .ok (.ifCond .eq 18, 3) := by decide +kernel
theorem d23_6 : decode jdk_68_method_71_code 6 = .ok (.aload_n 0, 1) := by decide +kernel
theorem d23_7 : decode jdk_68_method_71_code 7 = .ok (.getfield 22, 3) := by decide +kernel
theorem d23_10 : decode jdk_68_method_71_code 10 = .ok (.aload_n 1, 1) := by decide +kernel
theorem d23_11 : decode jdk_68_method_71_code 11 = .ok (.invokevirtual 40, 3) := by decide +kernel
theorem d23_14 : decode jdk_68_method_71_code 14 = .ok (.if_icmp .eq 7, 3) := by decide +kernel
theorem d23_21 : decode jdk_68_method_71_code 21 = .ok (.return_, 1) := by decide +kernel
theorem ef_asb_inf (m : MethodId) (x0 : Addr) (x1 : Addr) : entryFrame m #[(.ref x0), (.ref x1)] 2 = mkF m 0 #[.val (.ref x0), .val (.ref x1)] [] := by first | (simp [entryFrame, mkF, argsToLocals, Value.category]; done) | rfl | (simp [entryFrame, mkF, argsToLocals, own_catI, own_catR, *]; done)
def Q_asb_inf (Z : State) (ba : Addr) (sa : Addr) (cps : Int32) (h0 : Heap) (n0 : Nat) (v : Option Value) (h : Heap) (L : List Loc) : Prop := v = none ∧ Fr n0 L ∧ h = h0
set_option maxRecDepth 65536 in
set_option maxHeartbeats 40000000 in
theorem asb_inf (l : Launch) (Z : State) (a0 : Array Value) (hw : ∀ d ∈ tables_1, d.before a0 Z = true) (ws : List Jvm.Cond) (ba : Addr) (sa : Addr) (cps : Int32) (h0 : Heap) (n0 : Nat) (Z0 : n0 ≤ h0.size) (F0_ba_coder : Fld Z h0 ba "java/lang/AbstractStringBuilder" "coder" "B" (.int (0 : Int32))) (F1_sa : Exa Z h0 sa "java/lang/String") (F2_sa_coder : Fld Z h0 sa "java/lang/String" "coder" "B" (.int (0 : Int32))) (F3_java_lang_String : Sta Z Z.heap "java/lang/String" "COMPACT_STRINGS" "Z" (.int cps)) (F4_ : Old Z n0 h0) (hcps : ¬ (cps = (0 : Int32))) :
    MetFree l (⟨"java/lang/AbstractStringBuilder", "inflateIfNeededFor", "(Ljava/lang/String;)V"⟩ : MethodName) (head1 (Jvm.Cond.code (⟨"java/lang/AbstractStringBuilder", "inflateIfNeededFor", "(Ljava/lang/String;)V"⟩ : MethodName) jdk_68_method_71_code 2 none :: ws) ({ frames := 1, cells := 0, slots := 0, locals := 13 } : Room)) (fun a U => a = #[(.ref ba), (.ref sa)] ∧ Z.Warmed39 U.vm ∧ U.heap = h0) (fun _ _ _ _ _ => True) (fun _ U o U' => ∃ v L, o = .returned v ∧ Q_asb_inf Z ba sa cps h0 n0 v U'.heap L ∧ FrameEnd U o U' L ({ frames := 1, cells := 0, slots := 0, locals := 13 } : Room).cells ({ frames := 1, cells := 0, slots := 0, locals := 13 } : Room).slots) := by
  refine MetFree.of_bodySF (plainFor_of_name pn_3) hisR ?_
  intro p e s m args below meth c s₁ Bd hml0 hP hK
  obtain ⟨rfl, hZ, hh⟩ := hP
  have hx := Bd.exec
  have hby := Bd.bytes
  have hml : c.maxLocals = 2 := hml0
  have hown : s.vm.findClass "java/lang/AbstractStringBuilder" = some m.cls := findClass_of_methodNamed Bd.named
  have hnm := (name_of_methodNamed Bd.named Bd.method).1
  have X0 : Stand p l e ({ frames := 1, cells := 0, slots := 0, locals := 13 } : Room) s m #[(.ref ba), (.ref sa)] below meth c s₁ [] 0 0 := Stand.of_body Bd
  have e0 : s₁.heap = h0 := by rw [← hh, Bd.state]; rfl
  have N0 := Fr.nil n0
  obtain ⟨G, hG⟩ : ∃ G : State → Prop, G = (fun U' => ∃ o, U'.status = .running ∧ Ended U' below o ∧ ∃ v L, o = .returned v ∧ Q_asb_inf Z ba sa cps h0 n0 v U'.heap L ∧ FrameEnd s o U' L ({ frames := 1, cells := 0, slots := 0, locals := 13 } : Room).cells ({ frames := 1, cells := 0, slots := 0, locals := 13 } : Room).slots) := ⟨_, rfl⟩
  suffices key : Gl p.tables e below s₁ (mkF m 0 #[.val (.ref ba), .val (.ref sa)] []) G by
    obtain ⟨s₂, k1, k2⟩ := key
    rw [hG] at k2
    obtain ⟨o, k3, k4, k5⟩ := k2
    exact ⟨s₂, o, castTop (ef_asb_inf m ba sa) k1, k3, k4, k5⟩
  show Gl p.tables e below s₁ (mkF m 0 #[.val (.ref ba), .val (.ref sa)] []) G
  have G1 : Sta Z h0 "java/lang/String" "COMPACT_STRINGS" "Z" (.int cps) := F3_java_lang_String.ext F4_.2
  obtain ⟨T2, X2, e2, st2⟩ := getS2 X0 hx hZ hown (host := "") (Or.inl (hw _ (List.mem_of_getElem? (i := 89) rfl))) Via.refl e0 G1 (g := (mkF m 0 #[.val (.ref ba), .val (.ref sa)] [])) rfl (hb hby d23_0)
  refine Gl.via st2 ?_
  show Gl p.tables e below T2 (mkF m 3 #[.val (.ref ba), .val (.ref sa)] [(.int cps)]) G
  refine Gl.via (fun _ k => XS.ifNo X2.here hx rfl (hb hby d23_3) rfl ((if0 _ _).trans (feq hcps).1) k) ?_
  show Gl p.tables e below T2 (mkF m 6 #[.val (.ref ba), .val (.ref sa)] []) G
  refine Gl.via (fun _ k => XS.aloadN X2.here hx rfl (hb hby d23_6) rfl rfl k) ?_
  show Gl p.tables e below T2 (mkF m 7 #[.val (.ref ba), .val (.ref sa)] [(.ref ba)]) G
  obtain ⟨T3, X3, e3, st3⟩ := getF X2 hx hZ hown (host := "") (Or.inl (hw _ (List.mem_of_getElem? (i := 92) rfl))) Via.refl e2 F0_ba_coder (g := (mkF m 7 #[.val (.ref ba), .val (.ref sa)] [(.ref ba)])) rfl rfl (hb hby d23_7)
  refine Gl.via st3 ?_
  show Gl p.tables e below T3 (mkF m 10 #[.val (.ref ba), .val (.ref sa)] [(.int (0 : Int32))]) G
  refine Gl.via (fun _ k => XS.aloadN X3.here hx rfl (hb hby d23_10) rfl rfl k) ?_
  show Gl p.tables e below T3 (mkF m 11 #[.val (.ref ba), .val (.ref sa)] [(.ref sa), (.int (0 : Int32))]) G
  obtain ⟨cq4, kq4, q4a, q4b, q4c⟩ := isOf hZ e3 F1_sa
  obtain ⟨_, _, ⟨T4, L4, k4, n4⟩, -, X4, ⟨Lc4, hQ4, l4, y4, z4⟩, st4⟩ := X3.virtualBack hx (y := (⟨"java/lang/String", "coder", "()B"⟩ : MethodName)) (z := (⟨"java/lang/String", "coder", "()B"⟩ : MethodName)) hown (mvT hZ (hw _ (List.mem_of_getElem? (i := 131) rfl))) (mvT hZ (hw _ (List.mem_of_getElem? (i := 110) rfl))) (notFace_of_selects (args := #[]) (mvT hZ (hw _ (List.mem_of_getElem? (i := 112) rfl)))) (mvT hZ (hw _ (List.mem_of_getElem? (i := 112) rfl))) (mvT hZ (hw _ (List.mem_of_getElem? (i := 111) rfl))) (by decide) (backOf (W := 1) (st_coder l Z a0 hw [] sa cps h0 n0 Z0 F2_sa_coder F3_java_lang_String F4_ hcps) hZ (hw _ (List.mem_of_getElem? (i := 113) rfl)) (hw _ (List.mem_of_getElem? (i := 6) rfl)) (by decide) (by decide)) q4a q4c (g := (mkF m 11 #[.val (.ref ba), .val (.ref sa)] [(.ref sa), (.int (0 : Int32))])) rfl (by rw [hml]; rfl) (Steps.refl _) (argsL := []) (rest := [(.int (0 : Int32))]) (lenOf pd_0 rfl) rfl (by show 2 * 0 + _ ≤ _; exact Nat.le_of_eq rfl) (hb hby d23_11) (fun _ _ => ⟨rfl, e3, (by decide : 0 + 0 ≤ _), (by decide : 0 + 0 ≤ _)⟩)
  dsimp only [Pt.U, Pt.locs, Pt.cells, Pt.slots] at X4 l4 y4 z4 st4 hQ4
  subst l4 y4 z4
  obtain ⟨rfl, N4q, eh4⟩ := hQ4
  have N4_ := Fr.app N0 N4q
  refine Gl.via (fun _ k => st4.trans k) ?_
  show Gl p.tables e below T4 (mkF m 14 #[.val (.ref ba), .val (.ref sa)] [(.int (0 : Int32)), (.int (0 : Int32))]) G
  refine Gl.via (fun _ k => XS.icmpYes X4.here hx rfl (pc0 := 14) (pc' := 21) rfl (hb hby d23_14) rfl (teq (by decide)).1 (by decide) (by decide) k) ?_
  show Gl p.tables e below T4 (mkF m 21 #[.val (.ref ba), .val (.ref sa)] []) G
  obtain ⟨fs, hr, hrun, hended, hW, hsame⟩ := X4.leave (v := none) (fun _ => rfl)
  have hq : ∀ L, Fr n0 L → Q_asb_inf Z ba sa cps h0 n0 (none) T4.heap L := by
    intro L hN
    rw [eh4]
    exact ⟨rfl, hN, rfl⟩
  rw [hG]
  exact Gl.fin (X4.returnOut hx Bd.returns (hb hby d23_21) hr) ⟨_, hrun, hended, _, _, rfl, hq _ N4_, ⟨_, rfl⟩, hW, hsame.mono (by decide) (by decide)⟩
theorem d24_0 : decode jdk_42_method_147_code 0 = .ok (.aload_n 0, 1) := by decide +kernel
theorem d24_1 : decode jdk_42_method_147_code 1 = .ok (.invokevirtual 335, 3) := by decide +kernel
theorem d24_4 : decode jdk_42_method_147_code 4 = .ok (.iload_n 3, 1) := by decide +kernel
theorem d24_5 : decode jdk_42_method_147_code 5 = .ok (.if_icmp .ne 23, 3) := by decide +kernel
theorem d24_8 : decode jdk_42_method_147_code 8 = .ok (.aload_n 0, 1) := by decide +kernel
theorem d24_9 : decode jdk_42_method_147_code 9 = .ok (.getfield 9, 3) := by decide +kernel
theorem d24_12 : decode jdk_42_method_147_code 12 = .ok (.iconst 0, 1) := by decide +kernel
theorem d24_13 : decode jdk_42_method_147_code 13 = .ok (.aload_n 1, 1) := by decide +kernel
theorem d24_14 : decode jdk_42_method_147_code 14 = .ok (.iload_n 2, 1) := by decide +kernel
theorem d24_15 : decode jdk_42_method_147_code 15 = .ok (.iload_n 3, 1) := by decide +kernel
theorem d24_16 : decode jdk_42_method_147_code 16 = .ok (.ishl, 1) := by decide +kernel
theorem d24_17 : decode jdk_42_method_147_code 17 = .ok (.aload_n 0, 1) := by decide +kernel
theorem d24_18 : decode jdk_42_method_147_code 18 = .ok (.getfield 9, 3) := by decide +kernel
theorem d24_21 : decode jdk_42_method_147_code 21 = .ok (.arraylength, 1) := by decide +kernel
theorem d24_22 : decode jdk_42_method_147_code 22 = .ok (.invokestatic 212, 3) := by decide +kernel
theorem d24_25 : decode jdk_42_method_147_code 25 = .ok (.goto 18, 3) := by decide +kernel
theorem d24_43 : decode jdk_42_method_147_code 43 = .ok (.return_, 1) := by decide +kernel
theorem ef_st_gb (m : MethodId) (x0 : Addr) (x1 : Addr) (x2 : Int32) (x3 : Int32) : entryFrame m #[(.ref x0), (.ref x1), (.int x2), (.int x3)] 4 = mkF m 0 #[.val (.ref x0), .val (.ref x1), .val (.int x2), .val (.int x3)] [] := by first | (simp [entryFrame, mkF, argsToLocals, Value.category]; done) | rfl | (simp [entryFrame, mkF, argsToLocals, own_catI, own_catR, *]; done)
def Q_st_gb (Z : State) (sa : Addr) (sb : Addr) (sk : ClassId) (scs : List Int32) (bv : Addr) (bk : ClassId) (bcs : List Int32) (cps : Int32) (h0 : Heap) (n0 : Nat) (v : Option Value) (h : Heap) (L : List Loc) : Prop := v = none ∧ Fr n0 L ∧ Keep h0 h [bv] ∧ Arv Z h bv bk .byte (16 : Int32) ((bcs ++ scs).map Value.int) (.int (0 : Int32))
set_option maxRecDepth 65536 in
set_option maxHeartbeats 40000000 in
theorem st_gb (l : Launch) (Z : State) (a0 : Array Value) (hw : ∀ d ∈ tables_1, d.before a0 Z = true) (ws : List Jvm.Cond) (sa : Addr) (sb : Addr) (sk : ClassId) (scs : List Int32) (bv : Addr) (bk : ClassId) (bcs : List Int32) (cps : Int32) (h0 : Heap) (n0 : Nat) (Z0 : n0 ≤ h0.size) (F0_sa : Exa Z h0 sa "java/lang/String") (F1_sa_coder : Fld Z h0 sa "java/lang/String" "coder" "B" (.int (0 : Int32))) (F2_sa_value : Fld Z h0 sa "java/lang/String" "value" "[B" (.ref sb)) (F3_sb : Arv Z h0 sb sk .byte (own_ln scs) (scs.map Value.int) (.int (0 : Int32))) (F4_bv : Arv Z h0 bv bk .byte (16 : Int32) (bcs.map Value.int) (.int (0 : Int32))) (F5_java_lang_String : Sta Z Z.heap "java/lang/String" "COMPACT_STRINGS" "Z" (.int cps)) (F6_ : Old Z n0 h0) (hcps : ¬ (cps = (0 : Int32))) (hln : bcs.length + scs.length ≤ 16) (hsv : sb ≠ bv) (hp3 : n0 ≤ bv) :
    MetFree l (⟨"java/lang/String", "getBytes", "([BIB)V"⟩ : MethodName) (head1 (Jvm.Cond.code (⟨"java/lang/String", "getBytes", "([BIB)V"⟩ : MethodName) jdk_42_method_147_code 4 none :: ws) ({ frames := 1, cells := 0, slots := 0, locals := 40 } : Room)) (fun a U => a = #[(.ref sa), (.ref bv), (.int (own_ln bcs)), (.int (0 : Int32))] ∧ Z.Warmed39 U.vm ∧ U.heap = h0) (fun _ _ _ _ _ => True) (fun _ U o U' => ∃ v L, o = .returned v ∧ Q_st_gb Z sa sb sk scs bv bk bcs cps h0 n0 v U'.heap L ∧ FrameEnd U o U' L ({ frames := 1, cells := 0, slots := 0, locals := 40 } : Room).cells ({ frames := 1, cells := 0, slots := 0, locals := 40 } : Room).slots) := by
  refine MetFree.of_bodySF (plainFor_of_name pn_0) hisR ?_
  intro p e s m args below meth c s₁ Bd hml0 hP hK
  obtain ⟨rfl, hZ, hh⟩ := hP
  have hx := Bd.exec
  have hby := Bd.bytes
  have hml : c.maxLocals = 4 := hml0
  have hown : s.vm.findClass "java/lang/String" = some m.cls := findClass_of_methodNamed Bd.named
  have hnm := (name_of_methodNamed Bd.named Bd.method).1
  have X0 : Stand p l e ({ frames := 1, cells := 0, slots := 0, locals := 40 } : Room) s m #[(.ref sa), (.ref bv), (.int (own_ln bcs)), (.int (0 : Int32))] below meth c s₁ [] 0 0 := Stand.of_body Bd
  have e0 : s₁.heap = h0 := by rw [← hh, Bd.state]; rfl
  have N0 := Fr.nil n0
  obtain ⟨G, hG⟩ : ∃ G : State → Prop, G = (fun U' => ∃ o, U'.status = .running ∧ Ended U' below o ∧ ∃ v L, o = .returned v ∧ Q_st_gb Z sa sb sk scs bv bk bcs cps h0 n0 v U'.heap L ∧ FrameEnd s o U' L ({ frames := 1, cells := 0, slots := 0, locals := 40 } : Room).cells ({ frames := 1, cells := 0, slots := 0, locals := 40 } : Room).slots) := ⟨_, rfl⟩
  suffices key : Gl p.tables e below s₁ (mkF m 0 #[.val (.ref sa), .val (.ref bv), .val (.int (own_ln bcs)), .val (.int (0 : Int32))] []) G by
    obtain ⟨s₂, k1, k2⟩ := key
    rw [hG] at k2
    obtain ⟨o, k3, k4, k5⟩ := k2
    exact ⟨s₂, o, castTop (ef_st_gb m sa bv (own_ln bcs) (0 : Int32)) k1, k3, k4, k5⟩
  show Gl p.tables e below s₁ (mkF m 0 #[.val (.ref sa), .val (.ref bv), .val (.int (own_ln bcs)), .val (.int (0 : Int32))] []) G
  refine Gl.via (fun _ k => XS.aloadN X0.here hx rfl (hb hby d24_0) rfl rfl k) ?_
  show Gl p.tables e below s₁ (mkF m 1 #[.val (.ref sa), .val (.ref bv), .val (.int (own_ln bcs)), .val (.int (0 : Int32))] [(.ref sa)]) G
  obtain ⟨cq1, kq1, q1a, q1b, q1c⟩ := isOf hZ e0 F0_sa
  obtain ⟨_, _, ⟨T1, L1, k1, n1⟩, -, X1, ⟨Lc1, hQ1, l1, y1, z1⟩, st1⟩ := X0.virtualBack hx (y := (⟨"java/lang/String", "coder", "()B"⟩ : MethodName)) (z := (⟨"java/lang/String", "coder", "()B"⟩ : MethodName)) hown (mvT hZ (hw _ (List.mem_of_getElem? (i := 109) rfl))) (mvT hZ (hw _ (List.mem_of_getElem? (i := 110) rfl))) (notFace_of_selects (args := #[]) (mvT hZ (hw _ (List.mem_of_getElem? (i := 112) rfl)))) (mvT hZ (hw _ (List.mem_of_getElem? (i := 112) rfl))) (mvT hZ (hw _ (List.mem_of_getElem? (i := 111) rfl))) (by decide) (backOf (W := 0) (st_coder l Z a0 hw [] sa cps h0 n0 Z0 F1_sa_coder F5_java_lang_String F6_ hcps) hZ (hw _ (List.mem_of_getElem? (i := 113) rfl)) (hw _ (List.mem_of_getElem? (i := 6) rfl)) (by decide) (by decide)) q1a q1c (g := (mkF m 1 #[.val (.ref sa), .val (.ref bv), .val (.int (own_ln bcs)), .val (.int (0 : Int32))] [(.ref sa)])) rfl (by rw [hml]; rfl) (Steps.refl _) (argsL := []) (rest := []) (lenOf pd_0 rfl) rfl (by show 2 * 0 + _ ≤ _; exact Nat.le_of_eq rfl) (hb hby d24_1) (fun _ _ => ⟨rfl, e0, (by decide : 0 + 0 ≤ _), (by decide : 0 + 0 ≤ _)⟩)
  dsimp only [Pt.U, Pt.locs, Pt.cells, Pt.slots] at X1 l1 y1 z1 st1 hQ1
  subst l1 y1 z1
  obtain ⟨rfl, N1q, eh1⟩ := hQ1
  have N1_ := Fr.app N0 N1q
  refine Gl.via (fun _ k => st1.trans k) ?_
  show Gl p.tables e below T1 (mkF m 4 #[.val (.ref sa), .val (.ref bv), .val (.int (own_ln bcs)), .val (.int (0 : Int32))] [(.int (0 : Int32))]) G
  refine Gl.via (fun _ k => XS.iloadN X1.here hx rfl (hb hby d24_4) rfl k) ?_
  show Gl p.tables e below T1 (mkF m 5 #[.val (.ref sa), .val (.ref bv), .val (.int (own_ln bcs)), .val (.int (0 : Int32))] [(.int (0 : Int32)), (.int (0 : Int32))]) G
  refine Gl.via (fun _ k => XS.icmpNo X1.here hx rfl (hb hby d24_5) rfl (teq (by decide)).2 k) ?_
  show Gl p.tables e below T1 (mkF m 8 #[.val (.ref sa), .val (.ref bv), .val (.int (own_ln bcs)), .val (.int (0 : Int32))] []) G
  refine Gl.via (fun _ k => XS.aloadN X1.here hx rfl (hb hby d24_8) rfl rfl k) ?_
  show Gl p.tables e below T1 (mkF m 9 #[.val (.ref sa), .val (.ref bv), .val (.int (own_ln bcs)), .val (.int (0 : Int32))] [(.ref sa)]) G
  obtain ⟨T2, X2, e2, st2⟩ := getF X1 hx hZ hown (host := "") (Or.inl (hw _ (List.mem_of_getElem? (i := 24) rfl))) Via.refl eh1 F2_sa_value (g := (mkF m 9 #[.val (.ref sa), .val (.ref bv), .val (.int (own_ln bcs)), .val (.int (0 : Int32))] [(.ref sa)])) rfl rfl (hb hby d24_9)
  refine Gl.via st2 ?_
  show Gl p.tables e below T2 (mkF m 12 #[.val (.ref sa), .val (.ref bv), .val (.int (own_ln bcs)), .val (.int (0 : Int32))] [(.ref sb)]) G
  refine Gl.via (fun _ k => XS.iconst X2.here hx rfl (hb hby d24_12) k) ?_
  show Gl p.tables e below T2 (mkF m 13 #[.val (.ref sa), .val (.ref bv), .val (.int (own_ln bcs)), .val (.int (0 : Int32))] [(.int (0 : Int32)), (.ref sb)]) G
  refine Gl.via (fun _ k => XS.aloadN X2.here hx rfl (hb hby d24_13) rfl rfl k) ?_
  show Gl p.tables e below T2 (mkF m 14 #[.val (.ref sa), .val (.ref bv), .val (.int (own_ln bcs)), .val (.int (0 : Int32))] [(.ref bv), (.int (0 : Int32)), (.ref sb)]) G
  refine Gl.via (fun _ k => XS.iloadN X2.here hx rfl (hb hby d24_14) rfl k) ?_
  show Gl p.tables e below T2 (mkF m 15 #[.val (.ref sa), .val (.ref bv), .val (.int (own_ln bcs)), .val (.int (0 : Int32))] [(.int (own_ln bcs)), (.ref bv), (.int (0 : Int32)), (.ref sb)]) G
  refine Gl.via (fun _ k => XS.iloadN X2.here hx rfl (hb hby d24_15) rfl k) ?_
  show Gl p.tables e below T2 (mkF m 16 #[.val (.ref sa), .val (.ref bv), .val (.int (own_ln bcs)), .val (.int (0 : Int32))] [(.int (0 : Int32)), (.int (own_ln bcs)), (.ref bv), (.int (0 : Int32)), (.ref sb)]) G
  refine Gl.via (fun _ k => XS.ishl X2.here hx rfl (hb hby d24_16) rfl k) ?_
  show Gl p.tables e below T2 (mkF m 17 #[.val (.ref sa), .val (.ref bv), .val (.int (own_ln bcs)), .val (.int (0 : Int32))] [(.int ((own_ln bcs) <<< ((0 : Int32) &&& 31))), (.ref bv), (.int (0 : Int32)), (.ref sb)]) G
  rw [show ((own_ln bcs) <<< ((0 : Int32) &&& 31)) = (own_ln bcs) from (own_shl0 _)]
  show Gl p.tables e below T2 (mkF m 17 #[.val (.ref sa), .val (.ref bv), .val (.int (own_ln bcs)), .val (.int (0 : Int32))] [(.int (own_ln bcs)), (.ref bv), (.int (0 : Int32)), (.ref sb)]) G
  refine Gl.via (fun _ k => XS.aloadN X2.here hx rfl (hb hby d24_17) rfl rfl k) ?_
  show Gl p.tables e below T2 (mkF m 18 #[.val (.ref sa), .val (.ref bv), .val (.int (own_ln bcs)), .val (.int (0 : Int32))] [(.ref sa), (.int (own_ln bcs)), (.ref bv), (.int (0 : Int32)), (.ref sb)]) G
  obtain ⟨T3, X3, e3, st3⟩ := getF X2 hx hZ hown (host := "") (Or.inl (hw _ (List.mem_of_getElem? (i := 24) rfl))) Via.refl e2 F2_sa_value (g := (mkF m 18 #[.val (.ref sa), .val (.ref bv), .val (.int (own_ln bcs)), .val (.int (0 : Int32))] [(.ref sa), (.int (own_ln bcs)), (.ref bv), (.int (0 : Int32)), (.ref sb)])) rfl rfl (hb hby d24_18)
  refine Gl.via st3 ?_
  show Gl p.tables e below T3 (mkF m 21 #[.val (.ref sa), .val (.ref bv), .val (.int (own_ln bcs)), .val (.int (0 : Int32))] [(.ref sb), (.int (own_ln bcs)), (.ref bv), (.int (0 : Int32)), (.ref sb)]) G
  obtain ⟨cl4, Ar4, -, S4, N4, -, -⟩ := id F3_sb
  refine Gl.via (fun _ k => X3.arraylength hx (by rw [e3]; exact Ar4.1) (State.isArrayOf_alike hZ.alike Ar4.2.1) (g := (mkF m 21 #[.val (.ref sa), .val (.ref bv), .val (.int (own_ln bcs)), .val (.int (0 : Int32))] [(.ref sb), (.int (own_ln bcs)), (.ref bv), (.int (0 : Int32)), (.ref sb)])) rfl rfl (hb hby d24_21) _ k) ?_
  rw [len_of S4 N4]
  show Gl p.tables e below T3 (mkF m 22 #[.val (.ref sa), .val (.ref bv), .val (.int (own_ln bcs)), .val (.int (0 : Int32))] [(.int (own_ln scs)), (.int (own_ln bcs)), (.ref bv), (.int (0 : Int32)), (.ref sb)]) G
  have V5 : Arv Z h0 bv bk .byte (16 : Int32) (bcs.map Value.int ++ List.replicate 16 (Value.int (0 : Int32))) (.int (0 : Int32)) := F4_bv.pad (pad_rep _ _ 16)
  obtain ⟨T6, h6, L6, X6, e6, N6_, K6, V6, st6⟩ := cpA X3 hx hZ hown (hw _ (List.mem_of_getElem? (i := 137) rfl)) (hw _ (List.mem_of_getElem? (i := 140) rfl)) (hw _ (List.mem_of_getElem? (i := 138) rfl)) (hw _ (List.mem_of_getElem? (i := 139) rfl)) e3 (us := (scs.map Value.int)) F3_sb V5 (Or.inl ⟨rfl, rfl⟩) (by decide) (own_ln0 (by omega)) (own_ln0 (by omega)) (by rw [own_lnN (cs := scs) (by omega)]; show 0 + _ ≤ _; omega) (by rw [own_lnN (cs := bcs) (by omega), own_lnN (cs := scs) (by omega)]; show _ ≤ 16; omega) (own_us (by omega)) (by rw [own_lnN (cs := bcs) (by omega), own_lnN (cs := scs) (by omega)]; simp; omega) N1_ hp3 (g := (mkF m 22 #[.val (.ref sa), .val (.ref bv), .val (.int (own_ln bcs)), .val (.int (0 : Int32))] [(.int (own_ln scs)), (.int (own_ln bcs)), (.ref bv), (.int (0 : Int32)), (.ref sb)])) rfl (by rw [hml]; rfl) rfl (hb hby d24_22) (by decide) (W := 0) (by show 2 * 0 + _ ≤ _; exact Nat.le_of_eq rfl) (by decide)
  have V7 : Arv Z h6 bv bk .byte (16 : Int32) ((bcs ++ scs).map Value.int) (.int (0 : Int32)) := own_cpy (by omega) (by omega) V6
  refine Gl.via st6 ?_
  have Z8 : n0 ≤ h6.size := Nat.le_trans Z0 K6.1
  have Y9 : h0.size ≤ h6.size := Nat.le_trans (Nat.le_refl h0.size) K6.1
  show Gl p.tables e below T6 (mkF m 25 #[.val (.ref sa), .val (.ref bv), .val (.int (own_ln bcs)), .val (.int (0 : Int32))] []) G
  refine Gl.via (fun _ k => XS.goto X6.here hx rfl (pc0 := 25) (pc' := 43) rfl (hb hby d24_25) (by decide) (by decide) k) ?_
  show Gl p.tables e below T6 (mkF m 43 #[.val (.ref sa), .val (.ref bv), .val (.int (own_ln bcs)), .val (.int (0 : Int32))] []) G
  obtain ⟨fs, hr, hrun, hended, hW, hsame⟩ := X6.leave (v := none) (fun _ => rfl)
  have hq : ∀ L, Fr n0 L → Q_st_gb Z sa sb sk scs bv bk bcs cps h0 n0 (none) T6.heap L := by
    intro L hN
    rw [e6]
    exact ⟨rfl, hN, ((Keep.refl h0 [bv]).trans K6 (allS (Or.inl (List.mem_of_getElem? (i := 0) rfl)) all0)), V7⟩
  rw [hG]
  exact Gl.fin (X6.returnOut hx Bd.returns (hb hby d24_43) hr) ⟨_, hrun, hended, _, _, rfl, hq _ N6_, ⟨_, rfl⟩, hW, hsame.mono (by decide) (by decide)⟩
theorem d22_0 : decode jdk_68_method_73_code 0 = .ok (.aload_n 0, 1) := by decide +kernel
theorem d22_1 : decode jdk_68_method_73_code 1 = .ok (.aload_n 2, 1) := by decide +kernel
theorem d22_2 : decode jdk_68_method_73_code 2 = .ok (.invokevirtual 397, 3) := by decide +kernel
theorem pd_6 : parseMethodDescriptor "(Ljava/lang/String;)V" = some ⟨[(.object "java/lang/String")], none⟩ := by decide +kernel
theorem d22_5 : decode jdk_68_method_73_code 5 = .ok (.aload_n 2, 1) := by decide +kernel
theorem d22_6 : decode jdk_68_method_73_code 6 = .ok (.aload_n 0, 1) := by decide +kernel
theorem d22_7 : decode jdk_68_method_73_code 7 = .ok (.getfield 15, 3) := by decide +kernel
theorem d22_10 : decode jdk_68_method_73_code 10 = .ok (.iload_n 1, 1) := by decide +kernel
theorem d22_11 : decode jdk_68_method_73_code 11 = .ok (.aload_n 0, 1) := by decide +kernel
theorem d22_12 : decode jdk_68_method_73_code 12 = .ok (.getfield 22, 3) := by decide +kernel
theorem d22_15 : decode jdk_68_method_73_code 15 = .ok (.invokevirtual 399, 3) := by decide +kernel
theorem pd_7 : parseMethodDescriptor "([BIB)V" = some ⟨[(.array .byte), .int, .byte], none⟩ := by decide +kernel
theorem d22_18 : decode jdk_68_method_73_code 18 = .ok (.return_, 1) := by decide +kernel
theorem ef_asb_put (m : MethodId) (x0 : Addr) (x1 : Int32) (x2 : Addr) : entryFrame m #[(.ref x0), (.int x1), (.ref x2)] 3 = mkF m 0 #[.val (.ref x0), .val (.int x1), .val (.ref x2)] [] := by first | (simp [entryFrame, mkF, argsToLocals, Value.category]; done) | rfl | (simp [entryFrame, mkF, argsToLocals, own_catI, own_catR, *]; done)
def Q_asb_put (Z : State) (ba : Addr) (bv : Addr) (bk : ClassId) (bcs : List Int32) (sa : Addr) (sb : Addr) (sk : ClassId) (scs : List Int32) (cps : Int32) (h0 : Heap) (n0 : Nat) (v : Option Value) (h : Heap) (L : List Loc) : Prop := v = none ∧ Fr n0 L ∧ Keep h0 h [bv] ∧ Arv Z h bv bk .byte (16 : Int32) ((bcs ++ scs).map Value.int) (.int (0 : Int32))
set_option maxRecDepth 65536 in
set_option maxHeartbeats 40000000 in
theorem asb_put (l : Launch) (Z : State) (a0 : Array Value) (hw : ∀ d ∈ tables_1, d.before a0 Z = true) (ws : List Jvm.Cond) (ba : Addr) (bv : Addr) (bk : ClassId) (bcs : List Int32) (sa : Addr) (sb : Addr) (sk : ClassId) (scs : List Int32) (cps : Int32) (h0 : Heap) (n0 : Nat) (Z0 : n0 ≤ h0.size) (F0_ba : Exa Z h0 ba "java/lang/StringBuilder") (F1_ba_value : Fld Z h0 ba "java/lang/AbstractStringBuilder" "value" "[B" (.ref bv)) (F2_ba_coder : Fld Z h0 ba "java/lang/AbstractStringBuilder" "coder" "B" (.int (0 : Int32))) (F3_ba_count : Fld Z h0 ba "java/lang/AbstractStringBuilder" "count" "I" (.int (own_ln bcs))) (F4_bv : Arv Z h0 bv bk .byte (16 : Int32) (bcs.map Value.int) (.int (0 : Int32))) (F5_sa : Exa Z h0 sa "java/lang/String") (F6_sa_coder : Fld Z h0 sa "java/lang/String" "coder" "B" (.int (0 : Int32))) (F7_sa_value : Fld Z h0 sa "java/lang/String" "value" "[B" (.ref sb)) (F8_sb : Arv Z h0 sb sk .byte (own_ln scs) (scs.map Value.int) (.int (0 : Int32))) (F9_java_lang_String : Sta Z Z.heap "java/lang/String" "COMPACT_STRINGS" "Z" (.int cps)) (F10_ : Old Z n0 h0) (hcps : ¬ (cps = (0 : Int32))) (hln : bcs.length + scs.length ≤ 16) (hsv : sb ≠ bv) (hp3 : n0 ≤ bv) (hp4 : ba ≠ bv) :
    MetFree l (⟨"java/lang/AbstractStringBuilder", "putStringAt", "(ILjava/lang/String;)V"⟩ : MethodName) (head1 (Jvm.Cond.code (⟨"java/lang/AbstractStringBuilder", "putStringAt", "(ILjava/lang/String;)V"⟩ : MethodName) jdk_68_method_73_code 3 none :: ws) ({ frames := 2, cells := 0, slots := 0, locals := 55 } : Room)) (fun a U => a = #[(.ref ba), (.int (own_ln bcs)), (.ref sa)] ∧ Z.Warmed39 U.vm ∧ U.heap = h0) (fun _ _ _ _ _ => True) (fun _ U o U' => ∃ v L, o = .returned v ∧ Q_asb_put Z ba bv bk bcs sa sb sk scs cps h0 n0 v U'.heap L ∧ FrameEnd U o U' L ({ frames := 2, cells := 0, slots := 0, locals := 55 } : Room).cells ({ frames := 2, cells := 0, slots := 0, locals := 55 } : Room).slots) := by
  refine MetFree.of_bodySF (plainFor_of_name pn_3) hisR ?_
  intro p e s m args below meth c s₁ Bd hml0 hP hK
  obtain ⟨rfl, hZ, hh⟩ := hP
  have hx := Bd.exec
  have hby := Bd.bytes
  have hml : c.maxLocals = 3 := hml0
  have hown : s.vm.findClass "java/lang/AbstractStringBuilder" = some m.cls := findClass_of_methodNamed Bd.named
  have hnm := (name_of_methodNamed Bd.named Bd.method).1
  have X0 : Stand p l e ({ frames := 2, cells := 0, slots := 0, locals := 55 } : Room) s m #[(.ref ba), (.int (own_ln bcs)), (.ref sa)] below meth c s₁ [] 0 0 := Stand.of_body Bd
  have e0 : s₁.heap = h0 := by rw [← hh, Bd.state]; rfl
  have N0 := Fr.nil n0
  obtain ⟨G, hG⟩ : ∃ G : State → Prop, G = (fun U' => ∃ o, U'.status = .running ∧ Ended U' below o ∧ ∃ v L, o = .returned v ∧ Q_asb_put Z ba bv bk bcs sa sb sk scs cps h0 n0 v U'.heap L ∧ FrameEnd s o U' L ({ frames := 2, cells := 0, slots := 0, locals := 55 } : Room).cells ({ frames := 2, cells := 0, slots := 0, locals := 55 } : Room).slots) := ⟨_, rfl⟩
  suffices key : Gl p.tables e below s₁ (mkF m 0 #[.val (.ref ba), .val (.int (own_ln bcs)), .val (.ref sa)] []) G by
    obtain ⟨s₂, k1, k2⟩ := key
    rw [hG] at k2
    obtain ⟨o, k3, k4, k5⟩ := k2
    exact ⟨s₂, o, castTop (ef_asb_put m ba (own_ln bcs) sa) k1, k3, k4, k5⟩
  show Gl p.tables e below s₁ (mkF m 0 #[.val (.ref ba), .val (.int (own_ln bcs)), .val (.ref sa)] []) G
  refine Gl.via (fun _ k => XS.aloadN X0.here hx rfl (hb hby d22_0) rfl rfl k) ?_
  show Gl p.tables e below s₁ (mkF m 1 #[.val (.ref ba), .val (.int (own_ln bcs)), .val (.ref sa)] [(.ref ba)]) G
  refine Gl.via (fun _ k => XS.aloadN X0.here hx rfl (hb hby d22_1) rfl rfl k) ?_
  show Gl p.tables e below s₁ (mkF m 2 #[.val (.ref ba), .val (.int (own_ln bcs)), .val (.ref sa)] [(.ref sa), (.ref ba)]) G
  obtain ⟨cq1, q1, q1'⟩ := F0_ba.cell
  obtain ⟨_, _, ⟨T1, L1, k1, n1⟩, -, X1, ⟨Lc1, hQ1, l1, y1, z1⟩, st1⟩ := X0.privateBack hx (y := (⟨"java/lang/AbstractStringBuilder", "inflateIfNeededFor", "(Ljava/lang/String;)V"⟩ : MethodName)) hown (mvT hZ (hw _ (List.mem_of_getElem? (i := 126) rfl))) (mvT hZ (hw _ (List.mem_of_getElem? (i := 127) rfl))) (mvT hZ (own_selP (y := (⟨"java/lang/AbstractStringBuilder", "inflateIfNeededFor", "(Ljava/lang/String;)V"⟩ : MethodName)) (own_nonface (y := (⟨"java/lang/AbstractStringBuilder", "isLatin1", "()Z"⟩ : MethodName)) (hw _ (List.mem_of_getElem? (i := 170) rfl)) (hw _ (List.mem_of_getElem? (i := 168) rfl))) (hw _ (List.mem_of_getElem? (i := 128) rfl)) (hw _ (List.mem_of_getElem? (i := 127) rfl)) (by decide))) (Cond.privateMethod_at (mvP hZ (hw _ (List.mem_of_getElem? (i := 128) rfl)) (args := #[]))) (mvT hZ (hw _ (List.mem_of_getElem? (i := 130) rfl))) (by decide) (backOf (W := 0) (asb_inf l Z a0 hw [] ba sa cps h0 n0 Z0 F2_ba_coder F5_sa F6_sa_coder F9_java_lang_String F10_ hcps) hZ (hw _ (List.mem_of_getElem? (i := 130) rfl)) (hw _ (List.mem_of_getElem? (i := 86) rfl)) (by decide) (by decide)) (g := (mkF m 2 #[.val (.ref ba), .val (.int (own_ln bcs)), .val (.ref sa)] [(.ref sa), (.ref ba)])) rfl (by rw [hml]; rfl) (Steps.refl _) (a := ba) (by rw [e0]; exact q1) q1' (argsL := [(.ref sa)]) (rest := []) (lenOf pd_6 rfl) rfl (by show 2 * 0 + _ ≤ _; exact Nat.le_of_eq rfl) (hb hby d22_2) (fun _ _ => ⟨rfl, e0, (by decide : 0 + 0 ≤ _), (by decide : 0 + 0 ≤ _)⟩)
  dsimp only [Pt.U, Pt.locs, Pt.cells, Pt.slots] at X1 l1 y1 z1 st1 hQ1
  subst l1 y1 z1
  obtain ⟨rfl, N1q, eh1⟩ := hQ1
  have N1_ := Fr.app N0 N1q
  refine Gl.via (fun _ k => st1.trans k) ?_
  show Gl p.tables e below T1 (mkF m 5 #[.val (.ref ba), .val (.int (own_ln bcs)), .val (.ref sa)] []) G
  refine Gl.via (fun _ k => XS.aloadN X1.here hx rfl (hb hby d22_5) rfl rfl k) ?_
  show Gl p.tables e below T1 (mkF m 6 #[.val (.ref ba), .val (.int (own_ln bcs)), .val (.ref sa)] [(.ref sa)]) G
  refine Gl.via (fun _ k => XS.aloadN X1.here hx rfl (hb hby d22_6) rfl rfl k) ?_
  show Gl p.tables e below T1 (mkF m 7 #[.val (.ref ba), .val (.int (own_ln bcs)), .val (.ref sa)] [(.ref ba), (.ref sa)]) G
  obtain ⟨T2, X2, e2, st2⟩ := getF X1 hx hZ hown (host := "") (Or.inl (hw _ (List.mem_of_getElem? (i := 90) rfl))) Via.refl eh1 F1_ba_value (g := (mkF m 7 #[.val (.ref ba), .val (.int (own_ln bcs)), .val (.ref sa)] [(.ref ba), (.ref sa)])) rfl rfl (hb hby d22_7)
  refine Gl.via st2 ?_
  show Gl p.tables e below T2 (mkF m 10 #[.val (.ref ba), .val (.int (own_ln bcs)), .val (.ref sa)] [(.ref bv), (.ref sa)]) G
  refine Gl.via (fun _ k => XS.iloadN X2.here hx rfl (hb hby d22_10) rfl k) ?_
  show Gl p.tables e below T2 (mkF m 11 #[.val (.ref ba), .val (.int (own_ln bcs)), .val (.ref sa)] [(.int (own_ln bcs)), (.ref bv), (.ref sa)]) G
  refine Gl.via (fun _ k => XS.aloadN X2.here hx rfl (hb hby d22_11) rfl rfl k) ?_
  show Gl p.tables e below T2 (mkF m 12 #[.val (.ref ba), .val (.int (own_ln bcs)), .val (.ref sa)] [(.ref ba), (.int (own_ln bcs)), (.ref bv), (.ref sa)]) G
  obtain ⟨T3, X3, e3, st3⟩ := getF X2 hx hZ hown (host := "") (Or.inl (hw _ (List.mem_of_getElem? (i := 92) rfl))) Via.refl e2 F2_ba_coder (g := (mkF m 12 #[.val (.ref ba), .val (.int (own_ln bcs)), .val (.ref sa)] [(.ref ba), (.int (own_ln bcs)), (.ref bv), (.ref sa)])) rfl rfl (hb hby d22_12)
  refine Gl.via st3 ?_
  show Gl p.tables e below T3 (mkF m 15 #[.val (.ref ba), .val (.int (own_ln bcs)), .val (.ref sa)] [(.int (0 : Int32)), (.int (own_ln bcs)), (.ref bv), (.ref sa)]) G
  obtain ⟨cq4, kq4, q4a, q4b, q4c⟩ := isOf hZ e3 F5_sa
  obtain ⟨_, _, ⟨T4, L4, k4, n4⟩, -, X4, ⟨Lc4, hQ4, l4, y4, z4⟩, st4⟩ := X3.virtualBack hx (y := (⟨"java/lang/String", "getBytes", "([BIB)V"⟩ : MethodName)) (z := (⟨"java/lang/String", "getBytes", "([BIB)V"⟩ : MethodName)) hown (mvT hZ (hw _ (List.mem_of_getElem? (i := 132) rfl))) (mvT hZ (hw _ (List.mem_of_getElem? (i := 133) rfl))) (notFace_of_selects (args := #[]) (mvT hZ (hw _ (List.mem_of_getElem? (i := 135) rfl)))) (mvT hZ (hw _ (List.mem_of_getElem? (i := 135) rfl))) (mvT hZ (hw _ (List.mem_of_getElem? (i := 134) rfl))) (by decide) (backOf (W := 0) (st_gb l Z a0 hw [] sa sb sk scs bv bk bcs cps h0 n0 Z0 F5_sa F6_sa_coder F7_sa_value F8_sb F4_bv F9_java_lang_String F10_ hcps hln hsv hp3) hZ (hw _ (List.mem_of_getElem? (i := 136) rfl)) (hw _ (List.mem_of_getElem? (i := 6) rfl)) (by decide) (by decide)) q4a q4c (g := (mkF m 15 #[.val (.ref ba), .val (.int (own_ln bcs)), .val (.ref sa)] [(.int (0 : Int32)), (.int (own_ln bcs)), (.ref bv), (.ref sa)])) rfl (by rw [hml]; rfl) (Steps.refl _) (argsL := [(.ref bv), (.int (own_ln bcs)), (.int (0 : Int32))]) (rest := []) (lenOf pd_7 rfl) rfl (by show 2 * 0 + _ ≤ _; exact Nat.le_of_eq rfl) (hb hby d22_15) (fun _ _ => ⟨rfl, e3, (by decide : 0 + 0 ≤ _), (by decide : 0 + 0 ≤ _)⟩)
  dsimp only [Pt.U, Pt.locs, Pt.cells, Pt.slots] at X4 l4 y4 z4 st4 hQ4
  subst l4 y4 z4
  obtain ⟨rfl, N4q, K4, P5⟩ := hQ4
  have N4_ := Fr.app N1_ N4q
  refine Gl.via (fun _ k => st4.trans k) ?_
  have Z6 : n0 ≤ T4.heap.size := Nat.le_trans Z0 K4.1
  have Y7 : h0.size ≤ T4.heap.size := Nat.le_trans (Nat.le_refl h0.size) K4.1
  show Gl p.tables e below T4 (mkF m 18 #[.val (.ref ba), .val (.int (own_ln bcs)), .val (.ref sa)] []) G
  obtain ⟨fs, hr, hrun, hended, hW, hsame⟩ := X4.leave (v := none) (fun _ => rfl)
  have hq : ∀ L, Fr n0 L → Q_asb_put Z ba bv bk bcs sa sb sk scs cps h0 n0 (none) T4.heap L := by
    intro L hN
    exact ⟨rfl, hN, ((Keep.refl h0 [bv]).trans K4 (allS (Or.inl (List.mem_of_getElem? (i := 0) rfl)) all0)), P5⟩
  rw [hG]
  exact Gl.fin (X4.returnOut hx Bd.returns (hb hby d22_18) hr) ⟨_, hrun, hended, _, _, rfl, hq _ N4_, ⟨_, rfl⟩, hW, hsame.mono (by decide) (by decide)⟩
theorem d18_0 : decode jdk_68_method_22_code 0 = .ok (.aload_n 1, 1) := by decide +kernel
theorem d18_1 : decode jdk_68_method_22_code 1 = .ok (.ifnonnull 8, 3) := by decide +kernel
theorem d18_9 : decode jdk_68_method_22_code 9 = .ok (.aload_n 1, 1) := by decide +kernel
theorem d18_10 : decode jdk_68_method_22_code 10 = .ok (.invokevirtual 32, 3) := by decide +kernel
theorem pd_8 : parseMethodDescriptor "()I" = some ⟨[], some .int⟩ := by decide +kernel
theorem d18_13 : decode jdk_68_method_22_code 13 = .ok (.istore_n 2, 1) := by decide +kernel
theorem d18_14 : decode jdk_68_method_22_code 14 = .ok (.aload_n 0, 1) := by decide +kernel
theorem d18_15 : decode jdk_68_method_22_code 15 = .ok (.aload_n 0, 1) := by decide +kernel
theorem d18_16 : decode jdk_68_method_22_code 16 = .ok (.getfield 79, 3) := by decide +kernel
theorem d18_19 : decode jdk_68_method_22_code 19 = .ok (.iload_n 2, 1) := by decide +kernel
theorem d18_20 : decode jdk_68_method_22_code 20 = .ok (.iadd, 1) := by decide +kernel
theorem d18_21 : decode jdk_68_method_22_code 21 = .ok (.invokevirtual 100, 3) := by decide +kernel
theorem d18_24 : decode jdk_68_method_22_code 24 = .ok (.aload_n 0, 1) := by decide +kernel
theorem d18_25 : decode jdk_68_method_22_code 25 = .ok (.aload_n 0, 1) := by decide +kernel
theorem d18_26 : decode jdk_68_method_22_code 26 = .ok (.getfield 79, 3) := by decide +kernel
theorem d18_29 : decode jdk_68_method_22_code 29 = .ok (.aload_n 1, 1) := by decide +kernel
theorem d18_30 : decode jdk_68_method_22_code 30 = .ok (.invokevirtual 208, 3) := by decide +kernel
theorem pd_9 : parseMethodDescriptor "(ILjava/lang/String;)V" = some ⟨[.int, (.object "java/lang/String")], none⟩ := by decide +kernel
theorem d18_33 : decode jdk_68_method_22_code 33 = .ok (.aload_n 0, 1) := by decide +kernel
theorem d18_34 : decode jdk_68_method_22_code 34 = .ok (.dup, 1) := by decide +kernel
theorem d18_35 : decode jdk_68_method_22_code 35 = .ok (.getfield 79, 3) := by decide +kernel
theorem d18_38 : decode jdk_68_method_22_code 38 = .ok (.iload_n 2, 1) := by decide +kernel
theorem d18_39 : decode jdk_68_method_22_code 39 = .ok (.iadd, 1) := by decide +kernel
theorem d18_40 : decode jdk_68_method_22_code 40 = .ok (.putfield 79, 3) := by decide +kernel
theorem d18_43 : decode jdk_68_method_22_code 43 = .ok (.aload_n 0, 1) := by decide +kernel
theorem d18_44 : decode jdk_68_method_22_code 44 = .ok (.areturn, 1) := by decide +kernel
theorem ef_asb_app (m : MethodId) (x0 : Addr) (x1 : Addr) : entryFrame m #[(.ref x0), (.ref x1)] 3 = mkF m 0 #[.val (.ref x0), .val (.ref x1), .unset] [] := by first | (simp [entryFrame, mkF, argsToLocals, Value.category]; done) | rfl | (simp [entryFrame, mkF, argsToLocals, own_catI, own_catR, *]; done)
def Q_asb_app (Z : State) (ba : Addr) (bv : Addr) (bk : ClassId) (bcs : List Int32) (sa : Addr) (sb : Addr) (sk : ClassId) (scs : List Int32) (cps : Int32) (h0 : Heap) (n0 : Nat) (v : Option Value) (h : Heap) (L : List Loc) : Prop := v = some (.ref ba) ∧ Fr n0 L ∧ Keep h0 h [ba, bv] ∧ Exa Z h ba "java/lang/StringBuilder" ∧ Fld Z h ba "java/lang/AbstractStringBuilder" "value" "[B" (.ref bv) ∧ Fld Z h ba "java/lang/AbstractStringBuilder" "coder" "B" (.int (0 : Int32)) ∧ Fld Z h ba "java/lang/AbstractStringBuilder" "count" "I" (.int (own_ln (bcs ++ scs))) ∧ Arv Z h bv bk .byte (16 : Int32) ((bcs ++ scs).map Value.int) (.int (0 : Int32))
set_option maxRecDepth 65536 in
set_option maxHeartbeats 40000000 in
theorem asb_app (l : Launch) (Z : State) (a0 : Array Value) (hw : ∀ d ∈ tables_1, d.before a0 Z = true) (ws : List Jvm.Cond) (ba : Addr) (bv : Addr) (bk : ClassId) (bcs : List Int32) (sa : Addr) (sb : Addr) (sk : ClassId) (scs : List Int32) (cps : Int32) (h0 : Heap) (n0 : Nat) (Z0 : n0 ≤ h0.size) (F0_ba : Exa Z h0 ba "java/lang/StringBuilder") (F1_ba_value : Fld Z h0 ba "java/lang/AbstractStringBuilder" "value" "[B" (.ref bv)) (F2_ba_coder : Fld Z h0 ba "java/lang/AbstractStringBuilder" "coder" "B" (.int (0 : Int32))) (F3_ba_count : Fld Z h0 ba "java/lang/AbstractStringBuilder" "count" "I" (.int (own_ln bcs))) (F4_bv : Arv Z h0 bv bk .byte (16 : Int32) (bcs.map Value.int) (.int (0 : Int32))) (F5_sa : Exa Z h0 sa "java/lang/String") (F6_sa_coder : Fld Z h0 sa "java/lang/String" "coder" "B" (.int (0 : Int32))) (F7_sa_value : Fld Z h0 sa "java/lang/String" "value" "[B" (.ref sb)) (F8_sb : Arv Z h0 sb sk .byte (own_ln scs) (scs.map Value.int) (.int (0 : Int32))) (F9_java_lang_String : Sta Z Z.heap "java/lang/String" "COMPACT_STRINGS" "Z" (.int cps)) (F10_ : Old Z n0 h0) (hcps : ¬ (cps = (0 : Int32))) (hln : bcs.length + scs.length ≤ 16) (hsv : sb ≠ bv) (hp3 : n0 ≤ bv) (hp4 : n0 ≤ ba) (hp5 : ba ≠ bv) (hp6 : ba ≠ sb) (hp7 : ba ≠ sa) :
    MetFree l (⟨"java/lang/AbstractStringBuilder", "append", "(Ljava/lang/String;)Ljava/lang/AbstractStringBuilder;"⟩ : MethodName) (head1 (Jvm.Cond.code (⟨"java/lang/AbstractStringBuilder", "append", "(Ljava/lang/String;)Ljava/lang/AbstractStringBuilder;"⟩ : MethodName) jdk_68_method_22_code 3 (some (.object "java/lang/AbstractStringBuilder")) :: ws) ({ frames := 3, cells := 0, slots := 0, locals := 69 } : Room)) (fun a U => a = #[(.ref ba), (.ref sa)] ∧ Z.Warmed39 U.vm ∧ U.heap = h0) (fun _ _ _ _ _ => True) (fun _ U o U' => ∃ v L, o = .returned v ∧ Q_asb_app Z ba bv bk bcs sa sb sk scs cps h0 n0 v U'.heap L ∧ FrameEnd U o U' L ({ frames := 3, cells := 0, slots := 0, locals := 69 } : Room).cells ({ frames := 3, cells := 0, slots := 0, locals := 69 } : Room).slots) := by
  refine MetFree.of_bodySF (plainFor_of_name pn_3) hisR ?_
  intro p e s m args below meth c s₁ Bd hml0 hP hK
  obtain ⟨rfl, hZ, hh⟩ := hP
  have hx := Bd.exec
  have hby := Bd.bytes
  have hml : c.maxLocals = 3 := hml0
  have hown : s.vm.findClass "java/lang/AbstractStringBuilder" = some m.cls := findClass_of_methodNamed Bd.named
  have hnm := (name_of_methodNamed Bd.named Bd.method).1
  have X0 : Stand p l e ({ frames := 3, cells := 0, slots := 0, locals := 69 } : Room) s m #[(.ref ba), (.ref sa)] below meth c s₁ [] 0 0 := Stand.of_body Bd
  have e0 : s₁.heap = h0 := by rw [← hh, Bd.state]; rfl
  have N0 := Fr.nil n0
  obtain ⟨G, hG⟩ : ∃ G : State → Prop, G = (fun U' => ∃ o, U'.status = .running ∧ Ended U' below o ∧ ∃ v L, o = .returned v ∧ Q_asb_app Z ba bv bk bcs sa sb sk scs cps h0 n0 v U'.heap L ∧ FrameEnd s o U' L ({ frames := 3, cells := 0, slots := 0, locals := 69 } : Room).cells ({ frames := 3, cells := 0, slots := 0, locals := 69 } : Room).slots) := ⟨_, rfl⟩
  suffices key : Gl p.tables e below s₁ (mkF m 0 #[.val (.ref ba), .val (.ref sa), .unset] []) G by
    obtain ⟨s₂, k1, k2⟩ := key
    rw [hG] at k2
    obtain ⟨o, k3, k4, k5⟩ := k2
    exact ⟨s₂, o, castTop (ef_asb_app m ba sa) k1, k3, k4, k5⟩
  show Gl p.tables e below s₁ (mkF m 0 #[.val (.ref ba), .val (.ref sa), .unset] []) G
  refine Gl.via (fun _ k => XS.aloadN X0.here hx rfl (hb hby d18_0) rfl rfl k) ?_
  show Gl p.tables e below s₁ (mkF m 1 #[.val (.ref ba), .val (.ref sa), .unset] [(.ref sa)]) G
  refine Gl.via (fun _ k => XS.ifnonnullYes X0.here hx rfl (pc0 := 1) (pc' := 9) rfl (hb hby d18_1) rfl (by decide) (by decide) k) ?_
  show Gl p.tables e below s₁ (mkF m 9 #[.val (.ref ba), .val (.ref sa), .unset] []) G
  refine Gl.via (fun _ k => XS.aloadN X0.here hx rfl (hb hby d18_9) rfl rfl k) ?_
  show Gl p.tables e below s₁ (mkF m 10 #[.val (.ref ba), .val (.ref sa), .unset] [(.ref sa)]) G
  obtain ⟨cq1, kq1, q1a, q1b, q1c⟩ := isOf hZ e0 F5_sa
  obtain ⟨_, _, ⟨T1, L1, k1, n1⟩, -, X1, ⟨Lc1, hQ1, l1, y1, z1⟩, st1⟩ := X0.virtualBack hx (y := (⟨"java/lang/String", "length", "()I"⟩ : MethodName)) (z := (⟨"java/lang/String", "length", "()I"⟩ : MethodName)) hown (mvT hZ (hw _ (List.mem_of_getElem? (i := 104) rfl))) (mvT hZ (hw _ (List.mem_of_getElem? (i := 105) rfl))) (notFace_of_selects (args := #[]) (mvT hZ (hw _ (List.mem_of_getElem? (i := 107) rfl)))) (mvT hZ (hw _ (List.mem_of_getElem? (i := 107) rfl))) (mvT hZ (hw _ (List.mem_of_getElem? (i := 106) rfl))) (by decide) (backOf (W := 0) (st_len l Z a0 hw [] sa sb sk scs cps h0 n0 Z0 F5_sa F6_sa_coder F7_sa_value F8_sb F9_java_lang_String F10_ hcps) hZ (hw _ (List.mem_of_getElem? (i := 108) rfl)) (hw _ (List.mem_of_getElem? (i := 6) rfl)) (by decide) (by decide)) q1a q1c (g := (mkF m 10 #[.val (.ref ba), .val (.ref sa), .unset] [(.ref sa)])) rfl (by rw [hml]; rfl) (Steps.refl _) (argsL := []) (rest := []) (lenOf pd_8 rfl) rfl (by show 2 * 0 + _ ≤ _; exact Nat.le_of_eq rfl) (hb hby d18_10) (fun _ _ => ⟨rfl, e0, (by decide : 0 + 0 ≤ _), (by decide : 0 + 0 ≤ _)⟩)
  dsimp only [Pt.U, Pt.locs, Pt.cells, Pt.slots] at X1 l1 y1 z1 st1 hQ1
  subst l1 y1 z1
  obtain ⟨rfl, N1q, eh1⟩ := hQ1
  have N1_ := Fr.app N0 N1q
  refine Gl.via (fun _ k => st1.trans k) ?_
  show Gl p.tables e below T1 (mkF m 13 #[.val (.ref ba), .val (.ref sa), .unset] [(.int (own_ln scs))]) G
  refine Gl.via (fun _ k => XS.istoreN X1.here hx rfl (hb hby d18_13) rfl (l' := #[.val (.ref ba), .val (.ref sa), .val (.int (own_ln scs))]) rfl k) ?_
  show Gl p.tables e below T1 (mkF m 14 #[.val (.ref ba), .val (.ref sa), .val (.int (own_ln scs))] []) G
  refine Gl.via (fun _ k => XS.aloadN X1.here hx rfl (hb hby d18_14) rfl rfl k) ?_
  show Gl p.tables e below T1 (mkF m 15 #[.val (.ref ba), .val (.ref sa), .val (.int (own_ln scs))] [(.ref ba)]) G
  refine Gl.via (fun _ k => XS.aloadN X1.here hx rfl (hb hby d18_15) rfl rfl k) ?_
  show Gl p.tables e below T1 (mkF m 16 #[.val (.ref ba), .val (.ref sa), .val (.int (own_ln scs))] [(.ref ba), (.ref ba)]) G
  obtain ⟨T2, X2, e2, st2⟩ := getF X1 hx hZ hown (host := "") (Or.inl (hw _ (List.mem_of_getElem? (i := 114) rfl))) Via.refl eh1 F3_ba_count (g := (mkF m 16 #[.val (.ref ba), .val (.ref sa), .val (.int (own_ln scs))] [(.ref ba), (.ref ba)])) rfl rfl (hb hby d18_16)
  refine Gl.via st2 ?_
  show Gl p.tables e below T2 (mkF m 19 #[.val (.ref ba), .val (.ref sa), .val (.int (own_ln scs))] [(.int (own_ln bcs)), (.ref ba)]) G
  refine Gl.via (fun _ k => XS.iloadN X2.here hx rfl (hb hby d18_19) rfl k) ?_
  show Gl p.tables e below T2 (mkF m 20 #[.val (.ref ba), .val (.ref sa), .val (.int (own_ln scs))] [(.int (own_ln scs)), (.int (own_ln bcs)), (.ref ba)]) G
  refine Gl.via (fun _ k => XS.iadd X2.here hx rfl (hb hby d18_20) rfl k) ?_
  show Gl p.tables e below T2 (mkF m 21 #[.val (.ref ba), .val (.ref sa), .val (.int (own_ln scs))] [(.int ((own_ln bcs) + (own_ln scs))), (.ref ba)]) G
  rw [show ((own_ln bcs) + (own_ln scs)) = (own_ln (bcs ++ scs)) from (own_lnApp (by omega))]
  show Gl p.tables e below T2 (mkF m 21 #[.val (.ref ba), .val (.ref sa), .val (.int (own_ln scs))] [(.int (own_ln (bcs ++ scs))), (.ref ba)]) G
  obtain ⟨cq3, q3, q3'⟩ := F0_ba.cell
  obtain ⟨_, _, ⟨T3, L3, k3, n3⟩, -, X3, ⟨Lc3, hQ3, l3, y3, z3⟩, st3⟩ := X2.privateBack hx (y := (⟨"java/lang/AbstractStringBuilder", "ensureCapacityInternal", "(I)V"⟩ : MethodName)) hown (mvT hZ (hw _ (List.mem_of_getElem? (i := 116) rfl))) (mvT hZ (hw _ (List.mem_of_getElem? (i := 117) rfl))) (mvT hZ (own_selP (y := (⟨"java/lang/AbstractStringBuilder", "ensureCapacityInternal", "(I)V"⟩ : MethodName)) (own_nonface (y := (⟨"java/lang/AbstractStringBuilder", "isLatin1", "()Z"⟩ : MethodName)) (hw _ (List.mem_of_getElem? (i := 170) rfl)) (hw _ (List.mem_of_getElem? (i := 168) rfl))) (hw _ (List.mem_of_getElem? (i := 118) rfl)) (hw _ (List.mem_of_getElem? (i := 117) rfl)) (by decide))) (Cond.privateMethod_at (mvP hZ (hw _ (List.mem_of_getElem? (i := 118) rfl)) (args := #[]))) (mvT hZ (hw _ (List.mem_of_getElem? (i := 120) rfl))) (by decide) (backOf (W := 0) (asb_ens l Z a0 hw [] ba bv bk bcs (own_ln (bcs ++ scs)) h0 n0 Z0 F1_ba_value F2_ba_coder F4_bv (own_cap (by rw [List.length_append]; omega))) hZ (hw _ (List.mem_of_getElem? (i := 120) rfl)) (hw _ (List.mem_of_getElem? (i := 86) rfl)) (by decide) (by decide)) (g := (mkF m 21 #[.val (.ref ba), .val (.ref sa), .val (.int (own_ln scs))] [(.int (own_ln (bcs ++ scs))), (.ref ba)])) rfl (by rw [hml]; rfl) (Steps.refl _) (a := ba) (by rw [e2]; exact q3) q3' (argsL := [(.int (own_ln (bcs ++ scs)))]) (rest := []) (lenOf pd_5 rfl) rfl (by show 2 * 0 + _ ≤ _; exact Nat.le_of_eq rfl) (hb hby d18_21) (fun _ _ => ⟨rfl, e2, (by decide : 0 + 0 ≤ _), (by decide : 0 + 0 ≤ _)⟩)
  dsimp only [Pt.U, Pt.locs, Pt.cells, Pt.slots] at X3 l3 y3 z3 st3 hQ3
  subst l3 y3 z3
  obtain ⟨rfl, N3q, eh3⟩ := hQ3
  have N3_ := Fr.app N1_ N3q
  refine Gl.via (fun _ k => st3.trans k) ?_
  show Gl p.tables e below T3 (mkF m 24 #[.val (.ref ba), .val (.ref sa), .val (.int (own_ln scs))] []) G
  refine Gl.via (fun _ k => XS.aloadN X3.here hx rfl (hb hby d18_24) rfl rfl k) ?_
  show Gl p.tables e below T3 (mkF m 25 #[.val (.ref ba), .val (.ref sa), .val (.int (own_ln scs))] [(.ref ba)]) G
  refine Gl.via (fun _ k => XS.aloadN X3.here hx rfl (hb hby d18_25) rfl rfl k) ?_
  show Gl p.tables e below T3 (mkF m 26 #[.val (.ref ba), .val (.ref sa), .val (.int (own_ln scs))] [(.ref ba), (.ref ba)]) G
  obtain ⟨T4, X4, e4, st4⟩ := getF X3 hx hZ hown (host := "") (Or.inl (hw _ (List.mem_of_getElem? (i := 114) rfl))) Via.refl eh3 F3_ba_count (g := (mkF m 26 #[.val (.ref ba), .val (.ref sa), .val (.int (own_ln scs))] [(.ref ba), (.ref ba)])) rfl rfl (hb hby d18_26)
  refine Gl.via st4 ?_
  show Gl p.tables e below T4 (mkF m 29 #[.val (.ref ba), .val (.ref sa), .val (.int (own_ln scs))] [(.int (own_ln bcs)), (.ref ba)]) G
  refine Gl.via (fun _ k => XS.aloadN X4.here hx rfl (hb hby d18_29) rfl rfl k) ?_
  show Gl p.tables e below T4 (mkF m 30 #[.val (.ref ba), .val (.ref sa), .val (.int (own_ln scs))] [(.ref sa), (.int (own_ln bcs)), (.ref ba)]) G
  obtain ⟨cq5, q5, q5'⟩ := F0_ba.cell
  obtain ⟨_, _, ⟨T5, L5, k5, n5⟩, -, X5, ⟨Lc5, hQ5, l5, y5, z5⟩, st5⟩ := X4.privateBack hx (y := (⟨"java/lang/AbstractStringBuilder", "putStringAt", "(ILjava/lang/String;)V"⟩ : MethodName)) hown (mvT hZ (hw _ (List.mem_of_getElem? (i := 121) rfl))) (mvT hZ (hw _ (List.mem_of_getElem? (i := 122) rfl))) (mvT hZ (own_selP (y := (⟨"java/lang/AbstractStringBuilder", "putStringAt", "(ILjava/lang/String;)V"⟩ : MethodName)) (own_nonface (y := (⟨"java/lang/AbstractStringBuilder", "isLatin1", "()Z"⟩ : MethodName)) (hw _ (List.mem_of_getElem? (i := 170) rfl)) (hw _ (List.mem_of_getElem? (i := 168) rfl))) (hw _ (List.mem_of_getElem? (i := 123) rfl)) (hw _ (List.mem_of_getElem? (i := 122) rfl)) (by decide))) (Cond.privateMethod_at (mvP hZ (hw _ (List.mem_of_getElem? (i := 123) rfl)) (args := #[]))) (mvT hZ (hw _ (List.mem_of_getElem? (i := 125) rfl))) (by decide) (backOf (W := 0) (asb_put l Z a0 hw [] ba bv bk bcs sa sb sk scs cps h0 n0 Z0 F0_ba F1_ba_value F2_ba_coder F3_ba_count F4_bv F5_sa F6_sa_coder F7_sa_value F8_sb F9_java_lang_String F10_ hcps hln hsv hp3 hp5) hZ (hw _ (List.mem_of_getElem? (i := 125) rfl)) (hw _ (List.mem_of_getElem? (i := 86) rfl)) (by decide) (by decide)) (g := (mkF m 30 #[.val (.ref ba), .val (.ref sa), .val (.int (own_ln scs))] [(.ref sa), (.int (own_ln bcs)), (.ref ba)])) rfl (by rw [hml]; rfl) (Steps.refl _) (a := ba) (by rw [e4]; exact q5) q5' (argsL := [(.int (own_ln bcs)), (.ref sa)]) (rest := []) (lenOf pd_9 rfl) rfl (by show 2 * 0 + _ ≤ _; exact Nat.le_of_eq rfl) (hb hby d18_30) (fun _ _ => ⟨rfl, e4, (by decide : 0 + 0 ≤ _), (by decide : 0 + 0 ≤ _)⟩)
  dsimp only [Pt.U, Pt.locs, Pt.cells, Pt.slots] at X5 l5 y5 z5 st5 hQ5
  subst l5 y5 z5
  obtain ⟨rfl, N5q, K5, P6⟩ := hQ5
  have N5_ := Fr.app N3_ N5q
  refine Gl.via (fun _ k => st5.trans k) ?_
  have Z7 : n0 ≤ T5.heap.size := Nat.le_trans Z0 K5.1
  have Y8 : h0.size ≤ T5.heap.size := Nat.le_trans (Nat.le_refl h0.size) K5.1
  show Gl p.tables e below T5 (mkF m 33 #[.val (.ref ba), .val (.ref sa), .val (.int (own_ln scs))] []) G
  refine Gl.via (fun _ k => XS.aloadN X5.here hx rfl (hb hby d18_33) rfl rfl k) ?_
  show Gl p.tables e below T5 (mkF m 34 #[.val (.ref ba), .val (.ref sa), .val (.int (own_ln scs))] [(.ref ba)]) G
  refine Gl.via (fun _ k => XS.dup X5.here hx rfl (hb hby d18_34) rfl rfl k) ?_
  show Gl p.tables e below T5 (mkF m 35 #[.val (.ref ba), .val (.ref sa), .val (.int (own_ln scs))] [(.ref ba), (.ref ba)]) G
  have G9 : Fld Z T5.heap ba "java/lang/AbstractStringBuilder" "count" "I" (.int (own_ln bcs)) := (F3_ba_count.keep K5 (ninS hp5 nin0))
  obtain ⟨T10, X10, e10, st10⟩ := getF X5 hx hZ hown (host := "") (Or.inl (hw _ (List.mem_of_getElem? (i := 114) rfl))) Via.refl rfl G9 (g := (mkF m 35 #[.val (.ref ba), .val (.ref sa), .val (.int (own_ln scs))] [(.ref ba), (.ref ba)])) rfl rfl (hb hby d18_35)
  refine Gl.via st10 ?_
  show Gl p.tables e below T10 (mkF m 38 #[.val (.ref ba), .val (.ref sa), .val (.int (own_ln scs))] [(.int (own_ln bcs)), (.ref ba)]) G
  refine Gl.via (fun _ k => XS.iloadN X10.here hx rfl (hb hby d18_38) rfl k) ?_
  show Gl p.tables e below T10 (mkF m 39 #[.val (.ref ba), .val (.ref sa), .val (.int (own_ln scs))] [(.int (own_ln scs)), (.int (own_ln bcs)), (.ref ba)]) G
  refine Gl.via (fun _ k => XS.iadd X10.here hx rfl (hb hby d18_39) rfl k) ?_
  show Gl p.tables e below T10 (mkF m 40 #[.val (.ref ba), .val (.ref sa), .val (.int (own_ln scs))] [(.int ((own_ln bcs) + (own_ln scs))), (.ref ba)]) G
  rw [show ((own_ln bcs) + (own_ln scs)) = (own_ln (bcs ++ scs)) from (own_lnApp (by omega))]
  show Gl p.tables e below T10 (mkF m 40 #[.val (.ref ba), .val (.ref sa), .val (.int (own_ln scs))] [(.int (own_ln (bcs ++ scs))), (.ref ba)]) G
  have G11 : Exa Z T5.heap ba "java/lang/StringBuilder" := (F0_ba.keep K5)
  obtain ⟨T12, h12, X12, e12, W12, st12⟩ := putF X10 hx hZ hown (host := "") (Or.inl (hw _ (List.mem_of_getElem? (i := 114) rfl))) Via.refl e10 G9 G11 (Or.inl (hw _ (List.mem_of_getElem? (i := 115) rfl))) (hw _ (List.mem_of_getElem? (i := 77) rfl)) (ty := .int) (by decide) rfl rfl (g := (mkF m 40 #[.val (.ref ba), .val (.ref sa), .val (.int (own_ln scs))] [(.int (own_ln (bcs ++ scs))), (.ref ba)])) rfl rfl (hb hby d18_40)
  refine Gl.via st12 ?_
  have N12_ := Fr.snoc X12 N5_ hp4
  have Z13 : n0 ≤ h12.size := Nat.le_trans Z7 (Keep.of_wr W12).1
  have Y14 : h0.size ≤ h12.size := Nat.le_trans Y8 (Keep.of_wr W12).1
  show Gl p.tables e below T12 (mkF m 43 #[.val (.ref ba), .val (.ref sa), .val (.int (own_ln scs))] []) G
  refine Gl.via (fun _ k => XS.aloadN X12.here hx rfl (hb hby d18_43) rfl rfl k) ?_
  show Gl p.tables e below T12 (mkF m 44 #[.val (.ref ba), .val (.ref sa), .val (.int (own_ln scs))] [(.ref ba)]) G
  obtain ⟨fs, hr, hrun, hended, hW, hsame⟩ := X12.leave (v := some (.ref ba)) (fun h => by rw [Bd.returns] at h; cases h)
  have G15 : Exa Z h12 ba "java/lang/StringBuilder" := (G11.wr W12)
  have G16 : Fld Z h12 ba "java/lang/AbstractStringBuilder" "value" "[B" (.ref bv) := ((F1_ba_value.keep K5 (ninS hp5 nin0)).other W12 (Or.inr (slot_ne (Or.inl (hw _ (List.mem_of_getElem? (i := 91) rfl))) (Or.inl (hw _ (List.mem_of_getElem? (i := 115) rfl))) (by decide) (t := (.array .byte)) (t' := .int) (by decide) (by decide))))
  have G17 : Fld Z h12 ba "java/lang/AbstractStringBuilder" "coder" "B" (.int (0 : Int32)) := ((F2_ba_coder.keep K5 (ninS hp5 nin0)).other W12 (Or.inr (slot_ne (Or.inl (hw _ (List.mem_of_getElem? (i := 93) rfl))) (Or.inl (hw _ (List.mem_of_getElem? (i := 115) rfl))) (by decide) (t := .byte) (t' := .int) (by decide) (by decide))))
  have G18 : Arv Z h12 bv bk .byte (16 : Int32) ((bcs ++ scs).map Value.int) (.int (0 : Int32)) := (P6.other W12 (Ne.symm hp5))
  have hq : ∀ L, Fr n0 L → Q_asb_app Z ba bv bk bcs sa sb sk scs cps h0 n0 (some (.ref ba)) T12.heap L := by
    intro L hN
    rw [e12]
    exact ⟨rfl, hN, (((Keep.refl h0 [ba, bv]).trans K5 (allS (Or.inl (List.mem_of_getElem? (i := 1) rfl)) all0)).wr W12 (Or.inl (List.mem_of_getElem? (i := 0) rfl))), G15, G16, G17, (Fld.same W12 G9), G18⟩
  rw [hG]
  exact Gl.fin (retOut X12 hx Bd.returns rfl (Or.inr (Or.inr (Or.inr (Or.inr ⟨rfl, rfl, rfl⟩)))) (hb hby d18_44) hr) ⟨_, hrun, hended, _, _, rfl, hq _ N12_, ⟨_, rfl⟩, hW, hsame.mono (by decide) (by decide)⟩
theorem d17_0 : decode jdk_67_method_7_code 0 = .ok (.aload_n 0, 1) := by decide +kernel
theorem d17_1 : decode jdk_67_method_7_code 1 = .ok (.aload_n 1, 1) := by decide +kernel
theorem d17_2 : decode jdk_67_method_7_code 2 = .ok (.invokespecial 29, 3) := by decide +kernel
theorem pd_10 : parseMethodDescriptor "(Ljava/lang/String;)Ljava/lang/AbstractStringBuilder;" = some ⟨[(.object "java/lang/String")], some (.object "java/lang/AbstractStringBuilder")⟩ := by decide +kernel
theorem d17_5 : decode jdk_67_method_7_code 5 = .ok (.pop, 1) := by decide +kernel
theorem d17_6 : decode jdk_67_method_7_code 6 = .ok (.aload_n 0, 1) := by decide +kernel
theorem d17_7 : decode jdk_67_method_7_code 7 = .ok (.areturn, 1) := by decide +kernel
theorem ef_sb_app (m : MethodId) (x0 : Addr) (x1 : Addr) : entryFrame m #[(.ref x0), (.ref x1)] 2 = mkF m 0 #[.val (.ref x0), .val (.ref x1)] [] := by first | (simp [entryFrame, mkF, argsToLocals, Value.category]; done) | rfl | (simp [entryFrame, mkF, argsToLocals, own_catI, own_catR, *]; done)
def Q_sb_app (Z : State) (ba : Addr) (bv : Addr) (bk : ClassId) (bcs : List Int32) (sa : Addr) (sb : Addr) (sk : ClassId) (scs : List Int32) (cps : Int32) (h0 : Heap) (n0 : Nat) (v : Option Value) (h : Heap) (L : List Loc) : Prop := v = some (.ref ba) ∧ Fr n0 L ∧ Keep h0 h [ba, bv] ∧ Exa Z h ba "java/lang/StringBuilder" ∧ Fld Z h ba "java/lang/AbstractStringBuilder" "value" "[B" (.ref bv) ∧ Fld Z h ba "java/lang/AbstractStringBuilder" "coder" "B" (.int (0 : Int32)) ∧ Fld Z h ba "java/lang/AbstractStringBuilder" "count" "I" (.int (own_ln (bcs ++ scs))) ∧ Arv Z h bv bk .byte (16 : Int32) ((bcs ++ scs).map Value.int) (.int (0 : Int32))
set_option maxRecDepth 65536 in
set_option maxHeartbeats 40000000 in
theorem sb_app (l : Launch) (Z : State) (a0 : Array Value) (hw : ∀ d ∈ tables_1, d.before a0 Z = true) (ws : List Jvm.Cond) (ba : Addr) (bv : Addr) (bk : ClassId) (bcs : List Int32) (sa : Addr) (sb : Addr) (sk : ClassId) (scs : List Int32) (cps : Int32) (h0 : Heap) (n0 : Nat) (Z0 : n0 ≤ h0.size) (F0_ba : Exa Z h0 ba "java/lang/StringBuilder") (F1_ba_value : Fld Z h0 ba "java/lang/AbstractStringBuilder" "value" "[B" (.ref bv)) (F2_ba_coder : Fld Z h0 ba "java/lang/AbstractStringBuilder" "coder" "B" (.int (0 : Int32))) (F3_ba_count : Fld Z h0 ba "java/lang/AbstractStringBuilder" "count" "I" (.int (own_ln bcs))) (F4_bv : Arv Z h0 bv bk .byte (16 : Int32) (bcs.map Value.int) (.int (0 : Int32))) (F5_sa : Exa Z h0 sa "java/lang/String") (F6_sa_coder : Fld Z h0 sa "java/lang/String" "coder" "B" (.int (0 : Int32))) (F7_sa_value : Fld Z h0 sa "java/lang/String" "value" "[B" (.ref sb)) (F8_sb : Arv Z h0 sb sk .byte (own_ln scs) (scs.map Value.int) (.int (0 : Int32))) (F9_java_lang_String : Sta Z Z.heap "java/lang/String" "COMPACT_STRINGS" "Z" (.int cps)) (F10_ : Old Z n0 h0) (hcps : ¬ (cps = (0 : Int32))) (hln : bcs.length + scs.length ≤ 16) (hsv : sb ≠ bv) (hp3 : n0 ≤ bv) (hp4 : n0 ≤ ba) (hp5 : ba ≠ bv) (hp6 : ba ≠ sb) (hp7 : ba ≠ sa) :
    MetFree l (⟨"java/lang/StringBuilder", "append", "(Ljava/lang/String;)Ljava/lang/StringBuilder;"⟩ : MethodName) (head1 (Jvm.Cond.code (⟨"java/lang/StringBuilder", "append", "(Ljava/lang/String;)Ljava/lang/StringBuilder;"⟩ : MethodName) jdk_67_method_7_code 2 (some (.object "java/lang/StringBuilder")) :: ws) ({ frames := 4, cells := 0, slots := 0, locals := 83 } : Room)) (fun a U => a = #[(.ref ba), (.ref sa)] ∧ Z.Warmed39 U.vm ∧ U.heap = h0) (fun _ _ _ _ _ => True) (fun _ U o U' => ∃ v L, o = .returned v ∧ Q_sb_app Z ba bv bk bcs sa sb sk scs cps h0 n0 v U'.heap L ∧ FrameEnd U o U' L ({ frames := 4, cells := 0, slots := 0, locals := 83 } : Room).cells ({ frames := 4, cells := 0, slots := 0, locals := 83 } : Room).slots) := by
  refine MetFree.of_bodySF (plainFor_of_name pn_4) hisR ?_
  intro p e s m args below meth c s₁ Bd hml0 hP hK
  obtain ⟨rfl, hZ, hh⟩ := hP
  have hx := Bd.exec
  have hby := Bd.bytes
  have hml : c.maxLocals = 2 := hml0
  have hown : s.vm.findClass "java/lang/StringBuilder" = some m.cls := findClass_of_methodNamed Bd.named
  have hnm := (name_of_methodNamed Bd.named Bd.method).1
  have X0 : Stand p l e ({ frames := 4, cells := 0, slots := 0, locals := 83 } : Room) s m #[(.ref ba), (.ref sa)] below meth c s₁ [] 0 0 := Stand.of_body Bd
  have e0 : s₁.heap = h0 := by rw [← hh, Bd.state]; rfl
  have N0 := Fr.nil n0
  obtain ⟨G, hG⟩ : ∃ G : State → Prop, G = (fun U' => ∃ o, U'.status = .running ∧ Ended U' below o ∧ ∃ v L, o = .returned v ∧ Q_sb_app Z ba bv bk bcs sa sb sk scs cps h0 n0 v U'.heap L ∧ FrameEnd s o U' L ({ frames := 4, cells := 0, slots := 0, locals := 83 } : Room).cells ({ frames := 4, cells := 0, slots := 0, locals := 83 } : Room).slots) := ⟨_, rfl⟩
  suffices key : Gl p.tables e below s₁ (mkF m 0 #[.val (.ref ba), .val (.ref sa)] []) G by
    obtain ⟨s₂, k1, k2⟩ := key
    rw [hG] at k2
    obtain ⟨o, k3, k4, k5⟩ := k2
    exact ⟨s₂, o, castTop (ef_sb_app m ba sa) k1, k3, k4, k5⟩
  show Gl p.tables e below s₁ (mkF m 0 #[.val (.ref ba), .val (.ref sa)] []) G
  refine Gl.via (fun _ k => XS.aloadN X0.here hx rfl (hb hby d17_0) rfl rfl k) ?_
  show Gl p.tables e below s₁ (mkF m 1 #[.val (.ref ba), .val (.ref sa)] [(.ref ba)]) G
  refine Gl.via (fun _ k => XS.aloadN X0.here hx rfl (hb hby d17_1) rfl rfl k) ?_
  show Gl p.tables e below s₁ (mkF m 2 #[.val (.ref ba), .val (.ref sa)] [(.ref sa), (.ref ba)]) G
  obtain ⟨_, _, ⟨T1, L1, k1, n1⟩, -, X1, ⟨Lc1, hQ1, l1, y1, z1⟩, st1⟩ := superBack X0 hx hZ (y := (⟨"java/lang/AbstractStringBuilder", "append", "(Ljava/lang/String;)Ljava/lang/AbstractStringBuilder;"⟩ : MethodName)) hown (hw _ (List.mem_of_getElem? (i := 99) rfl)) (own_sameM (y := (⟨"java/lang/AbstractStringBuilder", "append", "(Ljava/lang/String;)Ljava/lang/AbstractStringBuilder;"⟩ : MethodName)) (own_nonface (y := (⟨"java/lang/AbstractStringBuilder", "isLatin1", "()Z"⟩ : MethodName)) (hw _ (List.mem_of_getElem? (i := 170) rfl)) (hw _ (List.mem_of_getElem? (i := 168) rfl))) (hw _ (List.mem_of_getElem? (i := 102) rfl)) (by decide)) (hw _ (List.mem_of_getElem? (i := 100) rfl)) (hw _ (List.mem_of_getElem? (i := 101) rfl)) (by decide) (backOf (W := 0) (asb_app l Z a0 hw [] ba bv bk bcs sa sb sk scs cps h0 n0 Z0 F0_ba F1_ba_value F2_ba_coder F3_ba_count F4_bv F5_sa F6_sa_coder F7_sa_value F8_sb F9_java_lang_String F10_ hcps hln hsv hp3 hp4 hp5 hp6 hp7) hZ (hw _ (List.mem_of_getElem? (i := 103) rfl)) (hw _ (List.mem_of_getElem? (i := 86) rfl)) (by decide) (by decide)) e0 (Ins.self F0_ba) (g := (mkF m 2 #[.val (.ref ba), .val (.ref sa)] [(.ref sa), (.ref ba)])) rfl (by rw [hml]; rfl) (hw _ (List.mem_of_getElem? (i := 103) rfl)) (argsL := [(.ref sa)]) (rest := []) (lenOf pd_10 rfl) rfl (by show 2 * 0 + _ ≤ _; exact Nat.le_of_eq rfl) (hb hby d17_2) (fun _ _ => ⟨rfl, e0, (by decide : 0 + 0 ≤ _), (by decide : 0 + 0 ≤ _)⟩)
  dsimp only [Pt.U, Pt.locs, Pt.cells, Pt.slots] at X1 l1 y1 z1 st1 hQ1
  subst l1 y1 z1
  obtain ⟨rfl, N1q, K1, P2, P3, P4, P5, P6⟩ := hQ1
  have N1_ := Fr.app N0 N1q
  refine Gl.via (fun _ k => st1.trans k) ?_
  have Z7 : n0 ≤ T1.heap.size := Nat.le_trans Z0 K1.1
  have Y8 : h0.size ≤ T1.heap.size := Nat.le_trans (Nat.le_refl h0.size) K1.1
  show Gl p.tables e below T1 (mkF m 5 #[.val (.ref ba), .val (.ref sa)] [(.ref ba)]) G
  refine Gl.via (fun _ k => XS.pop X1.here hx rfl (hb hby d17_5) rfl rfl k) ?_
  show Gl p.tables e below T1 (mkF m 6 #[.val (.ref ba), .val (.ref sa)] []) G
  refine Gl.via (fun _ k => XS.aloadN X1.here hx rfl (hb hby d17_6) rfl rfl k) ?_
  show Gl p.tables e below T1 (mkF m 7 #[.val (.ref ba), .val (.ref sa)] [(.ref ba)]) G
  obtain ⟨fs, hr, hrun, hended, hW, hsame⟩ := X1.leave (v := some (.ref ba)) (fun h => by rw [Bd.returns] at h; cases h)
  have hq : ∀ L, Fr n0 L → Q_sb_app Z ba bv bk bcs sa sb sk scs cps h0 n0 (some (.ref ba)) T1.heap L := by
    intro L hN
    exact ⟨rfl, hN, ((Keep.refl h0 [ba, bv]).trans K1 (allS (Or.inl (List.mem_of_getElem? (i := 0) rfl)) (allS (Or.inl (List.mem_of_getElem? (i := 1) rfl)) all0))), P2, P3, P4, P5, P6⟩
  rw [hG]
  exact Gl.fin (retOut X1 hx Bd.returns rfl (Or.inr (Or.inr (Or.inr (Or.inr ⟨rfl, rfl, rfl⟩)))) (hb hby d17_7) hr) ⟨_, hrun, hended, _, _, rfl, hq _ N1_, ⟨_, rfl⟩, hW, hsame.mono (by decide) (by decide)⟩
theorem d28_0 : decode jdk_68_method_64_code 0 = .ok (.aload_n 0, 1) := by decide +kernel
theorem d28_1 : decode jdk_68_method_64_code 1 = .ok (.getfield 15, 3) := by decide +kernel
theorem d28_4 : decode jdk_68_method_64_code 4 = .ok (.areturn, 1) := by decide +kernel
theorem ef_asb_val (m : MethodId) (x0 : Addr) : entryFrame m #[(.ref x0)] 1 = mkF m 0 #[.val (.ref x0)] [] := by first | (simp [entryFrame, mkF, argsToLocals, Value.category]; done) | rfl | (simp [entryFrame, mkF, argsToLocals, own_catI, own_catR, *]; done)
def Q_asb_val (Z : State) (ba : Addr) (bv : Addr) (h0 : Heap) (n0 : Nat) (v : Option Value) (h : Heap) (L : List Loc) : Prop := v = some (.ref bv) ∧ Fr n0 L ∧ h = h0
set_option maxRecDepth 65536 in
set_option maxHeartbeats 40000000 in
theorem asb_val (l : Launch) (Z : State) (a0 : Array Value) (hw : ∀ d ∈ tables_1, d.before a0 Z = true) (ws : List Jvm.Cond) (ba : Addr) (bv : Addr) (h0 : Heap) (n0 : Nat) (Z0 : n0 ≤ h0.size) (F0_ba_value : Fld Z h0 ba "java/lang/AbstractStringBuilder" "value" "[B" (.ref bv)) :
    MetFree l (⟨"java/lang/AbstractStringBuilder", "getValue", "()[B"⟩ : MethodName) (head1 (Jvm.Cond.code (⟨"java/lang/AbstractStringBuilder", "getValue", "()[B"⟩ : MethodName) jdk_68_method_64_code 1 (some (.array .byte)) :: ws) ({ frames := 0, cells := 0, slots := 0, locals := 0 } : Room)) (fun a U => a = #[(.ref ba)] ∧ Z.Warmed39 U.vm ∧ U.heap = h0) (fun _ _ _ _ _ => True) (fun _ U o U' => ∃ v L, o = .returned v ∧ Q_asb_val Z ba bv h0 n0 v U'.heap L ∧ FrameEnd U o U' L ({ frames := 0, cells := 0, slots := 0, locals := 0 } : Room).cells ({ frames := 0, cells := 0, slots := 0, locals := 0 } : Room).slots) := by
  refine MetFree.of_bodySF (plainFor_of_name pn_3) hisR ?_
  intro p e s m args below meth c s₁ Bd hml0 hP hK
  obtain ⟨rfl, hZ, hh⟩ := hP
  have hx := Bd.exec
  have hby := Bd.bytes
  have hml : c.maxLocals = 1 := hml0
  have hown : s.vm.findClass "java/lang/AbstractStringBuilder" = some m.cls := findClass_of_methodNamed Bd.named
  have hnm := (name_of_methodNamed Bd.named Bd.method).1
  have X0 : Stand p l e ({ frames := 0, cells := 0, slots := 0, locals := 0 } : Room) s m #[(.ref ba)] below meth c s₁ [] 0 0 := Stand.of_body Bd
  have e0 : s₁.heap = h0 := by rw [← hh, Bd.state]; rfl
  have N0 := Fr.nil n0
  obtain ⟨G, hG⟩ : ∃ G : State → Prop, G = (fun U' => ∃ o, U'.status = .running ∧ Ended U' below o ∧ ∃ v L, o = .returned v ∧ Q_asb_val Z ba bv h0 n0 v U'.heap L ∧ FrameEnd s o U' L ({ frames := 0, cells := 0, slots := 0, locals := 0 } : Room).cells ({ frames := 0, cells := 0, slots := 0, locals := 0 } : Room).slots) := ⟨_, rfl⟩
  suffices key : Gl p.tables e below s₁ (mkF m 0 #[.val (.ref ba)] []) G by
    obtain ⟨s₂, k1, k2⟩ := key
    rw [hG] at k2
    obtain ⟨o, k3, k4, k5⟩ := k2
    exact ⟨s₂, o, castTop (ef_asb_val m ba) k1, k3, k4, k5⟩
  show Gl p.tables e below s₁ (mkF m 0 #[.val (.ref ba)] []) G
  refine Gl.via (fun _ k => XS.aloadN X0.here hx rfl (hb hby d28_0) rfl rfl k) ?_
  show Gl p.tables e below s₁ (mkF m 1 #[.val (.ref ba)] [(.ref ba)]) G
  obtain ⟨T1, X1, e1, st1⟩ := getF X0 hx hZ hown (host := "") (Or.inl (hw _ (List.mem_of_getElem? (i := 90) rfl))) Via.refl e0 F0_ba_value (g := (mkF m 1 #[.val (.ref ba)] [(.ref ba)])) rfl rfl (hb hby d28_1)
  refine Gl.via st1 ?_
  show Gl p.tables e below T1 (mkF m 4 #[.val (.ref ba)] [(.ref bv)]) G
  obtain ⟨fs, hr, hrun, hended, hW, hsame⟩ := X1.leave (v := some (.ref bv)) (fun h => by rw [Bd.returns] at h; cases h)
  have hq : ∀ L, Fr n0 L → Q_asb_val Z ba bv h0 n0 (some (.ref bv)) T1.heap L := by
    intro L hN
    rw [e1]
    exact ⟨rfl, hN, rfl⟩
  rw [hG]
  exact Gl.fin (retOut X1 hx Bd.returns rfl (Or.inr (Or.inr (Or.inr (Or.inr ⟨rfl, rfl, rfl⟩)))) (hb hby d28_4) hr) ⟨_, hrun, hended, _, _, rfl, hq _ N0, ⟨_, rfl⟩, hW, hsame.mono (by decide) (by decide)⟩
theorem d30_0 : decode jdk_68_method_6_code 0 = .ok (.aload_n 0, 1) := by decide +kernel
theorem d30_1 : decode jdk_68_method_6_code 1 = .ok (.getfield 79, 3) := by decide +kernel
theorem d30_4 : decode jdk_68_method_6_code 4 = .ok (.ireturn, 1) := by decide +kernel
theorem ef_asb_len (m : MethodId) (x0 : Addr) : entryFrame m #[(.ref x0)] 1 = mkF m 0 #[.val (.ref x0)] [] := by first | (simp [entryFrame, mkF, argsToLocals, Value.category]; done) | rfl | (simp [entryFrame, mkF, argsToLocals, own_catI, own_catR, *]; done)
def Q_asb_len (Z : State) (ba : Addr) (bn : Int32) (h0 : Heap) (n0 : Nat) (v : Option Value) (h : Heap) (L : List Loc) : Prop := v = some (.int bn) ∧ Fr n0 L ∧ h = h0
set_option maxRecDepth 65536 in
set_option maxHeartbeats 40000000 in
theorem asb_len (l : Launch) (Z : State) (a0 : Array Value) (hw : ∀ d ∈ tables_1, d.before a0 Z = true) (ws : List Jvm.Cond) (ba : Addr) (bn : Int32) (h0 : Heap) (n0 : Nat) (Z0 : n0 ≤ h0.size) (F0_ba : Exa Z h0 ba "java/lang/StringBuilder") (F1_ba_count : Fld Z h0 ba "java/lang/AbstractStringBuilder" "count" "I" (.int bn)) :
    MetFree l (⟨"java/lang/AbstractStringBuilder", "length", "()I"⟩ : MethodName) (head1 (Jvm.Cond.code (⟨"java/lang/AbstractStringBuilder", "length", "()I"⟩ : MethodName) jdk_68_method_6_code 1 (some .int) :: ws) ({ frames := 0, cells := 0, slots := 0, locals := 0 } : Room)) (fun a U => a = #[(.ref ba)] ∧ Z.Warmed39 U.vm ∧ U.heap = h0) (fun _ _ _ _ _ => True) (fun _ U o U' => ∃ v L, o = .returned v ∧ Q_asb_len Z ba bn h0 n0 v U'.heap L ∧ FrameEnd U o U' L ({ frames := 0, cells := 0, slots := 0, locals := 0 } : Room).cells ({ frames := 0, cells := 0, slots := 0, locals := 0 } : Room).slots) := by
  refine MetFree.of_bodySF (plainFor_of_name pn_3) hisR ?_
  intro p e s m args below meth c s₁ Bd hml0 hP hK
  obtain ⟨rfl, hZ, hh⟩ := hP
  have hx := Bd.exec
  have hby := Bd.bytes
  have hml : c.maxLocals = 1 := hml0
  have hown : s.vm.findClass "java/lang/AbstractStringBuilder" = some m.cls := findClass_of_methodNamed Bd.named
  have hnm := (name_of_methodNamed Bd.named Bd.method).1
  have X0 : Stand p l e ({ frames := 0, cells := 0, slots := 0, locals := 0 } : Room) s m #[(.ref ba)] below meth c s₁ [] 0 0 := Stand.of_body Bd
  have e0 : s₁.heap = h0 := by rw [← hh, Bd.state]; rfl
  have N0 := Fr.nil n0
  obtain ⟨G, hG⟩ : ∃ G : State → Prop, G = (fun U' => ∃ o, U'.status = .running ∧ Ended U' below o ∧ ∃ v L, o = .returned v ∧ Q_asb_len Z ba bn h0 n0 v U'.heap L ∧ FrameEnd s o U' L ({ frames := 0, cells := 0, slots := 0, locals := 0 } : Room).cells ({ frames := 0, cells := 0, slots := 0, locals := 0 } : Room).slots) := ⟨_, rfl⟩
  suffices key : Gl p.tables e below s₁ (mkF m 0 #[.val (.ref ba)] []) G by
    obtain ⟨s₂, k1, k2⟩ := key
    rw [hG] at k2
    obtain ⟨o, k3, k4, k5⟩ := k2
    exact ⟨s₂, o, castTop (ef_asb_len m ba) k1, k3, k4, k5⟩
  show Gl p.tables e below s₁ (mkF m 0 #[.val (.ref ba)] []) G
  refine Gl.via (fun _ k => XS.aloadN X0.here hx rfl (hb hby d30_0) rfl rfl k) ?_
  show Gl p.tables e below s₁ (mkF m 1 #[.val (.ref ba)] [(.ref ba)]) G
  obtain ⟨T1, X1, e1, st1⟩ := getF X0 hx hZ hown (host := "") (Or.inl (hw _ (List.mem_of_getElem? (i := 114) rfl))) Via.refl e0 F1_ba_count (g := (mkF m 1 #[.val (.ref ba)] [(.ref ba)])) rfl rfl (hb hby d30_1)
  refine Gl.via st1 ?_
  show Gl p.tables e below T1 (mkF m 4 #[.val (.ref ba)] [(.int bn)]) G
  obtain ⟨fs, hr, hrun, hended, hW, hsame⟩ := X1.leave (v := some (.int bn)) (fun h => by rw [Bd.returns] at h; cases h)
  have hq : ∀ L, Fr n0 L → Q_asb_len Z ba bn h0 n0 (some (.int bn)) T1.heap L := by
    intro L hN
    rw [e1]
    exact ⟨rfl, hN, rfl⟩
  rw [hG]
  exact Gl.fin (retOut X1 hx Bd.returns rfl (Or.inl ⟨rfl, Or.inl rfl, _, rfl⟩) (hb hby d30_4) hr) ⟨_, hrun, hended, _, _, rfl, hq _ N0, ⟨_, rfl⟩, hW, hsame.mono (by decide) (by decide)⟩
theorem d29_0 : decode jdk_67_method_93_code 0 = .ok (.aload_n 0, 1) := by decide +kernel
theorem d29_1 : decode jdk_67_method_93_code 1 = .ok (.invokespecial 343, 3) := by decide +kernel
theorem d29_4 : decode jdk_67_method_93_code 4 = .ok (.ireturn, 1) := by decide +kernel
theorem ef_sb_len (m : MethodId) (x0 : Addr) : entryFrame m #[(.ref x0)] 1 = mkF m 0 #[.val (.ref x0)] [] := by first | (simp [entryFrame, mkF, argsToLocals, Value.category]; done) | rfl | (simp [entryFrame, mkF, argsToLocals, own_catI, own_catR, *]; done)
def Q_sb_len (Z : State) (ba : Addr) (bn : Int32) (h0 : Heap) (n0 : Nat) (v : Option Value) (h : Heap) (L : List Loc) : Prop := v = some (.int bn) ∧ Fr n0 L ∧ h = h0
set_option maxRecDepth 65536 in
set_option maxHeartbeats 40000000 in
theorem sb_len (l : Launch) (Z : State) (a0 : Array Value) (hw : ∀ d ∈ tables_1, d.before a0 Z = true) (ws : List Jvm.Cond) (ba : Addr) (bn : Int32) (h0 : Heap) (n0 : Nat) (Z0 : n0 ≤ h0.size) (F0_ba : Exa Z h0 ba "java/lang/StringBuilder") (F1_ba_count : Fld Z h0 ba "java/lang/AbstractStringBuilder" "count" "I" (.int bn)) :
    MetFree l (⟨"java/lang/StringBuilder", "length", "()I"⟩ : MethodName) (head1 (Jvm.Cond.code (⟨"java/lang/StringBuilder", "length", "()I"⟩ : MethodName) jdk_67_method_93_code 1 (some .int) :: ws) ({ frames := 1, cells := 0, slots := 0, locals := 12 } : Room)) (fun a U => a = #[(.ref ba)] ∧ Z.Warmed39 U.vm ∧ U.heap = h0) (fun _ _ _ _ _ => True) (fun _ U o U' => ∃ v L, o = .returned v ∧ Q_sb_len Z ba bn h0 n0 v U'.heap L ∧ FrameEnd U o U' L ({ frames := 1, cells := 0, slots := 0, locals := 12 } : Room).cells ({ frames := 1, cells := 0, slots := 0, locals := 12 } : Room).slots) := by
  refine MetFree.of_bodySF (plainFor_of_name pn_4) hisR ?_
  intro p e s m args below meth c s₁ Bd hml0 hP hK
  obtain ⟨rfl, hZ, hh⟩ := hP
  have hx := Bd.exec
  have hby := Bd.bytes
  have hml : c.maxLocals = 1 := hml0
  have hown : s.vm.findClass "java/lang/StringBuilder" = some m.cls := findClass_of_methodNamed Bd.named
  have hnm := (name_of_methodNamed Bd.named Bd.method).1
  have X0 : Stand p l e ({ frames := 1, cells := 0, slots := 0, locals := 12 } : Room) s m #[(.ref ba)] below meth c s₁ [] 0 0 := Stand.of_body Bd
  have e0 : s₁.heap = h0 := by rw [← hh, Bd.state]; rfl
  have N0 := Fr.nil n0
  obtain ⟨G, hG⟩ : ∃ G : State → Prop, G = (fun U' => ∃ o, U'.status = .running ∧ Ended U' below o ∧ ∃ v L, o = .returned v ∧ Q_sb_len Z ba bn h0 n0 v U'.heap L ∧ FrameEnd s o U' L ({ frames := 1, cells := 0, slots := 0, locals := 12 } : Room).cells ({ frames := 1, cells := 0, slots := 0, locals := 12 } : Room).slots) := ⟨_, rfl⟩
  suffices key : Gl p.tables e below s₁ (mkF m 0 #[.val (.ref ba)] []) G by
    obtain ⟨s₂, k1, k2⟩ := key
    rw [hG] at k2
    obtain ⟨o, k3, k4, k5⟩ := k2
    exact ⟨s₂, o, castTop (ef_sb_len m ba) k1, k3, k4, k5⟩
  show Gl p.tables e below s₁ (mkF m 0 #[.val (.ref ba)] []) G
  refine Gl.via (fun _ k => XS.aloadN X0.here hx rfl (hb hby d29_0) rfl rfl k) ?_
  show Gl p.tables e below s₁ (mkF m 1 #[.val (.ref ba)] [(.ref ba)]) G
  obtain ⟨_, _, ⟨T1, L1, k1, n1⟩, -, X1, ⟨Lc1, hQ1, l1, y1, z1⟩, st1⟩ := superBack X0 hx hZ (y := (⟨"java/lang/AbstractStringBuilder", "length", "()I"⟩ : MethodName)) hown (hw _ (List.mem_of_getElem? (i := 165) rfl)) (own_sameM (y := (⟨"java/lang/AbstractStringBuilder", "length", "()I"⟩ : MethodName)) (own_nonface (y := (⟨"java/lang/AbstractStringBuilder", "isLatin1", "()Z"⟩ : MethodName)) (hw _ (List.mem_of_getElem? (i := 170) rfl)) (hw _ (List.mem_of_getElem? (i := 168) rfl))) (hw _ (List.mem_of_getElem? (i := 160) rfl)) (by decide)) (hw _ (List.mem_of_getElem? (i := 161) rfl)) (hw _ (List.mem_of_getElem? (i := 101) rfl)) (by decide) (backOf (W := 0) (asb_len l Z a0 hw [] ba bn h0 n0 Z0 F0_ba F1_ba_count) hZ (hw _ (List.mem_of_getElem? (i := 166) rfl)) (hw _ (List.mem_of_getElem? (i := 86) rfl)) (by decide) (by decide)) e0 (Ins.self F0_ba) (g := (mkF m 1 #[.val (.ref ba)] [(.ref ba)])) rfl (by rw [hml]; rfl) (hw _ (List.mem_of_getElem? (i := 166) rfl)) (argsL := []) (rest := []) (lenOf pd_8 rfl) rfl (by show 2 * 0 + _ ≤ _; exact Nat.le_of_eq rfl) (hb hby d29_1) (fun _ _ => ⟨rfl, e0, (by decide : 0 + 0 ≤ _), (by decide : 0 + 0 ≤ _)⟩)
  dsimp only [Pt.U, Pt.locs, Pt.cells, Pt.slots] at X1 l1 y1 z1 st1 hQ1
  subst l1 y1 z1
  obtain ⟨rfl, N1q, eh1⟩ := hQ1
  have N1_ := Fr.app N0 N1q
  refine Gl.via (fun _ k => st1.trans k) ?_
  show Gl p.tables e below T1 (mkF m 4 #[.val (.ref ba)] [(.int bn)]) G
  obtain ⟨fs, hr, hrun, hended, hW, hsame⟩ := X1.leave (v := some (.int bn)) (fun h => by rw [Bd.returns] at h; cases h)
  have hq : ∀ L, Fr n0 L → Q_sb_len Z ba bn h0 n0 (some (.int bn)) T1.heap L := by
    intro L hN
    rw [eh1]
    exact ⟨rfl, hN, rfl⟩
  rw [hG]
  exact Gl.fin (retOut X1 hx Bd.returns rfl (Or.inl ⟨rfl, Or.inl rfl, _, rfl⟩) (hb hby d29_4) hr) ⟨_, hrun, hended, _, _, rfl, hq _ N1_, ⟨_, rfl⟩, hW, hsame.mono (by decide) (by decide)⟩
theorem d31_0 : decode jdk_68_method_68_code 0 = .ok (.getstatic 18, 3) := by decide +kernel
theorem d31_3 : decode jdk_68_method_68_code 3 = .ok (.ifCond .eq 14, 3) := by decide +kernel
theorem d31_6 : decode jdk_68_method_68_code 6 = .ok (.aload_n 0, 1) := by decide +kernel
theorem d31_7 : decode jdk_68_method_68_code 7 = .ok (.getfield 22, 3) := by decide +kernel
theorem d31_10 : decode jdk_68_method_68_code 10 = .ok (.ifCond .ne 7, 3) := by decide +kernel
theorem d31_13 : decode jdk_68_method_68_code 13 = .ok (.iconst 1, 1) := by decide +kernel
theorem d31_14 : decode jdk_68_method_68_code 14 = .ok (.goto 4, 3) := by decide +kernel
theorem d31_18 : decode jdk_68_method_68_code 18 = .ok (.ireturn, 1) := by decide +kernel
theorem ef_asb_lat (m : MethodId) (x0 : Addr) : entryFrame m #[(.ref x0)] 1 = mkF m 0 #[.val (.ref x0)] [] := by first | (simp [entryFrame, mkF, argsToLocals, Value.category]; done) | rfl | (simp [entryFrame, mkF, argsToLocals, own_catI, own_catR, *]; done)
def Q_asb_lat (Z : State) (ba : Addr) (cps : Int32) (h0 : Heap) (n0 : Nat) (v : Option Value) (h : Heap) (L : List Loc) : Prop := v = some (.int (1 : Int32)) ∧ Fr n0 L ∧ h = h0
set_option maxRecDepth 65536 in
set_option maxHeartbeats 40000000 in
theorem asb_lat (l : Launch) (Z : State) (a0 : Array Value) (hw : ∀ d ∈ tables_1, d.before a0 Z = true) (ws : List Jvm.Cond) (ba : Addr) (cps : Int32) (h0 : Heap) (n0 : Nat) (Z0 : n0 ≤ h0.size) (F0_ba_coder : Fld Z h0 ba "java/lang/AbstractStringBuilder" "coder" "B" (.int (0 : Int32))) (F1_java_lang_String : Sta Z Z.heap "java/lang/String" "COMPACT_STRINGS" "Z" (.int cps)) (F2_ : Old Z n0 h0) (hcps : ¬ (cps = (0 : Int32))) :
    MetFree l (⟨"java/lang/AbstractStringBuilder", "isLatin1", "()Z"⟩ : MethodName) (head1 (Jvm.Cond.code (⟨"java/lang/AbstractStringBuilder", "isLatin1", "()Z"⟩ : MethodName) jdk_68_method_68_code 1 (some .boolean) :: ws) ({ frames := 0, cells := 0, slots := 0, locals := 0 } : Room)) (fun a U => a = #[(.ref ba)] ∧ Z.Warmed39 U.vm ∧ U.heap = h0) (fun _ _ _ _ _ => True) (fun _ U o U' => ∃ v L, o = .returned v ∧ Q_asb_lat Z ba cps h0 n0 v U'.heap L ∧ FrameEnd U o U' L ({ frames := 0, cells := 0, slots := 0, locals := 0 } : Room).cells ({ frames := 0, cells := 0, slots := 0, locals := 0 } : Room).slots) := by
  refine MetFree.of_bodySF (plainFor_of_name pn_3) hisR ?_
  intro p e s m args below meth c s₁ Bd hml0 hP hK
  obtain ⟨rfl, hZ, hh⟩ := hP
  have hx := Bd.exec
  have hby := Bd.bytes
  have hml : c.maxLocals = 1 := hml0
  have hown : s.vm.findClass "java/lang/AbstractStringBuilder" = some m.cls := findClass_of_methodNamed Bd.named
  have hnm := (name_of_methodNamed Bd.named Bd.method).1
  have X0 : Stand p l e ({ frames := 0, cells := 0, slots := 0, locals := 0 } : Room) s m #[(.ref ba)] below meth c s₁ [] 0 0 := Stand.of_body Bd
  have e0 : s₁.heap = h0 := by rw [← hh, Bd.state]; rfl
  have N0 := Fr.nil n0
  obtain ⟨G, hG⟩ : ∃ G : State → Prop, G = (fun U' => ∃ o, U'.status = .running ∧ Ended U' below o ∧ ∃ v L, o = .returned v ∧ Q_asb_lat Z ba cps h0 n0 v U'.heap L ∧ FrameEnd s o U' L ({ frames := 0, cells := 0, slots := 0, locals := 0 } : Room).cells ({ frames := 0, cells := 0, slots := 0, locals := 0 } : Room).slots) := ⟨_, rfl⟩
  suffices key : Gl p.tables e below s₁ (mkF m 0 #[.val (.ref ba)] []) G by
    obtain ⟨s₂, k1, k2⟩ := key
    rw [hG] at k2
    obtain ⟨o, k3, k4, k5⟩ := k2
    exact ⟨s₂, o, castTop (ef_asb_lat m ba) k1, k3, k4, k5⟩
  show Gl p.tables e below s₁ (mkF m 0 #[.val (.ref ba)] []) G
  have G1 : Sta Z h0 "java/lang/String" "COMPACT_STRINGS" "Z" (.int cps) := F1_java_lang_String.ext F2_.2
  obtain ⟨T2, X2, e2, st2⟩ := getS2 X0 hx hZ hown (host := "") (Or.inl (hw _ (List.mem_of_getElem? (i := 89) rfl))) Via.refl e0 G1 (g := (mkF m 0 #[.val (.ref ba)] [])) rfl (hb hby d31_0)
  refine Gl.via st2 ?_
  show Gl p.tables e below T2 (mkF m 3 #[.val (.ref ba)] [(.int cps)]) G
  refine Gl.via (fun _ k => XS.ifNo X2.here hx rfl (hb hby d31_3) rfl ((if0 _ _).trans (feq hcps).1) k) ?_
  show Gl p.tables e below T2 (mkF m 6 #[.val (.ref ba)] []) G
  refine Gl.via (fun _ k => XS.aloadN X2.here hx rfl (hb hby d31_6) rfl rfl k) ?_
  show Gl p.tables e below T2 (mkF m 7 #[.val (.ref ba)] [(.ref ba)]) G
  obtain ⟨T3, X3, e3, st3⟩ := getF X2 hx hZ hown (host := "") (Or.inl (hw _ (List.mem_of_getElem? (i := 92) rfl))) Via.refl e2 F0_ba_coder (g := (mkF m 7 #[.val (.ref ba)] [(.ref ba)])) rfl rfl (hb hby d31_7)
  refine Gl.via st3 ?_
  show Gl p.tables e below T3 (mkF m 10 #[.val (.ref ba)] [(.int (0 : Int32))]) G
  refine Gl.via (fun _ k => XS.ifNo X3.here hx rfl (hb hby d31_10) rfl ((if0 _ _).trans (teq (by decide)).2) k) ?_
  show Gl p.tables e below T3 (mkF m 13 #[.val (.ref ba)] []) G
  refine Gl.via (fun _ k => XS.iconst X3.here hx rfl (hb hby d31_13) k) ?_
  show Gl p.tables e below T3 (mkF m 14 #[.val (.ref ba)] [(.int (1 : Int32))]) G
  refine Gl.via (fun _ k => XS.goto X3.here hx rfl (pc0 := 14) (pc' := 18) rfl (hb hby d31_14) (by decide) (by decide) k) ?_
  show Gl p.tables e below T3 (mkF m 18 #[.val (.ref ba)] [(.int (1 : Int32))]) G
  obtain ⟨fs, hr, hrun, hended, hW, hsame⟩ := X3.leave (v := some (.int (1 : Int32))) (fun h => by rw [Bd.returns] at h; cases h)
  have hq : ∀ L, Fr n0 L → Q_asb_lat Z ba cps h0 n0 (some (.int (1 : Int32))) T3.heap L := by
    intro L hN
    rw [e3]
    exact ⟨rfl, hN, rfl⟩
  rw [hG]
  exact Gl.fin (retN X3 hx (t := .boolean) Bd.returns (by simp) (hb hby d31_18) hr) ⟨_, hrun, hended, _, _, rfl, hq _ N0, ⟨_, rfl⟩, hW, hsame.mono (by decide) (by decide)⟩
theorem pn_5 : plainName "java/util/Arrays" = true := by first | (simp [plainName, overriddenIn]; done) | decide +kernel
theorem d34_0 : decode jdk_65_method_131_code 0 = .ok (.iload_n 1, 1) := by decide +kernel
theorem d34_1 : decode jdk_65_method_131_code 1 = .ok (.iload_n 0, 1) := by decide +kernel
theorem d34_2 : decode jdk_65_method_131_code 2 = .ok (.if_icmp .ge 35, 3) := by decide +kernel
theorem d34_37 : decode jdk_65_method_131_code 37 = .ok (.return_, 1) := by decide +kernel
theorem ef_ar_chk (m : MethodId) (x0 : Int32) (x1 : Int32) : entryFrame m #[(.int x0), (.int x1)] 2 = mkF m 0 #[.val (.int x0), .val (.int x1)] [] := by first | (simp [entryFrame, mkF, argsToLocals, Value.category]; done) | rfl | (simp [entryFrame, mkF, argsToLocals, own_catI, own_catR, *]; done)
def Q_ar_chk (Z : State) (n1 : Int32) (n2 : Int32) (h0 : Heap) (n0 : Nat) (v : Option Value) (h : Heap) (L : List Loc) : Prop := v = none ∧ Fr n0 L ∧ h = h0
set_option maxRecDepth 65536 in
set_option maxHeartbeats 40000000 in
theorem ar_chk (l : Launch) (Z : State) (a0 : Array Value) (hw : ∀ d ∈ tables_1, d.before a0 Z = true) (ws : List Jvm.Cond) (n1 : Int32) (n2 : Int32) (h0 : Heap) (n0 : Nat) (Z0 : n0 ≤ h0.size) (hle : ¬ (n2 < n1)) :
    MetFree l (⟨"java/util/Arrays", "checkLength", "(II)V"⟩ : MethodName) (head1 (Jvm.Cond.code (⟨"java/util/Arrays", "checkLength", "(II)V"⟩ : MethodName) jdk_65_method_131_code 2 none :: ws) ({ frames := 0, cells := 0, slots := 0, locals := 0 } : Room)) (fun a U => a = #[(.int n1), (.int n2)] ∧ Z.Warmed39 U.vm ∧ U.heap = h0) (fun _ _ _ _ _ => True) (fun _ U o U' => ∃ v L, o = .returned v ∧ Q_ar_chk Z n1 n2 h0 n0 v U'.heap L ∧ FrameEnd U o U' L ({ frames := 0, cells := 0, slots := 0, locals := 0 } : Room).cells ({ frames := 0, cells := 0, slots := 0, locals := 0 } : Room).slots) := by
  refine MetFree.of_bodySF (plainFor_of_name pn_5) hisR ?_
  intro p e s m args below meth c s₁ Bd hml0 hP hK
  obtain ⟨rfl, hZ, hh⟩ := hP
  have hx := Bd.exec
  have hby := Bd.bytes
  have hml : c.maxLocals = 2 := hml0
  have hown : s.vm.findClass "java/util/Arrays" = some m.cls := findClass_of_methodNamed Bd.named
  have hnm := (name_of_methodNamed Bd.named Bd.method).1
  have X0 : Stand p l e ({ frames := 0, cells := 0, slots := 0, locals := 0 } : Room) s m #[(.int n1), (.int n2)] below meth c s₁ [] 0 0 := Stand.of_body Bd
  have e0 : s₁.heap = h0 := by rw [← hh, Bd.state]; rfl
  have N0 := Fr.nil n0
  obtain ⟨G, hG⟩ : ∃ G : State → Prop, G = (fun U' => ∃ o, U'.status = .running ∧ Ended U' below o ∧ ∃ v L, o = .returned v ∧ Q_ar_chk Z n1 n2 h0 n0 v U'.heap L ∧ FrameEnd s o U' L ({ frames := 0, cells := 0, slots := 0, locals := 0 } : Room).cells ({ frames := 0, cells := 0, slots := 0, locals := 0 } : Room).slots) := ⟨_, rfl⟩
  suffices key : Gl p.tables e below s₁ (mkF m 0 #[.val (.int n1), .val (.int n2)] []) G by
    obtain ⟨s₂, k1, k2⟩ := key
    rw [hG] at k2
    obtain ⟨o, k3, k4, k5⟩ := k2
    exact ⟨s₂, o, castTop (ef_ar_chk m n1 n2) k1, k3, k4, k5⟩
  show Gl p.tables e below s₁ (mkF m 0 #[.val (.int n1), .val (.int n2)] []) G
  refine Gl.via (fun _ k => XS.iloadN X0.here hx rfl (hb hby d34_0) rfl k) ?_
  show Gl p.tables e below s₁ (mkF m 1 #[.val (.int n1), .val (.int n2)] [(.int n2)]) G
  refine Gl.via (fun _ k => XS.iloadN X0.here hx rfl (hb hby d34_1) rfl k) ?_
  show Gl p.tables e below s₁ (mkF m 2 #[.val (.int n1), .val (.int n2)] [(.int n1), (.int n2)]) G
  refine Gl.via (fun _ k => XS.icmpYes X0.here hx rfl (pc0 := 2) (pc' := 37) rfl (hb hby d34_2) rfl (flt hle).2.1 (by decide) (by decide) k) ?_
  show Gl p.tables e below s₁ (mkF m 37 #[.val (.int n1), .val (.int n2)] []) G
  obtain ⟨fs, hr, hrun, hended, hW, hsame⟩ := X0.leave (v := none) (fun _ => rfl)
  have hq : ∀ L, Fr n0 L → Q_ar_chk Z n1 n2 h0 n0 (none) s₁.heap L := by
    intro L hN
    rw [e0]
    exact ⟨rfl, hN, rfl⟩
  rw [hG]
  exact Gl.fin (X0.returnOut hx Bd.returns (hb hby d34_37) hr) ⟨_, hrun, hended, _, _, rfl, hq _ N0, ⟨_, rfl⟩, hW, hsame.mono (by decide) (by decide)⟩
theorem d35_0 : decode jdk_29_method_69_code 0 = .ok (.iload_n 0, 1) := by decide +kernel
theorem d35_1 : decode jdk_29_method_69_code 1 = .ok (.iload_n 1, 1) := by decide +kernel
theorem d35_2 : decode jdk_29_method_69_code 2 = .ok (.if_icmp .gt 7, 3) := by decide +kernel
theorem d35_9 : decode jdk_29_method_69_code 9 = .ok (.iload_n 1, 1) := by decide +kernel
theorem d35_10 : decode jdk_29_method_69_code 10 = .ok (.ireturn, 1) := by decide +kernel
theorem ef_m_min (m : MethodId) (x0 : Int32) (x1 : Int32) : entryFrame m #[(.int x0), (.int x1)] 2 = mkF m 0 #[.val (.int x0), .val (.int x1)] [] := by first | (simp [entryFrame, mkF, argsToLocals, Value.category]; done) | rfl | (simp [entryFrame, mkF, argsToLocals, own_catI, own_catR, *]; done)
def Q_m_min (Z : State) (n1 : Int32) (n2 : Int32) (h0 : Heap) (n0 : Nat) (v : Option Value) (h : Heap) (L : List Loc) : Prop := v = some (.int n2) ∧ Fr n0 L ∧ h = h0
set_option maxRecDepth 65536 in
set_option maxHeartbeats 40000000 in
theorem m_min (l : Launch) (Z : State) (a0 : Array Value) (hw : ∀ d ∈ tables_1, d.before a0 Z = true) (ws : List Jvm.Cond) (n1 : Int32) (n2 : Int32) (h0 : Heap) (n0 : Nat) (Z0 : n0 ≤ h0.size) (hle : n2 < n1) :
    MetFree l (⟨"java/lang/Math", "min", "(II)I"⟩ : MethodName) (head1 (Jvm.Cond.code (⟨"java/lang/Math", "min", "(II)I"⟩ : MethodName) jdk_29_method_69_code 2 (some .int) :: ws) ({ frames := 0, cells := 0, slots := 0, locals := 0 } : Room)) (fun a U => a = #[(.int n1), (.int n2)] ∧ Z.Warmed39 U.vm ∧ U.heap = h0) (fun _ _ _ _ _ => True) (fun _ U o U' => ∃ v L, o = .returned v ∧ Q_m_min Z n1 n2 h0 n0 v U'.heap L ∧ FrameEnd U o U' L ({ frames := 0, cells := 0, slots := 0, locals := 0 } : Room).cells ({ frames := 0, cells := 0, slots := 0, locals := 0 } : Room).slots) := by
  refine MetFree.of_bodySF (Jvm.Free.JP.mathPlain rfl (by decide +kernel)) hisR ?_
  intro p e s m args below meth c s₁ Bd hml0 hP hK
  obtain ⟨rfl, hZ, hh⟩ := hP
  have hx := Bd.exec
  have hby := Bd.bytes
  have hml : c.maxLocals = 2 := hml0
  have hown : s.vm.findClass "java/lang/Math" = some m.cls := findClass_of_methodNamed Bd.named
  have hnm := (name_of_methodNamed Bd.named Bd.method).1
  have X0 : Stand p l e ({ frames := 0, cells := 0, slots := 0, locals := 0 } : Room) s m #[(.int n1), (.int n2)] below meth c s₁ [] 0 0 := Stand.of_body Bd
  have e0 : s₁.heap = h0 := by rw [← hh, Bd.state]; rfl
  have N0 := Fr.nil n0
  obtain ⟨G, hG⟩ : ∃ G : State → Prop, G = (fun U' => ∃ o, U'.status = .running ∧ Ended U' below o ∧ ∃ v L, o = .returned v ∧ Q_m_min Z n1 n2 h0 n0 v U'.heap L ∧ FrameEnd s o U' L ({ frames := 0, cells := 0, slots := 0, locals := 0 } : Room).cells ({ frames := 0, cells := 0, slots := 0, locals := 0 } : Room).slots) := ⟨_, rfl⟩
  suffices key : Gl p.tables e below s₁ (mkF m 0 #[.val (.int n1), .val (.int n2)] []) G by
    obtain ⟨s₂, k1, k2⟩ := key
    rw [hG] at k2
    obtain ⟨o, k3, k4, k5⟩ := k2
    exact ⟨s₂, o, castTop (ef_m_min m n1 n2) k1, k3, k4, k5⟩
  show Gl p.tables e below s₁ (mkF m 0 #[.val (.int n1), .val (.int n2)] []) G
  refine Gl.via (fun _ k => XS.iloadN X0.here hx rfl (hb hby d35_0) rfl k) ?_
  show Gl p.tables e below s₁ (mkF m 1 #[.val (.int n1), .val (.int n2)] [(.int n1)]) G
  refine Gl.via (fun _ k => XS.iloadN X0.here hx rfl (hb hby d35_1) rfl k) ?_
  show Gl p.tables e below s₁ (mkF m 2 #[.val (.int n1), .val (.int n2)] [(.int n2), (.int n1)]) G
  refine Gl.via (fun _ k => XS.icmpYes X0.here hx rfl (pc0 := 2) (pc' := 9) rfl (hb hby d35_2) rfl (tlt hle).2.2.1 (by decide) (by decide) k) ?_
  show Gl p.tables e below s₁ (mkF m 9 #[.val (.int n1), .val (.int n2)] []) G
  refine Gl.via (fun _ k => XS.iloadN X0.here hx rfl (hb hby d35_9) rfl k) ?_
  show Gl p.tables e below s₁ (mkF m 10 #[.val (.int n1), .val (.int n2)] [(.int n2)]) G
  obtain ⟨fs, hr, hrun, hended, hW, hsame⟩ := X0.leave (v := some (.int n2)) (fun h => by rw [Bd.returns] at h; cases h)
  have hq : ∀ L, Fr n0 L → Q_m_min Z n1 n2 h0 n0 (some (.int n2)) s₁.heap L := by
    intro L hN
    rw [e0]
    exact ⟨rfl, hN, rfl⟩
  rw [hG]
  exact Gl.fin (retOut X0 hx Bd.returns rfl (Or.inl ⟨rfl, Or.inl rfl, _, rfl⟩) (hb hby d35_10) hr) ⟨_, hrun, hended, _, _, rfl, hq _ N0, ⟨_, rfl⟩, hW, hsame.mono (by decide) (by decide)⟩
theorem d33_0 : decode jdk_65_method_133_code 0 = .ok (.iload_n 1, 1) := by decide +kernel
theorem d33_1 : decode jdk_65_method_133_code 1 = .ok (.iload_n 2, 1) := by decide +kernel
theorem d33_2 : decode jdk_65_method_133_code 2 = .ok (.invokestatic 343, 3) := by decide +kernel
theorem d33_5 : decode jdk_65_method_133_code 5 = .ok (.iload_n 2, 1) := by decide +kernel
theorem d33_6 : decode jdk_65_method_133_code 6 = .ok (.iload_n 1, 1) := by decide +kernel
theorem d33_7 : decode jdk_65_method_133_code 7 = .ok (.isub, 1) := by decide +kernel
theorem d33_8 : decode jdk_65_method_133_code 8 = .ok (.istore_n 3, 1) := by decide +kernel
theorem d33_9 : decode jdk_65_method_133_code 9 = .ok (.iload_n 3, 1) := by decide +kernel
theorem d33_10 : decode jdk_65_method_133_code 10 = .ok (.newarray .byte, 2) := by decide +kernel
theorem d33_12 : decode jdk_65_method_133_code 12 = .ok (.astore 4, 2) := by decide +kernel
theorem d33_14 : decode jdk_65_method_133_code 14 = .ok (.aload_n 0, 1) := by decide +kernel
theorem d33_15 : decode jdk_65_method_133_code 15 = .ok (.iload_n 1, 1) := by decide +kernel
theorem d33_16 : decode jdk_65_method_133_code 16 = .ok (.aload 4, 2) := by decide +kernel
theorem d33_18 : decode jdk_65_method_133_code 18 = .ok (.iconst 0, 1) := by decide +kernel
theorem d33_19 : decode jdk_65_method_133_code 19 = .ok (.aload_n 0, 1) := by decide +kernel
theorem d33_20 : decode jdk_65_method_133_code 20 = .ok (.arraylength, 1) := by decide +kernel
theorem d33_21 : decode jdk_65_method_133_code 21 = .ok (.iload_n 1, 1) := by decide +kernel
theorem d33_22 : decode jdk_65_method_133_code 22 = .ok (.isub, 1) := by decide +kernel
theorem d33_23 : decode jdk_65_method_133_code 23 = .ok (.iload_n 3, 1) := by decide +kernel
theorem d33_24 : decode jdk_65_method_133_code 24 = .ok (.invokestatic 304, 3) := by decide +kernel
theorem pd_11 : parseMethodDescriptor "(II)I" = some ⟨[.int, .int], some .int⟩ := by decide +kernel
theorem d33_27 : decode jdk_65_method_133_code 27 = .ok (.invokestatic 150, 3) := by decide +kernel
theorem d33_30 : decode jdk_65_method_133_code 30 = .ok (.aload 4, 2) := by decide +kernel
theorem d33_32 : decode jdk_65_method_133_code 32 = .ok (.areturn, 1) := by decide +kernel
theorem ef_ar_crb (m : MethodId) (x0 : Addr) (x1 : Int32) (x2 : Int32) : entryFrame m #[(.ref x0), (.int x1), (.int x2)] 5 = mkF m 0 #[.val (.ref x0), .val (.int x1), .val (.int x2), .unset, .unset] [] := by first | (simp [entryFrame, mkF, argsToLocals, Value.category]; done) | rfl | (simp [entryFrame, mkF, argsToLocals, own_catI, own_catR, *]; done)
def Q_ar_crb (Z : State) (bv : Addr) (bk : ClassId) (bcs : List Int32) (h0 : Heap) (n0 : Nat) (v : Option Value) (h : Heap) (L : List Loc) : Prop := ∃ (b : Addr), ∃ (k : ClassId), v = some (.ref b) ∧ Fr n0 L ∧ Keep h0 h [] ∧ Arv Z h b k .byte (own_ln bcs) (bcs.map Value.int) (.int (0 : Int32)) ∧ (h0.size ≤ b)
set_option maxRecDepth 65536 in
set_option maxHeartbeats 40000000 in
theorem ar_crb (l : Launch) (Z : State) (a0 : Array Value) (hw : ∀ d ∈ tables_1, d.before a0 Z = true) (ws : List Jvm.Cond) (bv : Addr) (bk : ClassId) (bcs : List Int32) (h0 : Heap) (n0 : Nat) (Z0 : n0 ≤ h0.size) (F0_bv : Arv Z h0 bv bk .byte (16 : Int32) (bcs.map Value.int) (.int (0 : Int32))) (hln : bcs.length ≤ 15) :
    MetFree l (⟨"java/util/Arrays", "copyOfRangeByte", "([BII)[B"⟩ : MethodName) (head1 (Jvm.Cond.code (⟨"java/util/Arrays", "copyOfRangeByte", "([BII)[B"⟩ : MethodName) jdk_65_method_133_code 5 (some (.array .byte)) :: ws) ({ frames := 1, cells := 1, slots := 16, locals := 40 } : Room)) (fun a U => a = #[(.ref bv), (.int (0 : Int32)), (.int (own_ln bcs))] ∧ Z.Warmed39 U.vm ∧ U.heap = h0) (fun _ _ _ _ _ => True) (fun _ U o U' => ∃ v L, o = .returned v ∧ Q_ar_crb Z bv bk bcs h0 n0 v U'.heap L ∧ FrameEnd U o U' L ({ frames := 1, cells := 1, slots := 16, locals := 40 } : Room).cells ({ frames := 1, cells := 1, slots := 16, locals := 40 } : Room).slots) := by
  refine MetFree.of_bodySF (plainFor_of_name pn_5) hisR ?_
  intro p e s m args below meth c s₁ Bd hml0 hP hK
  obtain ⟨rfl, hZ, hh⟩ := hP
  have hx := Bd.exec
  have hby := Bd.bytes
  have hml : c.maxLocals = 5 := hml0
  have hown : s.vm.findClass "java/util/Arrays" = some m.cls := findClass_of_methodNamed Bd.named
  have hnm := (name_of_methodNamed Bd.named Bd.method).1
  have X0 : Stand p l e ({ frames := 1, cells := 1, slots := 16, locals := 40 } : Room) s m #[(.ref bv), (.int (0 : Int32)), (.int (own_ln bcs))] below meth c s₁ [] 0 0 := Stand.of_body Bd
  have e0 : s₁.heap = h0 := by rw [← hh, Bd.state]; rfl
  have N0 := Fr.nil n0
  obtain ⟨G, hG⟩ : ∃ G : State → Prop, G = (fun U' => ∃ o, U'.status = .running ∧ Ended U' below o ∧ ∃ v L, o = .returned v ∧ Q_ar_crb Z bv bk bcs h0 n0 v U'.heap L ∧ FrameEnd s o U' L ({ frames := 1, cells := 1, slots := 16, locals := 40 } : Room).cells ({ frames := 1, cells := 1, slots := 16, locals := 40 } : Room).slots) := ⟨_, rfl⟩
  suffices key : Gl p.tables e below s₁ (mkF m 0 #[.val (.ref bv), .val (.int (0 : Int32)), .val (.int (own_ln bcs)), .unset, .unset] []) G by
    obtain ⟨s₂, k1, k2⟩ := key
    rw [hG] at k2
    obtain ⟨o, k3, k4, k5⟩ := k2
    exact ⟨s₂, o, castTop (ef_ar_crb m bv (0 : Int32) (own_ln bcs)) k1, k3, k4, k5⟩
  show Gl p.tables e below s₁ (mkF m 0 #[.val (.ref bv), .val (.int (0 : Int32)), .val (.int (own_ln bcs)), .unset, .unset] []) G
  refine Gl.via (fun _ k => XS.iloadN X0.here hx rfl (hb hby d33_0) rfl k) ?_
  show Gl p.tables e below s₁ (mkF m 1 #[.val (.ref bv), .val (.int (0 : Int32)), .val (.int (own_ln bcs)), .unset, .unset] [(.int (0 : Int32))]) G
  refine Gl.via (fun _ k => XS.iloadN X0.here hx rfl (hb hby d33_1) rfl k) ?_
  show Gl p.tables e below s₁ (mkF m 2 #[.val (.ref bv), .val (.int (0 : Int32)), .val (.int (own_ln bcs)), .unset, .unset] [(.int (own_ln bcs)), (.int (0 : Int32))]) G
  obtain ⟨_, _, ⟨T1, L1, k1, n1⟩, -, X1, ⟨Lc1, hQ1, l1, y1, z1⟩, st1⟩ := Jvm.LawKit.callS X0 hx (y := (⟨"java/util/Arrays", "checkLength", "(II)V"⟩ : MethodName)) hown (mvT hZ (hw _ (List.mem_of_getElem? (i := 179) rfl))) (mvT hZ (hw _ (List.mem_of_getElem? (i := 180) rfl))) (mvT hZ (hw _ (List.mem_of_getElem? (i := 174) rfl))) (mvT hZ (hw _ (List.mem_of_getElem? (i := 181) rfl))) (by decide) (backOf (W := 0) (ar_chk l Z a0 hw [] (0 : Int32) (own_ln bcs) h0 n0 Z0 (own_ln0 (by omega))) hZ (hw _ (List.mem_of_getElem? (i := 181) rfl)) (hw _ (List.mem_of_getElem? (i := 174) rfl)) (by decide) (by decide)) (g := (mkF m 2 #[.val (.ref bv), .val (.int (0 : Int32)), .val (.int (own_ln bcs)), .unset, .unset] [(.int (own_ln bcs)), (.int (0 : Int32))])) rfl (by rw [hml]; rfl) (argsL := [(.int (0 : Int32)), (.int (own_ln bcs))]) (rest := []) (lenOf pd_2 rfl) rfl (by show 2 * 0 + _ ≤ _; exact Nat.le_of_eq rfl) (hb hby d33_2) (fun _ _ => ⟨rfl, e0, (by decide : 0 + 0 ≤ _), (by decide : 0 + 0 ≤ _)⟩)
  dsimp only [Pt.U, Pt.locs, Pt.cells, Pt.slots] at X1 l1 y1 z1 st1 hQ1
  subst l1 y1 z1
  obtain ⟨rfl, N1q, eh1⟩ := hQ1
  have N1_ := Fr.app N0 N1q
  refine Gl.via (fun _ k => st1 _ k) ?_
  show Gl p.tables e below T1 (mkF m 5 #[.val (.ref bv), .val (.int (0 : Int32)), .val (.int (own_ln bcs)), .unset, .unset] []) G
  refine Gl.via (fun _ k => XS.iloadN X1.here hx rfl (hb hby d33_5) rfl k) ?_
  show Gl p.tables e below T1 (mkF m 6 #[.val (.ref bv), .val (.int (0 : Int32)), .val (.int (own_ln bcs)), .unset, .unset] [(.int (own_ln bcs))]) G
  refine Gl.via (fun _ k => XS.iloadN X1.here hx rfl (hb hby d33_6) rfl k) ?_
  show Gl p.tables e below T1 (mkF m 7 #[.val (.ref bv), .val (.int (0 : Int32)), .val (.int (own_ln bcs)), .unset, .unset] [(.int (0 : Int32)), (.int (own_ln bcs))]) G
  refine Gl.via (fun _ k => XS.isub X1.here hx rfl (hb hby d33_7) rfl k) ?_
  show Gl p.tables e below T1 (mkF m 8 #[.val (.ref bv), .val (.int (0 : Int32)), .val (.int (own_ln bcs)), .unset, .unset] [(.int ((own_ln bcs) - (0 : Int32)))]) G
  rw [show ((own_ln bcs) - (0 : Int32)) = (own_ln bcs) from (own_sub0 _)]
  show Gl p.tables e below T1 (mkF m 8 #[.val (.ref bv), .val (.int (0 : Int32)), .val (.int (own_ln bcs)), .unset, .unset] [(.int (own_ln bcs))]) G
  refine Gl.via (fun _ k => XS.istoreN X1.here hx rfl (hb hby d33_8) rfl (l' := #[.val (.ref bv), .val (.int (0 : Int32)), .val (.int (own_ln bcs)), .val (.int (own_ln bcs)), .unset]) rfl k) ?_
  show Gl p.tables e below T1 (mkF m 9 #[.val (.ref bv), .val (.int (0 : Int32)), .val (.int (own_ln bcs)), .val (.int (own_ln bcs)), .unset] []) G
  refine Gl.via (fun _ k => XS.iloadN X1.here hx rfl (hb hby d33_9) rfl k) ?_
  show Gl p.tables e below T1 (mkF m 10 #[.val (.ref bv), .val (.int (0 : Int32)), .val (.int (own_ln bcs)), .val (.int (own_ln bcs)), .unset] [(.int (own_ln bcs))]) G
  obtain ⟨T2, h2, k2, X2, e2, E2, A2, st2⟩ := newP X1 hx hZ (hw _ (List.mem_of_getElem? (i := 19) rfl)) eh1 (g := (mkF m 10 #[.val (.ref bv), .val (.int (0 : Int32)), .val (.int (own_ln bcs)), .val (.int (own_ln bcs)), .unset] [(.int (own_ln bcs))])) rfl (hb hby d33_10) rfl (own_ln0 (by omega)) (cap := 16) (by rw [own_lnN (by omega)]; omega) (by decide) (by decide) (by decide)
  obtain ⟨b2, g2⟩ : ∃ z, z = h0.size := ⟨_, rfl⟩
  rw [← g2] at A2 st2
  have ne3 : bv ≠ b2 := Nat.ne_of_lt (Nat.lt_of_lt_of_le F0_bv.lt (Nat.le_of_eq g2.symm))
  have ge4 : n0 ≤ b2 := Nat.le_trans Z0 (Nat.le_of_eq g2.symm)
  have gz5 : h0.size ≤ b2 := Nat.le_trans (Nat.le_refl h0.size) (Nat.le_of_eq g2.symm)
  refine Gl.via st2 ?_
  have Z6 : n0 ≤ h2.size := Nat.le_trans Z0 E2.1
  have Y7 : h0.size ≤ h2.size := Nat.le_trans (Nat.le_refl h0.size) E2.1
  have V8 : Arv Z h2 b2 k2 .byte (own_ln bcs) [] (.int (0 : Int32)) := Arv.new A2 (own_ln0 (by omega))
  show Gl p.tables e below T2 (mkF m 12 #[.val (.ref bv), .val (.int (0 : Int32)), .val (.int (own_ln bcs)), .val (.int (own_ln bcs)), .unset] [(.ref b2)]) G
  refine Gl.via (fun _ k => XS.astore X2.here hx rfl (hb hby d33_12) rfl rfl (l' := #[.val (.ref bv), .val (.int (0 : Int32)), .val (.int (own_ln bcs)), .val (.int (own_ln bcs)), .val (.ref b2)]) rfl k) ?_
  show Gl p.tables e below T2 (mkF m 14 #[.val (.ref bv), .val (.int (0 : Int32)), .val (.int (own_ln bcs)), .val (.int (own_ln bcs)), .val (.ref b2)] []) G
  refine Gl.via (fun _ k => XS.aloadN X2.here hx rfl (hb hby d33_14) rfl rfl k) ?_
  show Gl p.tables e below T2 (mkF m 15 #[.val (.ref bv), .val (.int (0 : Int32)), .val (.int (own_ln bcs)), .val (.int (own_ln bcs)), .val (.ref b2)] [(.ref bv)]) G
  refine Gl.via (fun _ k => XS.iloadN X2.here hx rfl (hb hby d33_15) rfl k) ?_
  show Gl p.tables e below T2 (mkF m 16 #[.val (.ref bv), .val (.int (0 : Int32)), .val (.int (own_ln bcs)), .val (.int (own_ln bcs)), .val (.ref b2)] [(.int (0 : Int32)), (.ref bv)]) G
  refine Gl.via (fun _ k => XS.aload X2.here hx rfl (hb hby d33_16) rfl rfl k) ?_
  show Gl p.tables e below T2 (mkF m 18 #[.val (.ref bv), .val (.int (0 : Int32)), .val (.int (own_ln bcs)), .val (.int (own_ln bcs)), .val (.ref b2)] [(.ref b2), (.int (0 : Int32)), (.ref bv)]) G
  refine Gl.via (fun _ k => XS.iconst X2.here hx rfl (hb hby d33_18) k) ?_
  show Gl p.tables e below T2 (mkF m 19 #[.val (.ref bv), .val (.int (0 : Int32)), .val (.int (own_ln bcs)), .val (.int (own_ln bcs)), .val (.ref b2)] [(.int (0 : Int32)), (.ref b2), (.int (0 : Int32)), (.ref bv)]) G
  refine Gl.via (fun _ k => XS.aloadN X2.here hx rfl (hb hby d33_19) rfl rfl k) ?_
  show Gl p.tables e below T2 (mkF m 20 #[.val (.ref bv), .val (.int (0 : Int32)), .val (.int (own_ln bcs)), .val (.int (own_ln bcs)), .val (.ref b2)] [(.ref bv), (.int (0 : Int32)), (.ref b2), (.int (0 : Int32)), (.ref bv)]) G
  have G9 : Arv Z h2 bv bk .byte (16 : Int32) (bcs.map Value.int) (.int (0 : Int32)) := (F0_bv.ext E2)
  obtain ⟨cl10, Ar10, -, S10, N10, -, -⟩ := id G9
  refine Gl.via (fun _ k => X2.arraylength hx (by rw [e2]; exact Ar10.1) (State.isArrayOf_alike hZ.alike Ar10.2.1) (g := (mkF m 20 #[.val (.ref bv), .val (.int (0 : Int32)), .val (.int (own_ln bcs)), .val (.int (own_ln bcs)), .val (.ref b2)] [(.ref bv), (.int (0 : Int32)), (.ref b2), (.int (0 : Int32)), (.ref bv)])) rfl rfl (hb hby d33_20) _ k) ?_
  rw [len_of S10 N10]
  show Gl p.tables e below T2 (mkF m 21 #[.val (.ref bv), .val (.int (0 : Int32)), .val (.int (own_ln bcs)), .val (.int (own_ln bcs)), .val (.ref b2)] [(.int (16 : Int32)), (.int (0 : Int32)), (.ref b2), (.int (0 : Int32)), (.ref bv)]) G
  refine Gl.via (fun _ k => XS.iloadN X2.here hx rfl (hb hby d33_21) rfl k) ?_
  show Gl p.tables e below T2 (mkF m 22 #[.val (.ref bv), .val (.int (0 : Int32)), .val (.int (own_ln bcs)), .val (.int (own_ln bcs)), .val (.ref b2)] [(.int (0 : Int32)), (.int (16 : Int32)), (.int (0 : Int32)), (.ref b2), (.int (0 : Int32)), (.ref bv)]) G
  refine Gl.via (fun _ k => XS.isub X2.here hx rfl (hb hby d33_22) rfl k) ?_
  show Gl p.tables e below T2 (mkF m 23 #[.val (.ref bv), .val (.int (0 : Int32)), .val (.int (own_ln bcs)), .val (.int (own_ln bcs)), .val (.ref b2)] [(.int (16 : Int32)), (.int (0 : Int32)), (.ref b2), (.int (0 : Int32)), (.ref bv)]) G
  refine Gl.via (fun _ k => XS.iloadN X2.here hx rfl (hb hby d33_23) rfl k) ?_
  show Gl p.tables e below T2 (mkF m 24 #[.val (.ref bv), .val (.int (0 : Int32)), .val (.int (own_ln bcs)), .val (.int (own_ln bcs)), .val (.ref b2)] [(.int (own_ln bcs)), (.int (16 : Int32)), (.int (0 : Int32)), (.ref b2), (.int (0 : Int32)), (.ref bv)]) G
  obtain ⟨_, _, ⟨T11, L11, k11, n11⟩, -, X11, ⟨Lc11, hQ11, l11, y11, z11⟩, st11⟩ := Jvm.LawKit.callS X2 hx (y := (⟨"java/lang/Math", "min", "(II)I"⟩ : MethodName)) hown (mvT hZ (hw _ (List.mem_of_getElem? (i := 182) rfl))) (mvT hZ (hw _ (List.mem_of_getElem? (i := 183) rfl))) (mvT hZ (hw _ (List.mem_of_getElem? (i := 184) rfl))) (mvT hZ (hw _ (List.mem_of_getElem? (i := 185) rfl))) (by decide) (backOf (W := 4) (m_min l Z a0 hw [] (16 : Int32) (own_ln bcs) h2 n0 Z6 (own_lt16 (by omega))) hZ (hw _ (List.mem_of_getElem? (i := 185) rfl)) (hw _ (List.mem_of_getElem? (i := 184) rfl)) (by decide) (by decide)) (g := (mkF m 24 #[.val (.ref bv), .val (.int (0 : Int32)), .val (.int (own_ln bcs)), .val (.int (own_ln bcs)), .val (.ref b2)] [(.int (own_ln bcs)), (.int (16 : Int32)), (.int (0 : Int32)), (.ref b2), (.int (0 : Int32)), (.ref bv)])) rfl (by rw [hml]; rfl) (argsL := [(.int (16 : Int32)), (.int (own_ln bcs))]) (rest := [(.int (0 : Int32)), (.ref b2), (.int (0 : Int32)), (.ref bv)]) (lenOf pd_11 rfl) rfl (by show 2 * 0 + _ ≤ _; exact Nat.le_of_eq rfl) (hb hby d33_24) (fun _ _ => ⟨rfl, e2, (by decide : 1 + 0 ≤ _), (by decide : 16 + 0 ≤ _)⟩)
  dsimp only [Pt.U, Pt.locs, Pt.cells, Pt.slots] at X11 l11 y11 z11 st11 hQ11
  subst l11 y11 z11
  obtain ⟨rfl, N11q, eh11⟩ := hQ11
  have N11_ := Fr.app N1_ N11q
  refine Gl.via (fun _ k => st11 _ k) ?_
  show Gl p.tables e below T11 (mkF m 27 #[.val (.ref bv), .val (.int (0 : Int32)), .val (.int (own_ln bcs)), .val (.int (own_ln bcs)), .val (.ref b2)] [(.int (own_ln bcs)), (.int (0 : Int32)), (.ref b2), (.int (0 : Int32)), (.ref bv)]) G
  have V12 : Arv Z h2 b2 k2 .byte (own_ln bcs) ((([] : List Int32).map Value.int) ++ List.replicate 16 (Value.int (0 : Int32))) (.int (0 : Int32)) := Arv.pad (vs := ([] : List Int32).map Value.int) V8 (pad_rep _ _ 16)
  obtain ⟨T13, h13, L13, X13, e13, N13_, K13, V13, st13⟩ := cpA X11 hx hZ hown (hw _ (List.mem_of_getElem? (i := 186) rfl)) (hw _ (List.mem_of_getElem? (i := 140) rfl)) (hw _ (List.mem_of_getElem? (i := 138) rfl)) (hw _ (List.mem_of_getElem? (i := 139) rfl)) eh11 (us := (bcs.map Value.int)) G9 V12 (Or.inl ⟨rfl, rfl⟩) (by decide) (by decide) (own_ln0 (by omega)) (by rw [own_lnN (cs := bcs) (by omega)]; show 0 + _ ≤ 16; omega) (by rw [own_lnN (cs := bcs) (by omega)]; show 0 + _ ≤ _; omega) (own_us (by omega)) (by rw [own_lnN (cs := bcs) (by omega)]; show 0 + _ ≤ _; simp; omega) N11_ ge4 (g := (mkF m 27 #[.val (.ref bv), .val (.int (0 : Int32)), .val (.int (own_ln bcs)), .val (.int (own_ln bcs)), .val (.ref b2)] [(.int (own_ln bcs)), (.int (0 : Int32)), (.ref b2), (.int (0 : Int32)), (.ref bv)])) rfl (by rw [hml]; rfl) rfl (hb hby d33_27) (by decide) (W := 0) (by show 2 * 0 + _ ≤ _; exact Nat.le_of_eq rfl) (by decide)
  have V14 : Arv Z h13 b2 k2 .byte (own_ln bcs) (bcs.map Value.int) (.int (0 : Int32)) := own_cpy (bcs := []) (by decide) (by omega) V13
  refine Gl.via st13 ?_
  have Z15 : n0 ≤ h13.size := Nat.le_trans Z6 K13.1
  have Y16 : h0.size ≤ h13.size := Nat.le_trans Y7 K13.1
  show Gl p.tables e below T13 (mkF m 30 #[.val (.ref bv), .val (.int (0 : Int32)), .val (.int (own_ln bcs)), .val (.int (own_ln bcs)), .val (.ref b2)] []) G
  refine Gl.via (fun _ k => XS.aload X13.here hx rfl (hb hby d33_30) rfl rfl k) ?_
  show Gl p.tables e below T13 (mkF m 32 #[.val (.ref bv), .val (.int (0 : Int32)), .val (.int (own_ln bcs)), .val (.int (own_ln bcs)), .val (.ref b2)] [(.ref b2)]) G
  obtain ⟨fs, hr, hrun, hended, hW, hsame⟩ := X13.leave (v := some (.ref b2)) (fun h => by rw [Bd.returns] at h; cases h)
  have hq : ∀ L, Fr n0 L → Q_ar_crb Z bv bk bcs h0 n0 (some (.ref b2)) T13.heap L := by
    intro L hN
    rw [e13]
    exact ⟨b2, k2, rfl, hN, (((Keep.refl h0 []).ext E2).trans K13 (allS (Or.inr gz5) all0)), V14, gz5⟩
  rw [hG]
  exact Gl.fin (retOut X13 hx Bd.returns rfl (Or.inr (Or.inr (Or.inr (Or.inr ⟨rfl, rfl, rfl⟩)))) (hb hby d33_32) hr) ⟨_, hrun, hended, _, _, rfl, hq _ N13_, ⟨_, rfl⟩, hW, hsame.mono (by decide) (by decide)⟩
theorem d32_0 : decode jdk_65_method_132_code 0 = .ok (.iload_n 1, 1) := by decide +kernel
theorem d32_1 : decode jdk_65_method_132_code 1 = .ok (.ifCond .ne 9, 3) := by decide +kernel
theorem d32_4 : decode jdk_65_method_132_code 4 = .ok (.iload_n 2, 1) := by decide +kernel
theorem d32_5 : decode jdk_65_method_132_code 5 = .ok (.aload_n 0, 1) := by decide +kernel
theorem d32_6 : decode jdk_65_method_132_code 6 = .ok (.arraylength, 1) := by decide +kernel
theorem d32_7 : decode jdk_65_method_132_code 7 = .ok (.if_icmp .eq 10, 3) := by decide +kernel
theorem d32_10 : decode jdk_65_method_132_code 10 = .ok (.aload_n 0, 1) := by decide +kernel
theorem d32_11 : decode jdk_65_method_132_code 11 = .ok (.iload_n 1, 1) := by decide +kernel
theorem d32_12 : decode jdk_65_method_132_code 12 = .ok (.iload_n 2, 1) := by decide +kernel
theorem d32_13 : decode jdk_65_method_132_code 13 = .ok (.invokestatic 339, 3) := by decide +kernel
theorem pd_12 : parseMethodDescriptor "([BII)[B" = some ⟨[(.array .byte), .int, .int], some (.array .byte)⟩ := by decide +kernel
theorem d32_16 : decode jdk_65_method_132_code 16 = .ok (.areturn, 1) := by decide +kernel
theorem ef_ar_cr (m : MethodId) (x0 : Addr) (x1 : Int32) (x2 : Int32) : entryFrame m #[(.ref x0), (.int x1), (.int x2)] 3 = mkF m 0 #[.val (.ref x0), .val (.int x1), .val (.int x2)] [] := by first | (simp [entryFrame, mkF, argsToLocals, Value.category]; done) | rfl | (simp [entryFrame, mkF, argsToLocals, own_catI, own_catR, *]; done)
def Q_ar_cr (Z : State) (bv : Addr) (bk : ClassId) (bcs : List Int32) (h0 : Heap) (n0 : Nat) (v : Option Value) (h : Heap) (L : List Loc) : Prop := ∃ (b : Addr), ∃ (k : ClassId), v = some (.ref b) ∧ Fr n0 L ∧ Keep h0 h [] ∧ Arv Z h b k .byte (own_ln bcs) (bcs.map Value.int) (.int (0 : Int32)) ∧ (h0.size ≤ b)
set_option maxRecDepth 65536 in
set_option maxHeartbeats 40000000 in
theorem ar_cr (l : Launch) (Z : State) (a0 : Array Value) (hw : ∀ d ∈ tables_1, d.before a0 Z = true) (ws : List Jvm.Cond) (bv : Addr) (bk : ClassId) (bcs : List Int32) (h0 : Heap) (n0 : Nat) (Z0 : n0 ≤ h0.size) (F0_bv : Arv Z h0 bv bk .byte (16 : Int32) (bcs.map Value.int) (.int (0 : Int32))) (hln : bcs.length ≤ 15) :
    MetFree l (⟨"java/util/Arrays", "copyOfRange", "([BII)[B"⟩ : MethodName) (head1 (Jvm.Cond.code (⟨"java/util/Arrays", "copyOfRange", "([BII)[B"⟩ : MethodName) jdk_65_method_132_code 3 (some (.array .byte)) :: ws) ({ frames := 2, cells := 1, slots := 16, locals := 56 } : Room)) (fun a U => a = #[(.ref bv), (.int (0 : Int32)), (.int (own_ln bcs))] ∧ Z.Warmed39 U.vm ∧ U.heap = h0) (fun _ _ _ _ _ => True) (fun _ U o U' => ∃ v L, o = .returned v ∧ Q_ar_cr Z bv bk bcs h0 n0 v U'.heap L ∧ FrameEnd U o U' L ({ frames := 2, cells := 1, slots := 16, locals := 56 } : Room).cells ({ frames := 2, cells := 1, slots := 16, locals := 56 } : Room).slots) := by
  refine MetFree.of_bodySF (plainFor_of_name pn_5) hisR ?_
  intro p e s m args below meth c s₁ Bd hml0 hP hK
  obtain ⟨rfl, hZ, hh⟩ := hP
  have hx := Bd.exec
  have hby := Bd.bytes
  have hml : c.maxLocals = 3 := hml0
  have hown : s.vm.findClass "java/util/Arrays" = some m.cls := findClass_of_methodNamed Bd.named
  have hnm := (name_of_methodNamed Bd.named Bd.method).1
  have X0 : Stand p l e ({ frames := 2, cells := 1, slots := 16, locals := 56 } : Room) s m #[(.ref bv), (.int (0 : Int32)), (.int (own_ln bcs))] below meth c s₁ [] 0 0 := Stand.of_body Bd
  have e0 : s₁.heap = h0 := by rw [← hh, Bd.state]; rfl
  have N0 := Fr.nil n0
  obtain ⟨G, hG⟩ : ∃ G : State → Prop, G = (fun U' => ∃ o, U'.status = .running ∧ Ended U' below o ∧ ∃ v L, o = .returned v ∧ Q_ar_cr Z bv bk bcs h0 n0 v U'.heap L ∧ FrameEnd s o U' L ({ frames := 2, cells := 1, slots := 16, locals := 56 } : Room).cells ({ frames := 2, cells := 1, slots := 16, locals := 56 } : Room).slots) := ⟨_, rfl⟩
  suffices key : Gl p.tables e below s₁ (mkF m 0 #[.val (.ref bv), .val (.int (0 : Int32)), .val (.int (own_ln bcs))] []) G by
    obtain ⟨s₂, k1, k2⟩ := key
    rw [hG] at k2
    obtain ⟨o, k3, k4, k5⟩ := k2
    exact ⟨s₂, o, castTop (ef_ar_cr m bv (0 : Int32) (own_ln bcs)) k1, k3, k4, k5⟩
  show Gl p.tables e below s₁ (mkF m 0 #[.val (.ref bv), .val (.int (0 : Int32)), .val (.int (own_ln bcs))] []) G
  refine Gl.via (fun _ k => XS.iloadN X0.here hx rfl (hb hby d32_0) rfl k) ?_
  show Gl p.tables e below s₁ (mkF m 1 #[.val (.ref bv), .val (.int (0 : Int32)), .val (.int (own_ln bcs))] [(.int (0 : Int32))]) G
  refine Gl.via (fun _ k => XS.ifNo X0.here hx rfl (hb hby d32_1) rfl ((if0 _ _).trans (teq (by decide)).2) k) ?_
  show Gl p.tables e below s₁ (mkF m 4 #[.val (.ref bv), .val (.int (0 : Int32)), .val (.int (own_ln bcs))] []) G
  refine Gl.via (fun _ k => XS.iloadN X0.here hx rfl (hb hby d32_4) rfl k) ?_
  show Gl p.tables e below s₁ (mkF m 5 #[.val (.ref bv), .val (.int (0 : Int32)), .val (.int (own_ln bcs))] [(.int (own_ln bcs))]) G
  refine Gl.via (fun _ k => XS.aloadN X0.here hx rfl (hb hby d32_5) rfl rfl k) ?_
  show Gl p.tables e below s₁ (mkF m 6 #[.val (.ref bv), .val (.int (0 : Int32)), .val (.int (own_ln bcs))] [(.ref bv), (.int (own_ln bcs))]) G
  obtain ⟨cl1, Ar1, -, S1, N1, -, -⟩ := id F0_bv
  refine Gl.via (fun _ k => X0.arraylength hx (by rw [e0]; exact Ar1.1) (State.isArrayOf_alike hZ.alike Ar1.2.1) (g := (mkF m 6 #[.val (.ref bv), .val (.int (0 : Int32)), .val (.int (own_ln bcs))] [(.ref bv), (.int (own_ln bcs))])) rfl rfl (hb hby d32_6) _ k) ?_
  rw [len_of S1 N1]
  show Gl p.tables e below s₁ (mkF m 7 #[.val (.ref bv), .val (.int (0 : Int32)), .val (.int (own_ln bcs))] [(.int (16 : Int32)), (.int (own_ln bcs))]) G
  refine Gl.via (fun _ k => XS.icmpNo X0.here hx rfl (hb hby d32_7) rfl (feq (own_n16 (by omega))).1 k) ?_
  show Gl p.tables e below s₁ (mkF m 10 #[.val (.ref bv), .val (.int (0 : Int32)), .val (.int (own_ln bcs))] []) G
  refine Gl.via (fun _ k => XS.aloadN X0.here hx rfl (hb hby d32_10) rfl rfl k) ?_
  show Gl p.tables e below s₁ (mkF m 11 #[.val (.ref bv), .val (.int (0 : Int32)), .val (.int (own_ln bcs))] [(.ref bv)]) G
  refine Gl.via (fun _ k => XS.iloadN X0.here hx rfl (hb hby d32_11) rfl k) ?_
  show Gl p.tables e below s₁ (mkF m 12 #[.val (.ref bv), .val (.int (0 : Int32)), .val (.int (own_ln bcs))] [(.int (0 : Int32)), (.ref bv)]) G
  refine Gl.via (fun _ k => XS.iloadN X0.here hx rfl (hb hby d32_12) rfl k) ?_
  show Gl p.tables e below s₁ (mkF m 13 #[.val (.ref bv), .val (.int (0 : Int32)), .val (.int (own_ln bcs))] [(.int (own_ln bcs)), (.int (0 : Int32)), (.ref bv)]) G
  obtain ⟨_, _, ⟨T2, L2, k2, n2⟩, -, X2, ⟨Lc2, hQ2, l2, y2, z2⟩, st2⟩ := Jvm.LawKit.callS X0 hx (y := (⟨"java/util/Arrays", "copyOfRangeByte", "([BII)[B"⟩ : MethodName)) hown (mvT hZ (hw _ (List.mem_of_getElem? (i := 176) rfl))) (mvT hZ (hw _ (List.mem_of_getElem? (i := 177) rfl))) (mvT hZ (hw _ (List.mem_of_getElem? (i := 174) rfl))) (mvT hZ (hw _ (List.mem_of_getElem? (i := 178) rfl))) (by decide) (backOf (W := 0) (ar_crb l Z a0 hw [] bv bk bcs h0 n0 Z0 F0_bv hln) hZ (hw _ (List.mem_of_getElem? (i := 178) rfl)) (hw _ (List.mem_of_getElem? (i := 174) rfl)) (by decide) (by decide)) (g := (mkF m 13 #[.val (.ref bv), .val (.int (0 : Int32)), .val (.int (own_ln bcs))] [(.int (own_ln bcs)), (.int (0 : Int32)), (.ref bv)])) rfl (by rw [hml]; rfl) (argsL := [(.ref bv), (.int (0 : Int32)), (.int (own_ln bcs))]) (rest := []) (lenOf pd_12 rfl) rfl (by show 2 * 0 + _ ≤ _; exact Nat.le_of_eq rfl) (hb hby d32_13) (fun _ _ => ⟨rfl, e0, (by decide : 0 + 1 ≤ _), (by decide : 0 + 16 ≤ _)⟩)
  dsimp only [Pt.U, Pt.locs, Pt.cells, Pt.slots] at X2 l2 y2 z2 st2 hQ2
  subst l2 y2 z2
  obtain ⟨b_2, k_2, rfl, N2q, K2, P3, R4⟩ := hQ2
  have N2_ := Fr.app N0 N2q
  refine Gl.via (fun _ k => st2 _ k) ?_
  have ne5 : bv ≠ b_2 := Nat.ne_of_lt (Nat.lt_of_lt_of_le F0_bv.lt R4)
  have ge6 : n0 ≤ b_2 := Nat.le_trans Z0 R4
  have gz7 : h0.size ≤ b_2 := Nat.le_trans (Nat.le_refl h0.size) R4
  have Z8 : n0 ≤ T2.heap.size := Nat.le_trans Z0 K2.1
  have Y9 : h0.size ≤ T2.heap.size := Nat.le_trans (Nat.le_refl h0.size) K2.1
  show Gl p.tables e below T2 (mkF m 16 #[.val (.ref bv), .val (.int (0 : Int32)), .val (.int (own_ln bcs))] [(.ref b_2)]) G
  obtain ⟨fs, hr, hrun, hended, hW, hsame⟩ := X2.leave (v := some (.ref b_2)) (fun h => by rw [Bd.returns] at h; cases h)
  have hq : ∀ L, Fr n0 L → Q_ar_cr Z bv bk bcs h0 n0 (some (.ref b_2)) T2.heap L := by
    intro L hN
    exact ⟨b_2, k_2, rfl, hN, ((Keep.refl h0 []).trans K2 all0), P3, R4⟩
  rw [hG]
  exact Gl.fin (retOut X2 hx Bd.returns rfl (Or.inr (Or.inr (Or.inr (Or.inr ⟨rfl, rfl, rfl⟩)))) (hb hby d32_16) hr) ⟨_, hrun, hended, _, _, rfl, hq _ N2_, ⟨_, rfl⟩, hW, hsame.mono (by decide) (by decide)⟩
theorem d27_0 : decode jdk_42_method_150_code 0 = .ok (.aload_n 0, 1) := by decide +kernel
theorem d27_1 : decode jdk_42_method_150_code 1 = .ok (.invokespecial 1, 3) := by decide +kernel
theorem d27_4 : decode jdk_42_method_150_code 4 = .ok (.aload_n 1, 1) := by decide +kernel
theorem d27_5 : decode jdk_42_method_150_code 5 = .ok (.invokevirtual 552, 3) := by decide +kernel
theorem pd_13 : parseMethodDescriptor "()[B" = some ⟨[], some (.array .byte)⟩ := by decide +kernel
theorem d27_8 : decode jdk_42_method_150_code 8 = .ok (.astore_n 3, 1) := by decide +kernel
theorem d27_9 : decode jdk_42_method_150_code 9 = .ok (.aload_n 1, 1) := by decide +kernel
theorem d27_10 : decode jdk_42_method_150_code 10 = .ok (.invokevirtual 549, 3) := by decide +kernel
theorem d27_13 : decode jdk_42_method_150_code 13 = .ok (.istore 4, 2) := by decide +kernel
theorem d27_15 : decode jdk_42_method_150_code 15 = .ok (.aload_n 1, 1) := by decide +kernel
theorem d27_16 : decode jdk_42_method_150_code 16 = .ok (.invokevirtual 1047, 3) := by decide +kernel
theorem d27_19 : decode jdk_42_method_150_code 19 = .ok (.ifCond .eq 22, 3) := by decide +kernel
theorem d27_22 : decode jdk_42_method_150_code 22 = .ok (.aload_n 0, 1) := by decide +kernel
theorem d27_23 : decode jdk_42_method_150_code 23 = .ok (.iconst 0, 1) := by decide +kernel
theorem d27_24 : decode jdk_42_method_150_code 24 = .ok (.putfield 15, 3) := by decide +kernel
theorem d27_27 : decode jdk_42_method_150_code 27 = .ok (.aload_n 0, 1) := by decide +kernel
theorem d27_28 : decode jdk_42_method_150_code 28 = .ok (.aload_n 3, 1) := by decide +kernel
theorem d27_29 : decode jdk_42_method_150_code 29 = .ok (.iconst 0, 1) := by decide +kernel
theorem d27_30 : decode jdk_42_method_150_code 30 = .ok (.iload 4, 2) := by decide +kernel
theorem d27_32 : decode jdk_42_method_150_code 32 = .ok (.invokestatic 54, 3) := by decide +kernel
theorem d27_35 : decode jdk_42_method_150_code 35 = .ok (.putfield 9, 3) := by decide +kernel
theorem d27_38 : decode jdk_42_method_150_code 38 = .ok (.goto 59, 3) := by decide +kernel
theorem d27_97 : decode jdk_42_method_150_code 97 = .ok (.return_, 1) := by decide +kernel
theorem ef_s_ini2 (m : MethodId) (x0 : Addr) (x1 : Addr) : entryFrame m #[(.ref x0), (.ref x1), .null] 5 = mkF m 0 #[.val (.ref x0), .val (.ref x1), .val .null, .unset, .unset] [] := by first | (simp [entryFrame, mkF, argsToLocals, Value.category]; done) | rfl | (simp [entryFrame, mkF, argsToLocals, own_catI, own_catR, *]; done)
def Q_s_ini2 (Z : State) (sa : Addr) (u1 : Value) (u2 : Value) (ba : Addr) (bv : Addr) (bk : ClassId) (bcs : List Int32) (cps : Int32) (h0 : Heap) (n0 : Nat) (v : Option Value) (h : Heap) (L : List Loc) : Prop := ∃ (sb : Addr), ∃ (sk : ClassId), v = none ∧ Fr n0 L ∧ Keep h0 h [sa] ∧ Exa Z h sa "java/lang/String" ∧ Fld Z h sa "java/lang/String" "coder" "B" (.int (0 : Int32)) ∧ Fld Z h sa "java/lang/String" "value" "[B" (.ref sb) ∧ Arv Z h sb sk .byte (own_ln bcs) (bcs.map Value.int) (.int (0 : Int32)) ∧ (h0.size ≤ sb)
set_option maxRecDepth 65536 in
set_option maxHeartbeats 40000000 in
theorem s_ini2 (l : Launch) (Z : State) (a0 : Array Value) (hw : ∀ d ∈ tables_1, d.before a0 Z = true) (ws : List Jvm.Cond) (sa : Addr) (u1 : Value) (u2 : Value) (ba : Addr) (bv : Addr) (bk : ClassId) (bcs : List Int32) (cps : Int32) (h0 : Heap) (n0 : Nat) (Z0 : n0 ≤ h0.size) (F0_sa : Exa Z h0 sa "java/lang/String") (F1_sa_value : Fld Z h0 sa "java/lang/String" "value" "[B" u1) (F2_sa_coder : Fld Z h0 sa "java/lang/String" "coder" "B" u2) (F3_ba : Exa Z h0 ba "java/lang/StringBuilder") (F4_ba_value : Fld Z h0 ba "java/lang/AbstractStringBuilder" "value" "[B" (.ref bv)) (F5_ba_coder : Fld Z h0 ba "java/lang/AbstractStringBuilder" "coder" "B" (.int (0 : Int32))) (F6_ba_count : Fld Z h0 ba "java/lang/AbstractStringBuilder" "count" "I" (.int (own_ln bcs))) (F7_bv : Arv Z h0 bv bk .byte (16 : Int32) (bcs.map Value.int) (.int (0 : Int32))) (F8_java_lang_String : Sta Z Z.heap "java/lang/String" "COMPACT_STRINGS" "Z" (.int cps)) (F9_ : Old Z n0 h0) (hcps : ¬ (cps = (0 : Int32))) (hln : bcs.length ≤ 15) (hp2 : n0 ≤ sa) (hp3 : sa ≠ ba) (hp4 : sa ≠ bv) :
    MetFree l (⟨"java/lang/String", "<init>", "(Ljava/lang/AbstractStringBuilder;Ljava/lang/Void;)V"⟩ : MethodName) (head1 (Jvm.Cond.code (⟨"java/lang/String", "<init>", "(Ljava/lang/AbstractStringBuilder;Ljava/lang/Void;)V"⟩ : MethodName) jdk_42_method_150_code 5 none :: ws) ({ frames := 3, cells := 1, slots := 16, locals := 71 } : Room)) (fun a U => a = #[(.ref sa), (.ref ba), .null] ∧ Z.Warmed39 U.vm ∧ U.heap = h0) (fun _ _ _ _ _ => True) (fun _ U o U' => ∃ v L, o = .returned v ∧ Q_s_ini2 Z sa u1 u2 ba bv bk bcs cps h0 n0 v U'.heap L ∧ FrameEnd U o U' L ({ frames := 3, cells := 1, slots := 16, locals := 71 } : Room).cells ({ frames := 3, cells := 1, slots := 16, locals := 71 } : Room).slots) := by
  refine MetFree.of_bodySF (plainFor_of_name pn_0) hisR ?_
  intro p e s m args below meth c s₁ Bd hml0 hP hK
  obtain ⟨rfl, hZ, hh⟩ := hP
  have hx := Bd.exec
  have hby := Bd.bytes
  have hml : c.maxLocals = 5 := hml0
  have hown : s.vm.findClass "java/lang/String" = some m.cls := findClass_of_methodNamed Bd.named
  have hnm := (name_of_methodNamed Bd.named Bd.method).1
  have X0 : Stand p l e ({ frames := 3, cells := 1, slots := 16, locals := 71 } : Room) s m #[(.ref sa), (.ref ba), .null] below meth c s₁ [] 0 0 := Stand.of_body Bd
  have e0 : s₁.heap = h0 := by rw [← hh, Bd.state]; rfl
  have N0 := Fr.nil n0
  obtain ⟨G, hG⟩ : ∃ G : State → Prop, G = (fun U' => ∃ o, U'.status = .running ∧ Ended U' below o ∧ ∃ v L, o = .returned v ∧ Q_s_ini2 Z sa u1 u2 ba bv bk bcs cps h0 n0 v U'.heap L ∧ FrameEnd s o U' L ({ frames := 3, cells := 1, slots := 16, locals := 71 } : Room).cells ({ frames := 3, cells := 1, slots := 16, locals := 71 } : Room).slots) := ⟨_, rfl⟩
  suffices key : Gl p.tables e below s₁ (mkF m 0 #[.val (.ref sa), .val (.ref ba), .val .null, .unset, .unset] []) G by
    obtain ⟨s₂, k1, k2⟩ := key
    rw [hG] at k2
    obtain ⟨o, k3, k4, k5⟩ := k2
    exact ⟨s₂, o, castTop (ef_s_ini2 m sa ba) k1, k3, k4, k5⟩
  show Gl p.tables e below s₁ (mkF m 0 #[.val (.ref sa), .val (.ref ba), .val .null, .unset, .unset] []) G
  refine Gl.via (fun _ k => XS.aloadN X0.here hx rfl (hb hby d27_0) rfl rfl k) ?_
  show Gl p.tables e below s₁ (mkF m 1 #[.val (.ref sa), .val (.ref ba), .val .null, .unset, .unset] [(.ref sa)]) G
  obtain ⟨T1, X1, e1, st1⟩ := initO X0 hx hZ hown (hw _ (List.mem_of_getElem? (i := 15) rfl)) (hw _ (List.mem_of_getElem? (i := 16) rfl)) (hw _ (List.mem_of_getElem? (i := 17) rfl)) e0 (g := (mkF m 1 #[.val (.ref sa), .val (.ref ba), .val .null, .unset, .unset] [(.ref sa)])) rfl (by rw [hml]; rfl) rfl (hb hby d27_1) (by decide) (W := 0) (by show 2 * 0 + _ ≤ _; exact Nat.le_of_eq rfl) (by decide)
  refine Gl.via st1 ?_
  show Gl p.tables e below T1 (mkF m 4 #[.val (.ref sa), .val (.ref ba), .val .null, .unset, .unset] []) G
  refine Gl.via (fun _ k => XS.aloadN X1.here hx rfl (hb hby d27_4) rfl rfl k) ?_
  show Gl p.tables e below T1 (mkF m 5 #[.val (.ref sa), .val (.ref ba), .val .null, .unset, .unset] [(.ref ba)]) G
  obtain ⟨cq2, kq2, q2a, q2b, q2c⟩ := isOf hZ e1 F3_ba
  obtain ⟨_, _, ⟨T2, L2, k2, n2⟩, -, X2, ⟨Lc2, hQ2, l2, y2, z2⟩, st2⟩ := X1.virtualBack hx (y := (⟨"java/lang/AbstractStringBuilder", "getValue", "()[B"⟩ : MethodName)) (z := (⟨"java/lang/AbstractStringBuilder", "getValue", "()[B"⟩ : MethodName)) hown (mvT hZ (hw _ (List.mem_of_getElem? (i := 154) rfl))) (mvT hZ (hw _ (List.mem_of_getElem? (i := 155) rfl))) (notFace_of_selects (args := #[]) (mvT hZ (hw _ (List.mem_of_getElem? (i := 157) rfl)))) (mvT hZ (hw _ (List.mem_of_getElem? (i := 157) rfl))) (mvT hZ (hw _ (List.mem_of_getElem? (i := 156) rfl))) (by decide) (backOf (W := 0) (asb_val l Z a0 hw [] ba bv h0 n0 Z0 F4_ba_value) hZ (hw _ (List.mem_of_getElem? (i := 158) rfl)) (hw _ (List.mem_of_getElem? (i := 86) rfl)) (by decide) (by decide)) q2a q2c (g := (mkF m 5 #[.val (.ref sa), .val (.ref ba), .val .null, .unset, .unset] [(.ref ba)])) rfl (by rw [hml]; rfl) (Steps.refl _) (argsL := []) (rest := []) (lenOf pd_13 rfl) rfl (by show 2 * 0 + _ ≤ _; exact Nat.le_of_eq rfl) (hb hby d27_5) (fun _ _ => ⟨rfl, e1, (by decide : 0 + 0 ≤ _), (by decide : 0 + 0 ≤ _)⟩)
  dsimp only [Pt.U, Pt.locs, Pt.cells, Pt.slots] at X2 l2 y2 z2 st2 hQ2
  subst l2 y2 z2
  obtain ⟨rfl, N2q, eh2⟩ := hQ2
  have N2_ := Fr.app N0 N2q
  refine Gl.via (fun _ k => st2.trans k) ?_
  show Gl p.tables e below T2 (mkF m 8 #[.val (.ref sa), .val (.ref ba), .val .null, .unset, .unset] [(.ref bv)]) G
  refine Gl.via (fun _ k => XS.astoreN X2.here hx rfl (hb hby d27_8) rfl rfl (l' := #[.val (.ref sa), .val (.ref ba), .val .null, .val (.ref bv), .unset]) rfl k) ?_
  show Gl p.tables e below T2 (mkF m 9 #[.val (.ref sa), .val (.ref ba), .val .null, .val (.ref bv), .unset] []) G
  refine Gl.via (fun _ k => XS.aloadN X2.here hx rfl (hb hby d27_9) rfl rfl k) ?_
  show Gl p.tables e below T2 (mkF m 10 #[.val (.ref sa), .val (.ref ba), .val .null, .val (.ref bv), .unset] [(.ref ba)]) G
  obtain ⟨cq3, kq3, q3a, q3b, q3c⟩ := isOf hZ eh2 F3_ba
  obtain ⟨_, _, ⟨T3, L3, k3, n3⟩, -, X3, ⟨Lc3, hQ3, l3, y3, z3⟩, st3⟩ := X2.virtualBack hx (y := (⟨"java/lang/AbstractStringBuilder", "length", "()I"⟩ : MethodName)) (z := (⟨"java/lang/StringBuilder", "length", "()I"⟩ : MethodName)) hown (mvT hZ (hw _ (List.mem_of_getElem? (i := 159) rfl))) (mvT hZ (hw _ (List.mem_of_getElem? (i := 160) rfl))) (own_nfA hZ (y := (⟨"java/lang/AbstractStringBuilder", "length", "()I"⟩ : MethodName)) (own_nonface (y := (⟨"java/lang/AbstractStringBuilder", "isLatin1", "()Z"⟩ : MethodName)) (hw _ (List.mem_of_getElem? (i := 170) rfl)) (hw _ (List.mem_of_getElem? (i := 168) rfl)))) (mvT hZ (hw _ (List.mem_of_getElem? (i := 162) rfl))) (mvT hZ (hw _ (List.mem_of_getElem? (i := 163) rfl))) (by decide) (backOf (W := 0) (sb_len l Z a0 hw [] ba (own_ln bcs) h0 n0 Z0 F3_ba F6_ba_count) hZ (hw _ (List.mem_of_getElem? (i := 164) rfl)) (hw _ (List.mem_of_getElem? (i := 78) rfl)) (by decide) (by decide)) q3a q3c (g := (mkF m 10 #[.val (.ref sa), .val (.ref ba), .val .null, .val (.ref bv), .unset] [(.ref ba)])) rfl (by rw [hml]; rfl) (Steps.refl _) (argsL := []) (rest := []) (lenOf pd_8 rfl) rfl (by show 2 * 0 + _ ≤ _; exact Nat.le_of_eq rfl) (hb hby d27_10) (fun _ _ => ⟨rfl, eh2, (by decide : 0 + 0 ≤ _), (by decide : 0 + 0 ≤ _)⟩)
  dsimp only [Pt.U, Pt.locs, Pt.cells, Pt.slots] at X3 l3 y3 z3 st3 hQ3
  subst l3 y3 z3
  obtain ⟨rfl, N3q, eh3⟩ := hQ3
  have N3_ := Fr.app N2_ N3q
  refine Gl.via (fun _ k => st3.trans k) ?_
  show Gl p.tables e below T3 (mkF m 13 #[.val (.ref sa), .val (.ref ba), .val .null, .val (.ref bv), .unset] [(.int (own_ln bcs))]) G
  refine Gl.via (fun _ k => XS.istore X3.here hx rfl (hb hby d27_13) rfl (l' := #[.val (.ref sa), .val (.ref ba), .val .null, .val (.ref bv), .val (.int (own_ln bcs))]) rfl k) ?_
  show Gl p.tables e below T3 (mkF m 15 #[.val (.ref sa), .val (.ref ba), .val .null, .val (.ref bv), .val (.int (own_ln bcs))] []) G
  refine Gl.via (fun _ k => XS.aloadN X3.here hx rfl (hb hby d27_15) rfl rfl k) ?_
  show Gl p.tables e below T3 (mkF m 16 #[.val (.ref sa), .val (.ref ba), .val .null, .val (.ref bv), .val (.int (own_ln bcs))] [(.ref ba)]) G
  obtain ⟨cq4, kq4, q4a, q4b, q4c⟩ := isOf hZ eh3 F3_ba
  obtain ⟨_, _, ⟨T4, L4, k4, n4⟩, -, X4, ⟨Lc4, hQ4, l4, y4, z4⟩, st4⟩ := X3.virtualBack hx (y := (⟨"java/lang/AbstractStringBuilder", "isLatin1", "()Z"⟩ : MethodName)) (z := (⟨"java/lang/AbstractStringBuilder", "isLatin1", "()Z"⟩ : MethodName)) hown (mvT hZ (hw _ (List.mem_of_getElem? (i := 167) rfl))) (mvT hZ (hw _ (List.mem_of_getElem? (i := 168) rfl))) (notFace_of_selects (args := #[]) (mvT hZ (hw _ (List.mem_of_getElem? (i := 170) rfl)))) (mvT hZ (hw _ (List.mem_of_getElem? (i := 170) rfl))) (mvT hZ (hw _ (List.mem_of_getElem? (i := 169) rfl))) (by decide) (backOf (W := 0) (asb_lat l Z a0 hw [] ba cps h0 n0 Z0 F5_ba_coder F8_java_lang_String F9_ hcps) hZ (hw _ (List.mem_of_getElem? (i := 171) rfl)) (hw _ (List.mem_of_getElem? (i := 86) rfl)) (by decide) (by decide)) q4a q4c (g := (mkF m 16 #[.val (.ref sa), .val (.ref ba), .val .null, .val (.ref bv), .val (.int (own_ln bcs))] [(.ref ba)])) rfl (by rw [hml]; rfl) (Steps.refl _) (argsL := []) (rest := []) (lenOf pd_3 rfl) rfl (by show 2 * 0 + _ ≤ _; exact Nat.le_of_eq rfl) (hb hby d27_16) (fun _ _ => ⟨rfl, eh3, (by decide : 0 + 0 ≤ _), (by decide : 0 + 0 ≤ _)⟩)
  dsimp only [Pt.U, Pt.locs, Pt.cells, Pt.slots] at X4 l4 y4 z4 st4 hQ4
  subst l4 y4 z4
  obtain ⟨rfl, N4q, eh4⟩ := hQ4
  have N4_ := Fr.app N3_ N4q
  refine Gl.via (fun _ k => st4.trans k) ?_
  show Gl p.tables e below T4 (mkF m 19 #[.val (.ref sa), .val (.ref ba), .val .null, .val (.ref bv), .val (.int (own_ln bcs))] [(.int (1 : Int32))]) G
  refine Gl.via (fun _ k => XS.ifNo X4.here hx rfl (hb hby d27_19) rfl ((if0 _ _).trans (feq (by decide)).1) k) ?_
  show Gl p.tables e below T4 (mkF m 22 #[.val (.ref sa), .val (.ref ba), .val .null, .val (.ref bv), .val (.int (own_ln bcs))] []) G
  refine Gl.via (fun _ k => XS.aloadN X4.here hx rfl (hb hby d27_22) rfl rfl k) ?_
  show Gl p.tables e below T4 (mkF m 23 #[.val (.ref sa), .val (.ref ba), .val .null, .val (.ref bv), .val (.int (own_ln bcs))] [(.ref sa)]) G
  refine Gl.via (fun _ k => XS.iconst X4.here hx rfl (hb hby d27_23) k) ?_
  show Gl p.tables e below T4 (mkF m 24 #[.val (.ref sa), .val (.ref ba), .val .null, .val (.ref bv), .val (.int (own_ln bcs))] [(.int (0 : Int32)), (.ref sa)]) G
  obtain ⟨T5, h5, X5, e5, W5, st5⟩ := putFN X4 hx hZ hown (hw _ (List.mem_of_getElem? (i := 25) rfl)) Via.refl eh4 F2_sa_coder F0_sa (Or.inr ⟨(hw _ (List.mem_of_getElem? (i := 21) rfl)), rfl, hnm⟩) (hw _ (List.mem_of_getElem? (i := 5) rfl)) (ty := .byte) (v' := (.int (0 : Int32))) (by decide) rfl (by decide) (g := (mkF m 24 #[.val (.ref sa), .val (.ref ba), .val .null, .val (.ref bv), .val (.int (own_ln bcs))] [(.int (0 : Int32)), (.ref sa)])) rfl rfl (hb hby d27_24)
  refine Gl.via st5 ?_
  have N5_ := Fr.snoc X5 N4_ hp2
  have Z6 : n0 ≤ h5.size := Nat.le_trans Z0 (Keep.of_wr W5).1
  have Y7 : h0.size ≤ h5.size := Nat.le_trans (Nat.le_refl h0.size) (Keep.of_wr W5).1
  show Gl p.tables e below T5 (mkF m 27 #[.val (.ref sa), .val (.ref ba), .val .null, .val (.ref bv), .val (.int (own_ln bcs))] []) G
  refine Gl.via (fun _ k => XS.aloadN X5.here hx rfl (hb hby d27_27) rfl rfl k) ?_
  show Gl p.tables e below T5 (mkF m 28 #[.val (.ref sa), .val (.ref ba), .val .null, .val (.ref bv), .val (.int (own_ln bcs))] [(.ref sa)]) G
  refine Gl.via (fun _ k => XS.aloadN X5.here hx rfl (hb hby d27_28) rfl rfl k) ?_
  show Gl p.tables e below T5 (mkF m 29 #[.val (.ref sa), .val (.ref ba), .val .null, .val (.ref bv), .val (.int (own_ln bcs))] [(.ref bv), (.ref sa)]) G
  refine Gl.via (fun _ k => XS.iconst X5.here hx rfl (hb hby d27_29) k) ?_
  show Gl p.tables e below T5 (mkF m 30 #[.val (.ref sa), .val (.ref ba), .val .null, .val (.ref bv), .val (.int (own_ln bcs))] [(.int (0 : Int32)), (.ref bv), (.ref sa)]) G
  refine Gl.via (fun _ k => XS.iload X5.here hx rfl (hb hby d27_30) rfl k) ?_
  show Gl p.tables e below T5 (mkF m 32 #[.val (.ref sa), .val (.ref ba), .val .null, .val (.ref bv), .val (.int (own_ln bcs))] [(.int (own_ln bcs)), (.int (0 : Int32)), (.ref bv), (.ref sa)]) G
  have G9 : Arv Z h5 bv bk .byte (16 : Int32) (bcs.map Value.int) (.int (0 : Int32)) := (F7_bv.other W5 (Ne.symm hp4))
  obtain ⟨_, _, ⟨T8, L8, k8, n8⟩, -, X8, ⟨Lc8, hQ8, l8, y8, z8⟩, st8⟩ := Jvm.LawKit.callS X5 hx (y := (⟨"java/util/Arrays", "copyOfRange", "([BII)[B"⟩ : MethodName)) hown (mvT hZ (hw _ (List.mem_of_getElem? (i := 172) rfl))) (mvT hZ (hw _ (List.mem_of_getElem? (i := 173) rfl))) (mvT hZ (hw _ (List.mem_of_getElem? (i := 174) rfl))) (mvT hZ (hw _ (List.mem_of_getElem? (i := 175) rfl))) (by decide) (backOf (W := 1) (ar_cr l Z a0 hw [] bv bk bcs h5 n0 Z6 G9 hln) hZ (hw _ (List.mem_of_getElem? (i := 175) rfl)) (hw _ (List.mem_of_getElem? (i := 174) rfl)) (by decide) (by decide)) (g := (mkF m 32 #[.val (.ref sa), .val (.ref ba), .val .null, .val (.ref bv), .val (.int (own_ln bcs))] [(.int (own_ln bcs)), (.int (0 : Int32)), (.ref bv), (.ref sa)])) rfl (by rw [hml]; rfl) (argsL := [(.ref bv), (.int (0 : Int32)), (.int (own_ln bcs))]) (rest := [(.ref sa)]) (lenOf pd_12 rfl) rfl (by show 2 * 0 + _ ≤ _; exact Nat.le_of_eq rfl) (hb hby d27_32) (fun _ _ => ⟨rfl, e5, (by decide : 0 + 1 ≤ _), (by decide : 0 + 16 ≤ _)⟩)
  dsimp only [Pt.U, Pt.locs, Pt.cells, Pt.slots] at X8 l8 y8 z8 st8 hQ8
  subst l8 y8 z8
  obtain ⟨b_8, k_8, rfl, N8q, K8, P10, R11⟩ := hQ8
  have N8_ := Fr.app N5_ N8q
  refine Gl.via (fun _ k => st8 _ k) ?_
  have G12 : Exa Z h5 sa "java/lang/String" := (F0_sa.wr W5)
  have ne13 : sa ≠ b_8 := Nat.ne_of_lt (Nat.lt_of_lt_of_le G12.lt R11)
  have G14 : Exa Z h5 ba "java/lang/StringBuilder" := (F3_ba.wr W5)
  have ne15 : ba ≠ b_8 := Nat.ne_of_lt (Nat.lt_of_lt_of_le G14.lt R11)
  have ne16 : bv ≠ b_8 := Nat.ne_of_lt (Nat.lt_of_lt_of_le G9.lt R11)
  have ge17 : n0 ≤ b_8 := Nat.le_trans Z6 R11
  have gz18 : h0.size ≤ b_8 := Nat.le_trans Y7 R11
  have Z19 : n0 ≤ T8.heap.size := Nat.le_trans Z6 K8.1
  have Y20 : h0.size ≤ T8.heap.size := Nat.le_trans Y7 K8.1
  show Gl p.tables e below T8 (mkF m 35 #[.val (.ref sa), .val (.ref ba), .val .null, .val (.ref bv), .val (.int (own_ln bcs))] [(.ref b_8), (.ref sa)]) G
  have G21 : Fld Z T8.heap sa "java/lang/String" "value" "[B" u1 := ((F1_sa_value.other W5 (Or.inr (slot_ne (Or.inr (hw _ (List.mem_of_getElem? (i := 20) rfl))) (Or.inr (hw _ (List.mem_of_getElem? (i := 21) rfl))) (by decide) (t := (.array .byte)) (t' := .byte) (by decide) (by decide)))).keep K8 nin0)
  have G22 : Exa Z T8.heap sa "java/lang/String" := (G12.keep K8)
  obtain ⟨T23, h23, X23, e23, W23, st23⟩ := putF X8 hx hZ hown (host := "") (Or.inl (hw _ (List.mem_of_getElem? (i := 24) rfl))) Via.refl rfl G21 G22 (Or.inr ⟨(hw _ (List.mem_of_getElem? (i := 20) rfl)), rfl, hnm⟩) (hw _ (List.mem_of_getElem? (i := 5) rfl)) (ty := (.array .byte)) (by decide) rfl rfl (g := (mkF m 35 #[.val (.ref sa), .val (.ref ba), .val .null, .val (.ref bv), .val (.int (own_ln bcs))] [(.ref b_8), (.ref sa)])) rfl rfl (hb hby d27_35)
  refine Gl.via st23 ?_
  have N23_ := Fr.snoc X23 N8_ hp2
  have Z24 : n0 ≤ h23.size := Nat.le_trans Z19 (Keep.of_wr W23).1
  have Y25 : h0.size ≤ h23.size := Nat.le_trans Y20 (Keep.of_wr W23).1
  show Gl p.tables e below T23 (mkF m 38 #[.val (.ref sa), .val (.ref ba), .val .null, .val (.ref bv), .val (.int (own_ln bcs))] []) G
  refine Gl.via (fun _ k => XS.goto X23.here hx rfl (pc0 := 38) (pc' := 97) rfl (hb hby d27_38) (by decide) (by decide) k) ?_
  show Gl p.tables e below T23 (mkF m 97 #[.val (.ref sa), .val (.ref ba), .val .null, .val (.ref bv), .val (.int (own_ln bcs))] []) G
  obtain ⟨fs, hr, hrun, hended, hW, hsame⟩ := X23.leave (v := none) (fun _ => rfl)
  have G26 : Exa Z h23 sa "java/lang/String" := (G22.wr W23)
  have G27 : Fld Z h23 sa "java/lang/String" "coder" "B" (.int (0 : Int32)) := (((Fld.same W5 F2_sa_coder).keep K8 nin0).other W23 (Or.inr (slot_ne (Or.inr (hw _ (List.mem_of_getElem? (i := 21) rfl))) (Or.inr (hw _ (List.mem_of_getElem? (i := 20) rfl))) (by decide) (t := .byte) (t' := (.array .byte)) (by decide) (by decide))))
  have G28 : Arv Z h23 b_8 k_8 .byte (own_ln bcs) (bcs.map Value.int) (.int (0 : Int32)) := (P10.other W23 (Ne.symm ne13))
  have hq : ∀ L, Fr n0 L → Q_s_ini2 Z sa u1 u2 ba bv bk bcs cps h0 n0 (none) T23.heap L := by
    intro L hN
    rw [e23]
    exact ⟨b_8, k_8, rfl, hN, ((((Keep.refl h0 [sa]).wr W5 (Or.inl (List.mem_of_getElem? (i := 0) rfl))).trans K8 all0).wr W23 (Or.inl (List.mem_of_getElem? (i := 0) rfl))), G26, G27, (Fld.same W23 G21), G28, gz18⟩
  rw [hG]
  exact Gl.fin (X23.returnOut hx Bd.returns (hb hby d27_97) hr) ⟨_, hrun, hended, _, _, rfl, hq _ N23_, ⟨_, rfl⟩, hW, hsame.mono (by decide) (by decide)⟩
theorem d26_0 : decode jdk_42_method_53_code 0 = .ok (.aload_n 0, 1) := by decide +kernel
theorem d26_1 : decode jdk_42_method_53_code 1 = .ok (.aload_n 1, 1) := by decide +kernel
theorem d26_2 : decode jdk_42_method_53_code 2 = .ok (.aconst_null, 1) := by decide +kernel
theorem d26_3 : decode jdk_42_method_53_code 3 = .ok (.invokespecial 489, 3) := by decide +kernel
theorem pd_14 : parseMethodDescriptor "(Ljava/lang/AbstractStringBuilder;Ljava/lang/Void;)V" = some ⟨[(.object "java/lang/AbstractStringBuilder"), (.object "java/lang/Void")], none⟩ := by decide +kernel
theorem d26_6 : decode jdk_42_method_53_code 6 = .ok (.return_, 1) := by decide +kernel
theorem ef_s_ini1 (m : MethodId) (x0 : Addr) (x1 : Addr) : entryFrame m #[(.ref x0), (.ref x1)] 2 = mkF m 0 #[.val (.ref x0), .val (.ref x1)] [] := by first | (simp [entryFrame, mkF, argsToLocals, Value.category]; done) | rfl | (simp [entryFrame, mkF, argsToLocals, own_catI, own_catR, *]; done)
def Q_s_ini1 (Z : State) (sa : Addr) (u1 : Value) (u2 : Value) (ba : Addr) (bv : Addr) (bk : ClassId) (bcs : List Int32) (cps : Int32) (h0 : Heap) (n0 : Nat) (v : Option Value) (h : Heap) (L : List Loc) : Prop := ∃ (sb : Addr), ∃ (sk : ClassId), v = none ∧ Fr n0 L ∧ Keep h0 h [sa] ∧ Exa Z h sa "java/lang/String" ∧ Fld Z h sa "java/lang/String" "coder" "B" (.int (0 : Int32)) ∧ Fld Z h sa "java/lang/String" "value" "[B" (.ref sb) ∧ Arv Z h sb sk .byte (own_ln bcs) (bcs.map Value.int) (.int (0 : Int32)) ∧ (h0.size ≤ sb)
set_option maxRecDepth 65536 in
set_option maxHeartbeats 40000000 in
theorem s_ini1 (l : Launch) (Z : State) (a0 : Array Value) (hw : ∀ d ∈ tables_1, d.before a0 Z = true) (ws : List Jvm.Cond) (sa : Addr) (u1 : Value) (u2 : Value) (ba : Addr) (bv : Addr) (bk : ClassId) (bcs : List Int32) (cps : Int32) (h0 : Heap) (n0 : Nat) (Z0 : n0 ≤ h0.size) (F0_sa : Exa Z h0 sa "java/lang/String") (F1_sa_value : Fld Z h0 sa "java/lang/String" "value" "[B" u1) (F2_sa_coder : Fld Z h0 sa "java/lang/String" "coder" "B" u2) (F3_ba : Exa Z h0 ba "java/lang/StringBuilder") (F4_ba_value : Fld Z h0 ba "java/lang/AbstractStringBuilder" "value" "[B" (.ref bv)) (F5_ba_coder : Fld Z h0 ba "java/lang/AbstractStringBuilder" "coder" "B" (.int (0 : Int32))) (F6_ba_count : Fld Z h0 ba "java/lang/AbstractStringBuilder" "count" "I" (.int (own_ln bcs))) (F7_bv : Arv Z h0 bv bk .byte (16 : Int32) (bcs.map Value.int) (.int (0 : Int32))) (F8_java_lang_String : Sta Z Z.heap "java/lang/String" "COMPACT_STRINGS" "Z" (.int cps)) (F9_ : Old Z n0 h0) (hcps : ¬ (cps = (0 : Int32))) (hln : bcs.length ≤ 15) (hp2 : n0 ≤ sa) (hp3 : sa ≠ ba) (hp4 : sa ≠ bv) :
    MetFree l (⟨"java/lang/String", "<init>", "(Ljava/lang/StringBuilder;)V"⟩ : MethodName) (head1 (Jvm.Cond.code (⟨"java/lang/String", "<init>", "(Ljava/lang/StringBuilder;)V"⟩ : MethodName) jdk_42_method_53_code 2 none :: ws) ({ frames := 4, cells := 1, slots := 16, locals := 87 } : Room)) (fun a U => a = #[(.ref sa), (.ref ba)] ∧ Z.Warmed39 U.vm ∧ U.heap = h0) (fun _ _ _ _ _ => True) (fun _ U o U' => ∃ v L, o = .returned v ∧ Q_s_ini1 Z sa u1 u2 ba bv bk bcs cps h0 n0 v U'.heap L ∧ FrameEnd U o U' L ({ frames := 4, cells := 1, slots := 16, locals := 87 } : Room).cells ({ frames := 4, cells := 1, slots := 16, locals := 87 } : Room).slots) := by
  refine MetFree.of_bodySF (plainFor_of_name pn_0) hisR ?_
  intro p e s m args below meth c s₁ Bd hml0 hP hK
  obtain ⟨rfl, hZ, hh⟩ := hP
  have hx := Bd.exec
  have hby := Bd.bytes
  have hml : c.maxLocals = 2 := hml0
  have hown : s.vm.findClass "java/lang/String" = some m.cls := findClass_of_methodNamed Bd.named
  have hnm := (name_of_methodNamed Bd.named Bd.method).1
  have X0 : Stand p l e ({ frames := 4, cells := 1, slots := 16, locals := 87 } : Room) s m #[(.ref sa), (.ref ba)] below meth c s₁ [] 0 0 := Stand.of_body Bd
  have e0 : s₁.heap = h0 := by rw [← hh, Bd.state]; rfl
  have N0 := Fr.nil n0
  obtain ⟨G, hG⟩ : ∃ G : State → Prop, G = (fun U' => ∃ o, U'.status = .running ∧ Ended U' below o ∧ ∃ v L, o = .returned v ∧ Q_s_ini1 Z sa u1 u2 ba bv bk bcs cps h0 n0 v U'.heap L ∧ FrameEnd s o U' L ({ frames := 4, cells := 1, slots := 16, locals := 87 } : Room).cells ({ frames := 4, cells := 1, slots := 16, locals := 87 } : Room).slots) := ⟨_, rfl⟩
  suffices key : Gl p.tables e below s₁ (mkF m 0 #[.val (.ref sa), .val (.ref ba)] []) G by
    obtain ⟨s₂, k1, k2⟩ := key
    rw [hG] at k2
    obtain ⟨o, k3, k4, k5⟩ := k2
    exact ⟨s₂, o, castTop (ef_s_ini1 m sa ba) k1, k3, k4, k5⟩
  show Gl p.tables e below s₁ (mkF m 0 #[.val (.ref sa), .val (.ref ba)] []) G
  refine Gl.via (fun _ k => XS.aloadN X0.here hx rfl (hb hby d26_0) rfl rfl k) ?_
  show Gl p.tables e below s₁ (mkF m 1 #[.val (.ref sa), .val (.ref ba)] [(.ref sa)]) G
  refine Gl.via (fun _ k => XS.aloadN X0.here hx rfl (hb hby d26_1) rfl rfl k) ?_
  show Gl p.tables e below s₁ (mkF m 2 #[.val (.ref sa), .val (.ref ba)] [(.ref ba), (.ref sa)]) G
  refine Gl.via (fun _ k => XS.aconstNull X0.here hx rfl (hb hby d26_2) k) ?_
  show Gl p.tables e below s₁ (mkF m 3 #[.val (.ref sa), .val (.ref ba)] [.null, (.ref ba), (.ref sa)]) G
  obtain ⟨_, _, ⟨T1, L1, k1, n1⟩, -, X1, ⟨Lc1, hQ1, l1, y1, z1⟩, st1⟩ := X0.specialBack hx (y := (⟨"java/lang/String", "<init>", "(Ljava/lang/AbstractStringBuilder;Ljava/lang/Void;)V"⟩ : MethodName)) rfl hown (mvT hZ (hw _ (List.mem_of_getElem? (i := 151) rfl))) (mvT hZ (hw _ (List.mem_of_getElem? (i := 152) rfl))) (mvT hZ (hw _ (List.mem_of_getElem? (i := 153) rfl))) (by decide) (backOf (W := 0) (s_ini2 l Z a0 hw [] sa u1 u2 ba bv bk bcs cps h0 n0 Z0 F0_sa F1_sa_value F2_sa_coder F3_ba F4_ba_value F5_ba_coder F6_ba_count F7_bv F8_java_lang_String F9_ hcps hln hp2 hp3 hp4) hZ (hw _ (List.mem_of_getElem? (i := 153) rfl)) (hw _ (List.mem_of_getElem? (i := 6) rfl)) (by decide) (by decide)) (g := (mkF m 3 #[.val (.ref sa), .val (.ref ba)] [.null, (.ref ba), (.ref sa)])) rfl (by rw [hml]; rfl) (Steps.refl _) (a := sa) (argsL := [(.ref ba), .null]) (rest := []) (lenOf pd_14 rfl) rfl (by show 2 * 0 + _ ≤ _; exact Nat.le_of_eq rfl) (hb hby d26_3) (fun _ _ => ⟨rfl, e0, (by decide : 0 + 1 ≤ _), (by decide : 0 + 16 ≤ _)⟩)
  dsimp only [Pt.U, Pt.locs, Pt.cells, Pt.slots] at X1 l1 y1 z1 st1 hQ1
  subst l1 y1 z1
  obtain ⟨sb_1, sk_1, rfl, N1q, K1, P2, P3, P4, P5, R6⟩ := hQ1
  have N1_ := Fr.app N0 N1q
  refine Gl.via (fun _ k => st1.trans k) ?_
  have ne7 : sa ≠ sb_1 := Nat.ne_of_lt (Nat.lt_of_lt_of_le F0_sa.lt R6)
  have ne8 : ba ≠ sb_1 := Nat.ne_of_lt (Nat.lt_of_lt_of_le F3_ba.lt R6)
  have ne9 : bv ≠ sb_1 := Nat.ne_of_lt (Nat.lt_of_lt_of_le F7_bv.lt R6)
  have ge10 : n0 ≤ sb_1 := Nat.le_trans Z0 R6
  have gz11 : h0.size ≤ sb_1 := Nat.le_trans (Nat.le_refl h0.size) R6
  have Z12 : n0 ≤ T1.heap.size := Nat.le_trans Z0 K1.1
  have Y13 : h0.size ≤ T1.heap.size := Nat.le_trans (Nat.le_refl h0.size) K1.1
  show Gl p.tables e below T1 (mkF m 6 #[.val (.ref sa), .val (.ref ba)] []) G
  obtain ⟨fs, hr, hrun, hended, hW, hsame⟩ := X1.leave (v := none) (fun _ => rfl)
  have hq : ∀ L, Fr n0 L → Q_s_ini1 Z sa u1 u2 ba bv bk bcs cps h0 n0 (none) T1.heap L := by
    intro L hN
    exact ⟨sb_1, sk_1, rfl, hN, ((Keep.refl h0 [sa]).trans K1 (allS (Or.inl (List.mem_of_getElem? (i := 0) rfl)) all0)), P2, P3, P4, P5, R6⟩
  rw [hG]
  exact Gl.fin (X1.returnOut hx Bd.returns (hb hby d26_6) hr) ⟨_, hrun, hended, _, _, rfl, hq _ N1_, ⟨_, rfl⟩, hW, hsame.mono (by decide) (by decide)⟩
theorem d25_0 : decode jdk_67_method_42_code 0 = .ok (.new 18, 3) := by decide +kernel
theorem d25_3 : decode jdk_67_method_42_code 3 = .ok (.dup, 1) := by decide +kernel
theorem d25_4 : decode jdk_67_method_42_code 4 = .ok (.aload_n 0, 1) := by decide +kernel
theorem d25_5 : decode jdk_67_method_42_code 5 = .ok (.invokespecial 137, 3) := by decide +kernel
theorem pd_15 : parseMethodDescriptor "(Ljava/lang/StringBuilder;)V" = some ⟨[(.object "java/lang/StringBuilder")], none⟩ := by decide +kernel
theorem d25_8 : decode jdk_67_method_42_code 8 = .ok (.areturn, 1) := by decide +kernel
theorem ef_sb_str (m : MethodId) (x0 : Addr) : entryFrame m #[(.ref x0)] 1 = mkF m 0 #[.val (.ref x0)] [] := by first | (simp [entryFrame, mkF, argsToLocals, Value.category]; done) | rfl | (simp [entryFrame, mkF, argsToLocals, own_catI, own_catR, *]; done)
def Q_sb_str (Z : State) (ba : Addr) (bv : Addr) (bk : ClassId) (bcs : List Int32) (cps : Int32) (h0 : Heap) (n0 : Nat) (v : Option Value) (h : Heap) (L : List Loc) : Prop := ∃ (sa : Addr), ∃ (sb : Addr), ∃ (sk : ClassId), v = some (.ref sa) ∧ Fr n0 L ∧ Keep h0 h [] ∧ Exa Z h sa "java/lang/String" ∧ Fld Z h sa "java/lang/String" "coder" "B" (.int (0 : Int32)) ∧ Fld Z h sa "java/lang/String" "value" "[B" (.ref sb) ∧ Arv Z h sb sk .byte (own_ln bcs) (bcs.map Value.int) (.int (0 : Int32)) ∧ (h0.size ≤ sa)
set_option maxRecDepth 65536 in
set_option maxHeartbeats 40000000 in
theorem sb_str (l : Launch) (Z : State) (a0 : Array Value) (hw : ∀ d ∈ tables_1, d.before a0 Z = true) (ws : List Jvm.Cond) (ba : Addr) (bv : Addr) (bk : ClassId) (bcs : List Int32) (cps : Int32) (h0 : Heap) (n0 : Nat) (Z0 : n0 ≤ h0.size) (F0_ba : Exa Z h0 ba "java/lang/StringBuilder") (F1_ba_value : Fld Z h0 ba "java/lang/AbstractStringBuilder" "value" "[B" (.ref bv)) (F2_ba_coder : Fld Z h0 ba "java/lang/AbstractStringBuilder" "coder" "B" (.int (0 : Int32))) (F3_ba_count : Fld Z h0 ba "java/lang/AbstractStringBuilder" "count" "I" (.int (own_ln bcs))) (F4_bv : Arv Z h0 bv bk .byte (16 : Int32) (bcs.map Value.int) (.int (0 : Int32))) (F5_java_lang_String : Sta Z Z.heap "java/lang/String" "COMPACT_STRINGS" "Z" (.int cps)) (F6_ : Old Z n0 h0) (hcps : ¬ (cps = (0 : Int32))) (hln : bcs.length ≤ 15) :
    MetFree l (⟨"java/lang/StringBuilder", "toString", "()Ljava/lang/String;"⟩ : MethodName) (head1 (Jvm.Cond.code (⟨"java/lang/StringBuilder", "toString", "()Ljava/lang/String;"⟩ : MethodName) jdk_67_method_42_code 1 (some (.object "java/lang/String")) :: ws) ({ frames := 5, cells := 2, slots := 20, locals := 101 } : Room)) (fun a U => a = #[(.ref ba)] ∧ Z.Warmed39 U.vm ∧ U.heap = h0) (fun _ _ _ _ _ => True) (fun _ U o U' => ∃ v L, o = .returned v ∧ Q_sb_str Z ba bv bk bcs cps h0 n0 v U'.heap L ∧ FrameEnd U o U' L ({ frames := 5, cells := 2, slots := 20, locals := 101 } : Room).cells ({ frames := 5, cells := 2, slots := 20, locals := 101 } : Room).slots) := by
  refine MetFree.of_bodySF (plainFor_of_name pn_4) hisR ?_
  intro p e s m args below meth c s₁ Bd hml0 hP hK
  obtain ⟨rfl, hZ, hh⟩ := hP
  have hx := Bd.exec
  have hby := Bd.bytes
  have hml : c.maxLocals = 1 := hml0
  have hown : s.vm.findClass "java/lang/StringBuilder" = some m.cls := findClass_of_methodNamed Bd.named
  have hnm := (name_of_methodNamed Bd.named Bd.method).1
  have X0 : Stand p l e ({ frames := 5, cells := 2, slots := 20, locals := 101 } : Room) s m #[(.ref ba)] below meth c s₁ [] 0 0 := Stand.of_body Bd
  have e0 : s₁.heap = h0 := by rw [← hh, Bd.state]; rfl
  have N0 := Fr.nil n0
  obtain ⟨G, hG⟩ : ∃ G : State → Prop, G = (fun U' => ∃ o, U'.status = .running ∧ Ended U' below o ∧ ∃ v L, o = .returned v ∧ Q_sb_str Z ba bv bk bcs cps h0 n0 v U'.heap L ∧ FrameEnd s o U' L ({ frames := 5, cells := 2, slots := 20, locals := 101 } : Room).cells ({ frames := 5, cells := 2, slots := 20, locals := 101 } : Room).slots) := ⟨_, rfl⟩
  suffices key : Gl p.tables e below s₁ (mkF m 0 #[.val (.ref ba)] []) G by
    obtain ⟨s₂, k1, k2⟩ := key
    rw [hG] at k2
    obtain ⟨o, k3, k4, k5⟩ := k2
    exact ⟨s₂, o, castTop (ef_sb_str m ba) k1, k3, k4, k5⟩
  show Gl p.tables e below s₁ (mkF m 0 #[.val (.ref ba)] []) G
  obtain ⟨T1, h1, X1, e1, E1, A1, D1, -, st1⟩ := newO X0 hx hZ hown (hw _ (List.mem_of_getElem? (i := 147) rfl)) (hw _ (List.mem_of_getElem? (i := 5) rfl)) (hw _ (List.mem_of_getElem? (i := 6) rfl)) e0 (g := (mkF m 0 #[.val (.ref ba)] [])) rfl (hb hby d25_0) (by decide) (by decide)
  obtain ⟨b1, g1⟩ : ∃ z, z = h0.size := ⟨_, rfl⟩
  rw [← g1] at A1 D1 st1
  have ne2 : ba ≠ b1 := Nat.ne_of_lt (Nat.lt_of_lt_of_le F0_ba.lt (Nat.le_of_eq g1.symm))
  have ne3 : bv ≠ b1 := Nat.ne_of_lt (Nat.lt_of_lt_of_le F4_bv.lt (Nat.le_of_eq g1.symm))
  have ge4 : n0 ≤ b1 := Nat.le_trans Z0 (Nat.le_of_eq g1.symm)
  have gz5 : h0.size ≤ b1 := Nat.le_trans (Nat.le_refl h0.size) (Nat.le_of_eq g1.symm)
  refine Gl.via st1 ?_
  have Z6 : n0 ≤ h1.size := Nat.le_trans Z0 E1.1
  have Y7 : h0.size ≤ h1.size := Nat.le_trans (Nat.le_refl h0.size) E1.1
  have F8 : Fld Z h1 b1 "java/lang/String" "value" "[B" .null := D1 (Or.inr (hw _ (List.mem_of_getElem? (i := 20) rfl))) (ty := (.array .byte)) (by decide)
  have F9 : Fld Z h1 b1 "java/lang/String" "coder" "B" (.int (0 : Int32)) := D1 (Or.inr (hw _ (List.mem_of_getElem? (i := 21) rfl))) (ty := .byte) (by decide)
  show Gl p.tables e below T1 (mkF m 3 #[.val (.ref ba)] [(.ref b1)]) G
  refine Gl.via (fun _ k => XS.dup X1.here hx rfl (hb hby d25_3) rfl rfl k) ?_
  show Gl p.tables e below T1 (mkF m 4 #[.val (.ref ba)] [(.ref b1), (.ref b1)]) G
  refine Gl.via (fun _ k => XS.aloadN X1.here hx rfl (hb hby d25_4) rfl rfl k) ?_
  show Gl p.tables e below T1 (mkF m 5 #[.val (.ref ba)] [(.ref ba), (.ref b1), (.ref b1)]) G
  have G11 : Exa Z h1 ba "java/lang/StringBuilder" := (F0_ba.ext E1)
  have G12 : Fld Z h1 ba "java/lang/AbstractStringBuilder" "value" "[B" (.ref bv) := (F1_ba_value.ext E1)
  have G13 : Fld Z h1 ba "java/lang/AbstractStringBuilder" "coder" "B" (.int (0 : Int32)) := (F2_ba_coder.ext E1)
  have G14 : Fld Z h1 ba "java/lang/AbstractStringBuilder" "count" "I" (.int (own_ln bcs)) := (F3_ba_count.ext E1)
  have G15 : Arv Z h1 bv bk .byte (16 : Int32) (bcs.map Value.int) (.int (0 : Int32)) := (F4_bv.ext E1)
  have G16 : Old Z n0 h1 := (F6_.ext E1)
  obtain ⟨_, _, ⟨T10, L10, k10, n10⟩, -, X10, ⟨Lc10, hQ10, l10, y10, z10⟩, st10⟩ := X1.specialBack hx (y := (⟨"java/lang/String", "<init>", "(Ljava/lang/StringBuilder;)V"⟩ : MethodName)) rfl hown (mvT hZ (hw _ (List.mem_of_getElem? (i := 148) rfl))) (mvT hZ (hw _ (List.mem_of_getElem? (i := 149) rfl))) (mvT hZ (hw _ (List.mem_of_getElem? (i := 150) rfl))) (by decide) (backOf (W := 1) (s_ini1 l Z a0 hw [] b1 .null (.int (0 : Int32)) ba bv bk bcs cps h1 n0 Z6 A1 F8 F9 G11 G12 G13 G14 G15 F5_java_lang_String G16 hcps hln ge4 (Ne.symm ne2) (Ne.symm ne3)) hZ (hw _ (List.mem_of_getElem? (i := 150) rfl)) (hw _ (List.mem_of_getElem? (i := 6) rfl)) (by decide) (by decide)) (g := (mkF m 5 #[.val (.ref ba)] [(.ref ba), (.ref b1), (.ref b1)])) rfl (by rw [hml]; rfl) (Steps.refl _) (a := b1) (argsL := [(.ref ba)]) (rest := [(.ref b1)]) (lenOf pd_15 rfl) rfl (by show 2 * 0 + _ ≤ _; exact Nat.le_of_eq rfl) (hb hby d25_5) (fun _ _ => ⟨rfl, e1, (by decide : 1 + 1 ≤ _), (by decide : 4 + 16 ≤ _)⟩)
  dsimp only [Pt.U, Pt.locs, Pt.cells, Pt.slots] at X10 l10 y10 z10 st10 hQ10
  subst l10 y10 z10
  obtain ⟨sb_10, sk_10, rfl, N10q, K10, P17, P18, P19, P20, R21⟩ := hQ10
  have N10_ := Fr.app N0 N10q
  refine Gl.via (fun _ k => st10.trans k) ?_
  have ne22 : ba ≠ sb_10 := Nat.ne_of_lt (Nat.lt_of_lt_of_le G11.lt R21)
  have ne23 : bv ≠ sb_10 := Nat.ne_of_lt (Nat.lt_of_lt_of_le G15.lt R21)
  have ne24 : b1 ≠ sb_10 := Nat.ne_of_lt (Nat.lt_of_lt_of_le A1.lt R21)
  have ge25 : n0 ≤ sb_10 := Nat.le_trans Z6 R21
  have gz26 : h0.size ≤ sb_10 := Nat.le_trans Y7 R21
  have Z27 : n0 ≤ T10.heap.size := Nat.le_trans Z6 K10.1
  have Y28 : h0.size ≤ T10.heap.size := Nat.le_trans Y7 K10.1
  show Gl p.tables e below T10 (mkF m 8 #[.val (.ref ba)] [(.ref b1)]) G
  obtain ⟨fs, hr, hrun, hended, hW, hsame⟩ := X10.leave (v := some (.ref b1)) (fun h => by rw [Bd.returns] at h; cases h)
  have hq : ∀ L, Fr n0 L → Q_sb_str Z ba bv bk bcs cps h0 n0 (some (.ref b1)) T10.heap L := by
    intro L hN
    exact ⟨b1, sb_10, sk_10, rfl, hN, (((Keep.refl h0 []).ext E1).trans K10 (allS (Or.inr gz5) all0)), P17, P18, P19, P20, gz5⟩
  rw [hG]
  exact Gl.fin (retOut X10 hx Bd.returns rfl (Or.inr (Or.inr (Or.inr (Or.inr ⟨rfl, rfl, rfl⟩)))) (hb hby d25_8) hr) ⟨_, hrun, hended, _, _, rfl, hq _ N10_, ⟨_, rfl⟩, hW, hsame.mono (by decide) (by decide)⟩
def own_EL : List (String × Nat) := [("java/lang/String", 7), ("candorpay/Command$Option", 33)]
theorem own_sub : ∀ q ∈ own_EL, q ∈ consts_1 := by decide
theorem own_ew {Z : State} {a0 : Array Value} (hw : ∀ d ∈ tables_1, d.before a0 Z = true) : EW Z a0 own_EL := (EW.cons (hw _ (List.mem_of_getElem? (i := 18) rfl)) (by decide) (EW.cons (hw _ (List.mem_of_getElem? (i := 141) rfl)) (by decide) EW.nil))
theorem own_wS {Z : State} {a0 : Array Value} (hw : ∀ d ∈ tables_1, d.before a0 Z = true) : ∀ a ∈ Bundle.stringAtoms, a.before a0 Z = true := by
  intro d hd
  simp only [Bundle.stringAtoms, Bundle.sN, List.mem_cons, List.not_mem_nil, or_false] at hd
  rcases hd with rfl | rfl | rfl | rfl | rfl | rfl | rfl
  · exact (hw _ (List.mem_of_getElem? (i := 6) rfl))
  · exact (hw _ (List.mem_of_getElem? (i := 5) rfl))
  · exact (hw _ (List.mem_of_getElem? (i := 19) rfl))
  · exact (hw _ (List.mem_of_getElem? (i := 20) rfl))
  · exact (hw _ (List.mem_of_getElem? (i := 21) rfl))
  · exact (hw _ (List.mem_of_getElem? (i := 22) rfl))
  · exact (hw _ (List.mem_of_getElem? (i := 23) rfl))
theorem own_xs {x : Addr} {L : List Addr} {P : Addr → Prop} (h : P x) (r : ∀ y ∈ L, P y) : ∀ y ∈ x :: L, P y := fun y q => by
  rcases List.mem_cons.mp q with rfl | q
  · exact h
  · exact r y q
theorem own_back {p : Program} {l : Launch} {e : Env} {R : Room} {s : State} {args : Array Value} {below : List Frame} {Z : State} {a0 : Array Value} {h : Heap} {vm0 : Vm} {y : MethodName} {bytes : ByteArray} {maxL : Nat} {ret : Option FieldType} {rm : Room} {len W : Nat} {as' : Array Value} {Q : Option Value → Heap → List Loc → Prop} {xs : List Addr}
    (hM : MetFree l y (head1 [Jvm.Cond.code y bytes maxL ret] rm) (fun a U => a = as' ∧ Z.Warmed39 U.vm ∧ U.heap = h ∧ CHv Z own_EL U.vm h ∧ ∀ x ∈ xs, Safe Z own_EL U.vm h x) (fun _ _ _ _ _ => True) (fun _ U o U' => ∃ v L, o = .returned v ∧ Q v U'.heap L ∧ CHr Z own_EL U.vm U.heap U'.vm U'.heap ∧ ReturnedEndW U o U' L rm.cells rm.slots))
    (hZ : Z.Warmed39 vm0) (wc : (Jvm.Cond.code y bytes maxL ret).before a0 Z = true) (wz : (Jvm.Cond.initialized y.cls).before a0 Z = true) (hf : rm.frames + 1 ≤ R.frames) (hl : W + (maxL + 11) + rm.locals ≤ R.locals) (hEL : EW Z a0 own_EL) (H : CHv Z own_EL vm0 h) (hs : ∀ x ∈ xs, Safe Z own_EL vm0 h x ∧ x < h.size) :
    BackS l R p e below (s.setVm vm0) args y len W (fun A a => a = as' ∧ A.U.heap = h ∧ A.cells + rm.cells ≤ R.cells ∧ A.slots + rm.slots ≤ R.slots)
      (fun A _ v B => ∃ L, Q v B.U.heap L ∧ B.locs = A.locs ++ L ∧ B.cells = A.cells + rm.cells ∧ B.slots = A.slots + rm.slots ∧ CHr Z own_EL vm0 h B.U.vm B.U.heap) :=
  BackS.of_freeW (bytes := bytes) (maxL := maxL) (ret := ret) (E := fun _ first o t L k n => k = rm.cells ∧ n = rm.slots ∧ (∃ v, o = .returned v ∧ Q v t.heap L) ∧ CHr Z own_EL first.vm first.heap t.vm t.heap) hM hf hl
    (fun m meth c A a Y hp => have hU : Z.Warmed39 A.U.vm := wtrans (s := s.setVm vm0) hZ Y.warmed
      ⟨by show (Jvm.Cond.and _ .tt).before a A.U = true; rw [Cond.before_and, mv hU wc]; rfl, mv hU wc, mv hU wz, hp.2.2.1, hp.2.2.2⟩)
    (fun m meth c A a g mk Y hp => ⟨hp.1, wtrans (s := s.setVm vm0) hZ Y.warmed, hp.2.1, (CHv.at Y hZ hEL H).1, fun x hx => (CHv.at Y hZ hEL H).safe (hs x hx).2 (hs x hx).1⟩) (fun _ _ _ _ _ _ _ _ _ => trivial)
    (fun _ _ _ _ ⟨v, L, h1, h2, h3, h4⟩ => ⟨L, _, _, h4, rfl, rfl, ⟨v, h1, h2⟩, h3⟩)
    (fun m meth c A a g mk v t L k n Y hp _ _ ⟨e1, e2, ⟨v', e3, e4⟩, e5⟩ => by
      cases e3; subst e1 e2
      refine ⟨L, e4, rfl, rfl, rfl, (CHv.at Y hZ hEL H).trans ?_⟩
      rw [← hp.2.1]; exact e5)
theorem d3_0 : decode jdk_42_method_149_code 0 = .ok (.aload_n 0, 1) := by decide +kernel
theorem d3_1 : decode jdk_42_method_149_code 1 = .ok (.invokespecial 1, 3) := by decide +kernel
theorem d3_4 : decode jdk_42_method_149_code 4 = .ok (.iload_n 3, 1) := by decide +kernel
theorem d3_5 : decode jdk_42_method_149_code 5 = .ok (.ifCond .ne 22, 3) := by decide +kernel
theorem d3_8 : decode jdk_42_method_149_code 8 = .ok (.aload_n 0, 1) := by decide +kernel
theorem d3_9 : decode jdk_42_method_149_code 9 = .ok (.ldc 7, 2) := by decide +kernel
theorem d3_11 : decode jdk_42_method_149_code 11 = .ok (.getfield 9, 3) := by decide +kernel
theorem d3_14 : decode jdk_42_method_149_code 14 = .ok (.putfield 9, 3) := by decide +kernel
theorem d3_17 : decode jdk_42_method_149_code 17 = .ok (.aload_n 0, 1) := by decide +kernel
theorem d3_18 : decode jdk_42_method_149_code 18 = .ok (.ldc 7, 2) := by decide +kernel
theorem d3_20 : decode jdk_42_method_149_code 20 = .ok (.getfield 15, 3) := by decide +kernel
theorem d3_23 : decode jdk_42_method_149_code 23 = .ok (.putfield 15, 3) := by decide +kernel
theorem d3_26 : decode jdk_42_method_149_code 26 = .ok (.return_, 1) := by decide +kernel
theorem ef_si4_0 (m : MethodId) (x0 : Addr) (x1 : Addr) (x2 : Int32) (x3 : Int32) : entryFrame m #[(.ref x0), (.ref x1), (.int x2), (.int x3), .null] 6 = mkF m 0 #[.val (.ref x0), .val (.ref x1), .val (.int x2), .val (.int x3), .val .null, .unset] [] := by first | (simp [entryFrame, mkF, argsToLocals, Value.category]; done) | rfl | (simp [entryFrame, mkF, argsToLocals, own_catI, own_catR, *]; done)
def Q_si4_0 (Z : State) (sa : Addr) (u1 : Value) (u2 : Value) (ca : Addr) (ck : ClassId) (cps : Int32) (h0 : Heap) (n0 : Nat) (v : Option Value) (h : Heap) (L : List Loc) : Prop := ∃ (sb : Addr), ∃ (sk : ClassId), v = none ∧ Fr n0 L ∧ Keep h0 h [sa] ∧ Exa Z h sa "java/lang/String" ∧ Fld Z h sa "java/lang/String" "coder" "B" (.int (0 : Int32)) ∧ Fld Z h sa "java/lang/String" "value" "[B" (.ref sb) ∧ Arv Z h sb sk .byte (own_ln ([] : List Int32)) (([] : List Int32).map Value.int) (.int (0 : Int32))
set_option maxRecDepth 65536 in
set_option maxHeartbeats 40000000 in
theorem si4_0 (l : Launch) (Z : State) (a0 : Array Value) (hw : ∀ d ∈ tables_1, d.before a0 Z = true) (ws : List Jvm.Cond) (sa : Addr) (u1 : Value) (u2 : Value) (ca : Addr) (ck : ClassId) (cps : Int32) (h0 : Heap) (n0 : Nat) (Z0 : n0 ≤ h0.size) (F0_sa : Exa Z h0 sa "java/lang/String") (F1_sa_value : Fld Z h0 sa "java/lang/String" "value" "[B" u1) (F2_sa_coder : Fld Z h0 sa "java/lang/String" "coder" "B" u2) (F3_ca : Arv Z h0 ca ck .char (0 : Int32) [] (.int (0 : Int32))) (F4_java_lang_String : Sta Z Z.heap "java/lang/String" "COMPACT_STRINGS" "Z" (.int cps)) (F5_ : Old Z n0 h0) (hcps : ¬ (cps = (0 : Int32))) (hp1 : n0 ≤ sa) (hp2 : sa ≠ ca) :
    MetFree l (⟨"java/lang/String", "<init>", "([CIILjava/lang/Void;)V"⟩ : MethodName) (head1 (Jvm.Cond.code (⟨"java/lang/String", "<init>", "([CIILjava/lang/Void;)V"⟩ : MethodName) jdk_42_method_149_code 6 none :: ws) ({ frames := 1, cells := 4, slots := 8, locals := 12 } : Room)) (fun a U => a = #[(.ref sa), (.ref ca), (.int (0 : Int32)), (.int (0 : Int32)), .null] ∧ Z.Warmed39 U.vm ∧ U.heap = h0 ∧ CHv Z own_EL U.vm h0 ∧ ∀ x ∈ ([sa] : List Addr), Safe Z own_EL U.vm h0 x) (fun _ _ _ _ _ => True) (fun _ U o U' => ∃ v L, o = .returned v ∧ Q_si4_0 Z sa u1 u2 ca ck cps h0 n0 v U'.heap L ∧ CHr Z own_EL U.vm U.heap U'.vm U'.heap ∧ ReturnedEndW U o U' L ({ frames := 1, cells := 4, slots := 8, locals := 12 } : Room).cells ({ frames := 1, cells := 4, slots := 8, locals := 12 } : Room).slots) := by
  refine MetFree.of_bodySF (plainFor_of_name pn_0) hisR ?_
  intro p e s m args below meth c s₁ Bd hml0 hP hK
  obtain ⟨rfl, hZ, hh, hCH, hSF⟩ := hP
  have hx := Bd.exec
  have hby := Bd.bytes
  have hml : c.maxLocals = 6 := hml0
  have hown : s.vm.findClass "java/lang/String" = some m.cls := findClass_of_methodNamed Bd.named
  have hnm := (name_of_methodNamed Bd.named Bd.method).1
  have X0 : Stand p l e ({ frames := 1, cells := 4, slots := 8, locals := 12 } : Room) (s.setVm s.vm) m #[(.ref sa), (.ref ca), (.int (0 : Int32)), (.int (0 : Int32)), .null] below meth c s₁ [] 0 0 := Stand.of_body Bd
  have e0 : s₁.heap = h0 := by rw [← hh, Bd.state]; rfl
  have N0 := Fr.nil n0
  have hS0 : s.Since s.vm 0 := (State.WarmedH.refl s).since 0
  have hk0 : 0 ≤ h0.size := Nat.zero_le _
  have hEL := own_ew hw
  have CR0 : CHr Z own_EL s.vm h0 s.vm h0 := CHr.refl hCH
  obtain ⟨G, hG⟩ : ∃ G : State → Prop, G = (fun U' => ∃ o, U'.status = .running ∧ Ended U' below o ∧ ∃ v L, o = .returned v ∧ Q_si4_0 Z sa u1 u2 ca ck cps h0 n0 v U'.heap L ∧ CHr Z own_EL s.vm s.heap U'.vm U'.heap ∧ ReturnedEndW s o U' L ({ frames := 1, cells := 4, slots := 8, locals := 12 } : Room).cells ({ frames := 1, cells := 4, slots := 8, locals := 12 } : Room).slots) := ⟨_, rfl⟩
  suffices key : Gl p.tables e below s₁ (mkF m 0 #[.val (.ref sa), .val (.ref ca), .val (.int (0 : Int32)), .val (.int (0 : Int32)), .val .null, .unset] []) G by
    obtain ⟨s₂, k1, k2⟩ := key
    rw [hG] at k2
    obtain ⟨o, k3, k4, k5⟩ := k2
    exact ⟨s₂, o, castTop (ef_si4_0 m sa ca (0 : Int32) (0 : Int32)) k1, k3, k4, k5⟩
  show Gl p.tables e below s₁ (mkF m 0 #[.val (.ref sa), .val (.ref ca), .val (.int (0 : Int32)), .val (.int (0 : Int32)), .val .null, .unset] []) G
  refine Gl.via (fun _ k => XS.aloadN X0.here hx rfl (hb hby d3_0) rfl rfl k) ?_
  show Gl p.tables e below s₁ (mkF m 1 #[.val (.ref sa), .val (.ref ca), .val (.int (0 : Int32)), .val (.int (0 : Int32)), .val .null, .unset] [(.ref sa)]) G
  obtain ⟨T1, X1, e1, st1⟩ := initO X0 hx hZ hown (hw _ (List.mem_of_getElem? (i := 15) rfl)) (hw _ (List.mem_of_getElem? (i := 16) rfl)) (hw _ (List.mem_of_getElem? (i := 17) rfl)) e0 (g := (mkF m 1 #[.val (.ref sa), .val (.ref ca), .val (.int (0 : Int32)), .val (.int (0 : Int32)), .val .null, .unset] [(.ref sa)])) rfl (by rw [hml]; rfl) rfl (hb hby d3_1) (by decide) (W := 0) (by show 2 * 0 + _ ≤ _; exact Nat.le_of_eq rfl) (by decide)
  refine Gl.via st1 ?_
  show Gl p.tables e below T1 (mkF m 4 #[.val (.ref sa), .val (.ref ca), .val (.int (0 : Int32)), .val (.int (0 : Int32)), .val .null, .unset] []) G
  refine Gl.via (fun _ k => XS.iloadN X1.here hx rfl (hb hby d3_4) rfl k) ?_
  show Gl p.tables e below T1 (mkF m 5 #[.val (.ref sa), .val (.ref ca), .val (.int (0 : Int32)), .val (.int (0 : Int32)), .val .null, .unset] [(.int (0 : Int32))]) G
  refine Gl.via (fun _ k => XS.ifNo X1.here hx rfl (hb hby d3_5) rfl ((if0 _ _).trans (teq (by decide)).2) k) ?_
  show Gl p.tables e below T1 (mkF m 8 #[.val (.ref sa), .val (.ref ca), .val (.int (0 : Int32)), .val (.int (0 : Int32)), .val .null, .unset] []) G
  refine Gl.via (fun _ k => XS.aloadN X1.here hx rfl (hb hby d3_8) rfl rfl k) ?_
  show Gl p.tables e below T1 (mkF m 9 #[.val (.ref sa), .val (.ref ca), .val (.int (0 : Int32)), .val (.int (0 : Int32)), .val .null, .unset] [(.ref sa)]) G
  obtain ⟨a2, T2, h2, k2, b2, c2, X2, e2, E2, hS2, hk2, hZ2, hown2, P2a, P2c, P2v, P2r, la2, lb2, hC2, -, hsf2, st2⟩ := ldcCH X1 hx hZ hown (hw _ (List.mem_of_getElem? (i := 18) rfl)) (own_wS hw) e1 hS0 hk0 hEL (by decide) CR0.1 (vs := []) (z := (0 : Int32)) ⟨by decide, rfl⟩ (by decide) rfl (g := (mkF m 9 #[.val (.ref sa), .val (.ref ca), .val (.int (0 : Int32)), .val (.int (0 : Int32)), .val .null, .unset] [(.ref sa)])) rfl (hb hby d3_9) (n := 0) (by decide) (by decide) (by decide) (by decide)
  have CR3 : CHr Z own_EL s.vm h0 T2.vm h2 := CHr.trans CR0 hC2
  have SF4 : Safe Z own_EL T2.vm h2 sa := hC2.safe (by have q := F0_sa.lt; exact q) (hSF sa (List.mem_of_getElem? (i := 0) rfl))
  refine Gl.via st2 ?_
  have Z5 : n0 ≤ h2.size := Nat.le_trans Z0 E2.1
  have Y6 : h0.size ≤ h2.size := Nat.le_trans (Nat.le_refl h0.size) E2.1
  have hl7 := Nat.le_trans hk0 E2.1
  have ne8 : sa ≠ a2 ∧ sa ≠ b2 := hsf2 sa SF4
  have G9 : Arv Z h2 ca ck .char (0 : Int32) [] (.int (0 : Int32)) := (F3_ca.ext E2)
  have ne10 : ca ≠ a2 ∧ ca ≠ b2 := hsf2 ca (Safe.arv hZ2.alike G9 (by decide))
  show Gl p.tables e below T2 (mkF m 11 #[.val (.ref sa), .val (.ref ca), .val (.int (0 : Int32)), .val (.int (0 : Int32)), .val .null, .unset] [(.ref a2), (.ref sa)]) G
  obtain ⟨T11, X11, e11, st11⟩ := getF X2 hx hZ2 hown2 (host := "") (Or.inl (hw _ (List.mem_of_getElem? (i := 24) rfl))) Via.refl e2 P2v (g := (mkF m 11 #[.val (.ref sa), .val (.ref ca), .val (.int (0 : Int32)), .val (.int (0 : Int32)), .val .null, .unset] [(.ref a2), (.ref sa)])) rfl rfl (hb hby d3_11)
  refine Gl.via st11 ?_
  show Gl p.tables e below T11 (mkF m 14 #[.val (.ref sa), .val (.ref ca), .val (.int (0 : Int32)), .val (.int (0 : Int32)), .val .null, .unset] [(.ref b2), (.ref sa)]) G
  have G12 : Fld Z h2 sa "java/lang/String" "value" "[B" u1 := (F1_sa_value.ext E2)
  have G13 : Exa Z h2 sa "java/lang/String" := (F0_sa.ext E2)
  obtain ⟨T14, h14, X14, e14, W14, st14⟩ := putF X11 hx hZ2 hown2 (host := "") (Or.inl (hw _ (List.mem_of_getElem? (i := 24) rfl))) Via.refl e11 G12 G13 (Or.inr ⟨(hw _ (List.mem_of_getElem? (i := 20) rfl)), rfl, hnm⟩) (hw _ (List.mem_of_getElem? (i := 5) rfl)) (ty := (.array .byte)) (by decide) rfl rfl (g := (mkF m 14 #[.val (.ref sa), .val (.ref ca), .val (.int (0 : Int32)), .val (.int (0 : Int32)), .val .null, .unset] [(.ref b2), (.ref sa)])) rfl rfl (hb hby d3_14)
  have CR15 : CHr Z own_EL s.vm h0 T2.vm h14 := CHr.trans CR3 (CHr.wr W14 SF4 CR3.1)
  have SF16 : Safe Z own_EL T2.vm h14 sa := Safe.wr W14 SF4 CR3.1 SF4
  refine Gl.via st14 ?_
  have N14_ := Fr.snoc X14 N0 hp1
  have Z17 : n0 ≤ h14.size := Nat.le_trans Z5 (Keep.of_wr W14).1
  have Y18 : h0.size ≤ h14.size := Nat.le_trans Y6 (Keep.of_wr W14).1
  have hl19 := Nat.le_trans hk2 (Keep.of_wr W14).1
  show Gl p.tables e below T14 (mkF m 17 #[.val (.ref sa), .val (.ref ca), .val (.int (0 : Int32)), .val (.int (0 : Int32)), .val .null, .unset] []) G
  refine Gl.via (fun _ k => XS.aloadN X14.here hx rfl (hb hby d3_17) rfl rfl k) ?_
  show Gl p.tables e below T14 (mkF m 18 #[.val (.ref sa), .val (.ref ca), .val (.int (0 : Int32)), .val (.int (0 : Int32)), .val .null, .unset] [(.ref sa)]) G
  have G21 : Exa Z h14 sa "java/lang/String" := (G13.wr W14)
  obtain ⟨a20, T20, h20, k20, b20, c20, X20, e20, E20, hS20, hk20, hZ20, hown20, P20a, P20c, P20v, P20r, la20, lb20, hC20, -, hsf20, st20⟩ := ldcCH X14 hx hZ2 hown2 (hw _ (List.mem_of_getElem? (i := 18) rfl)) (own_wS hw) e14 hS2 hl19 hEL (by decide) CR15.1 (vs := []) (z := (0 : Int32)) ⟨by decide, rfl⟩ (by decide) rfl (g := (mkF m 18 #[.val (.ref sa), .val (.ref ca), .val (.int (0 : Int32)), .val (.int (0 : Int32)), .val .null, .unset] [(.ref sa)])) rfl (hb hby d3_18) (n := 0) (by decide) (by decide) (by decide) (by decide)
  have CR22 : CHr Z own_EL s.vm h0 T20.vm h20 := CHr.trans CR15 hC20
  have SF23 : Safe Z own_EL T20.vm h20 sa := hC20.safe (by have q := G21.lt; exact q) SF16
  refine Gl.via st20 ?_
  have Z24 : n0 ≤ h20.size := Nat.le_trans Z17 E20.1
  have Y25 : h0.size ≤ h20.size := Nat.le_trans Y18 E20.1
  have hl26 := Nat.le_trans hl19 E20.1
  have ne27 : sa ≠ a20 ∧ sa ≠ b20 := hsf20 sa SF23
  have G28 : Arv Z h20 ca ck .char (0 : Int32) [] (.int (0 : Int32)) := ((G9.other W14 (Ne.symm hp2)).ext E20)
  have ne29 : ca ≠ a20 ∧ ca ≠ b20 := hsf20 ca (Safe.arv hZ20.alike G28 (by decide))
  show Gl p.tables e below T20 (mkF m 20 #[.val (.ref sa), .val (.ref ca), .val (.int (0 : Int32)), .val (.int (0 : Int32)), .val .null, .unset] [(.ref a20), (.ref sa)]) G
  obtain ⟨T30, X30, e30, st30⟩ := getF X20 hx hZ20 hown20 (host := "") (Or.inl (hw _ (List.mem_of_getElem? (i := 25) rfl))) Via.refl e20 P20c (g := (mkF m 20 #[.val (.ref sa), .val (.ref ca), .val (.int (0 : Int32)), .val (.int (0 : Int32)), .val .null, .unset] [(.ref a20), (.ref sa)])) rfl rfl (hb hby d3_20)
  refine Gl.via st30 ?_
  show Gl p.tables e below T30 (mkF m 23 #[.val (.ref sa), .val (.ref ca), .val (.int (0 : Int32)), .val (.int (0 : Int32)), .val .null, .unset] [(.int (0 : Int32)), (.ref sa)]) G
  have G31 : Fld Z h20 sa "java/lang/String" "coder" "B" u2 := (((F2_sa_coder.ext E2).other W14 (Or.inr (slot_ne (Or.inr (hw _ (List.mem_of_getElem? (i := 21) rfl))) (Or.inr (hw _ (List.mem_of_getElem? (i := 20) rfl))) (by decide) (t := .byte) (t' := (.array .byte)) (by decide) (by decide)))).ext E20)
  have G32 : Exa Z h20 sa "java/lang/String" := (G21.ext E20)
  obtain ⟨T33, h33, X33, e33, W33, st33⟩ := putFN X30 hx hZ20 hown20 (hw _ (List.mem_of_getElem? (i := 25) rfl)) Via.refl e30 G31 G32 (Or.inr ⟨(hw _ (List.mem_of_getElem? (i := 21) rfl)), rfl, hnm⟩) (hw _ (List.mem_of_getElem? (i := 5) rfl)) (ty := .byte) (v' := (.int (0 : Int32))) (by decide) rfl (by decide) (g := (mkF m 23 #[.val (.ref sa), .val (.ref ca), .val (.int (0 : Int32)), .val (.int (0 : Int32)), .val .null, .unset] [(.int (0 : Int32)), (.ref sa)])) rfl rfl (hb hby d3_23)
  have CR34 : CHr Z own_EL s.vm h0 T20.vm h33 := CHr.trans CR22 (CHr.wr W33 SF23 CR22.1)
  have SF35 : Safe Z own_EL T20.vm h33 sa := Safe.wr W33 SF23 CR22.1 SF23
  refine Gl.via st33 ?_
  have N33_ := Fr.snoc X33 N14_ hp1
  have Z36 : n0 ≤ h33.size := Nat.le_trans Z24 (Keep.of_wr W33).1
  have Y37 : h0.size ≤ h33.size := Nat.le_trans Y25 (Keep.of_wr W33).1
  have hl38 := Nat.le_trans hk20 (Keep.of_wr W33).1
  show Gl p.tables e below T33 (mkF m 26 #[.val (.ref sa), .val (.ref ca), .val (.int (0 : Int32)), .val (.int (0 : Int32)), .val .null, .unset] []) G
  obtain ⟨fs, hr, hrun, hended, hRW⟩ := X33.leaveW hS20 (by rw [e33]; exact hl38) (v := none) (fun _ => rfl)
  have G39 : Exa Z h33 sa "java/lang/String" := (G32.wr W33)
  have G40 : Fld Z h33 sa "java/lang/String" "value" "[B" (.ref b2) := (((Fld.same W14 G12).ext E20).other W33 (Or.inr (slot_ne (Or.inr (hw _ (List.mem_of_getElem? (i := 20) rfl))) (Or.inr (hw _ (List.mem_of_getElem? (i := 21) rfl))) (by decide) (t := (.array .byte)) (t' := .byte) (by decide) (by decide))))
  have G41 : Arv Z h33 b2 c2 .byte (0 : Int32) [] (.int (0 : Int32)) := (((P2r.other W14 (Ne.symm ne8.2)).ext E20).other W33 (Ne.symm ne8.2))
  have hq : ∀ L, Fr n0 L → Q_si4_0 Z sa u1 u2 ca ck cps h0 n0 (none) T33.heap L := by
    intro L hN
    rw [e33]
    exact ⟨b2, c2, rfl, hN, (((((Keep.refl h0 [sa]).ext E2).wr W14 (Or.inl (List.mem_of_getElem? (i := 0) rfl))).ext E20).wr W33 (Or.inl (List.mem_of_getElem? (i := 0) rfl))), G39, (Fld.same W33 G31), G40, G41⟩
  have hc : CHr Z own_EL s.vm s.heap T33.vm T33.heap := by
    rw [hh, e33]
    exact CHr.trans CR34 (CHv.at X33 hZ20 hEL CR34.1)
  rw [hG]
  exact Gl.fin (X33.returnOut hx Bd.returns (hb hby d3_26) hr) ⟨_, hrun, hended, _, _, rfl, hq _ N33_, hc, ⟨hRW.1, hRW.2.1, hRW.2.2.1, hRW.2.2.2.mono (by decide) (by decide)⟩⟩
theorem d2_0 : decode jdk_42_method_3_code 0 = .ok (.aload_n 0, 1) := by decide +kernel
theorem d2_1 : decode jdk_42_method_3_code 1 = .ok (.aload_n 1, 1) := by decide +kernel
theorem d2_2 : decode jdk_42_method_3_code 2 = .ok (.iconst 0, 1) := by decide +kernel
theorem d2_3 : decode jdk_42_method_3_code 3 = .ok (.aload_n 1, 1) := by decide +kernel
theorem d2_4 : decode jdk_42_method_3_code 4 = .ok (.arraylength, 1) := by decide +kernel
theorem d2_5 : decode jdk_42_method_3_code 5 = .ok (.aconst_null, 1) := by decide +kernel
theorem d2_6 : decode jdk_42_method_3_code 6 = .ok (.invokespecial 27, 3) := by decide +kernel
theorem pd_16 : parseMethodDescriptor "([CIILjava/lang/Void;)V" = some ⟨[(.array .char), .int, .int, (.object "java/lang/Void")], none⟩ := by decide +kernel
theorem d2_9 : decode jdk_42_method_3_code 9 = .ok (.return_, 1) := by decide +kernel
theorem ef_si1_0 (m : MethodId) (x0 : Addr) (x1 : Addr) : entryFrame m #[(.ref x0), (.ref x1)] 2 = mkF m 0 #[.val (.ref x0), .val (.ref x1)] [] := by first | (simp [entryFrame, mkF, argsToLocals, Value.category]; done) | rfl | (simp [entryFrame, mkF, argsToLocals, own_catI, own_catR, *]; done)
def Q_si1_0 (Z : State) (sa : Addr) (u1 : Value) (u2 : Value) (ca : Addr) (ck : ClassId) (cps : Int32) (h0 : Heap) (n0 : Nat) (v : Option Value) (h : Heap) (L : List Loc) : Prop := ∃ (sb : Addr), ∃ (sk : ClassId), v = none ∧ Fr n0 L ∧ Keep h0 h [sa] ∧ Exa Z h sa "java/lang/String" ∧ Fld Z h sa "java/lang/String" "coder" "B" (.int (0 : Int32)) ∧ Fld Z h sa "java/lang/String" "value" "[B" (.ref sb) ∧ Arv Z h sb sk .byte (own_ln ([] : List Int32)) (([] : List Int32).map Value.int) (.int (0 : Int32))
set_option maxRecDepth 65536 in
set_option maxHeartbeats 40000000 in
theorem si1_0 (l : Launch) (Z : State) (a0 : Array Value) (hw : ∀ d ∈ tables_1, d.before a0 Z = true) (ws : List Jvm.Cond) (sa : Addr) (u1 : Value) (u2 : Value) (ca : Addr) (ck : ClassId) (cps : Int32) (h0 : Heap) (n0 : Nat) (Z0 : n0 ≤ h0.size) (F0_sa : Exa Z h0 sa "java/lang/String") (F1_sa_value : Fld Z h0 sa "java/lang/String" "value" "[B" u1) (F2_sa_coder : Fld Z h0 sa "java/lang/String" "coder" "B" u2) (F3_ca : Arv Z h0 ca ck .char (0 : Int32) [] (.int (0 : Int32))) (F4_java_lang_String : Sta Z Z.heap "java/lang/String" "COMPACT_STRINGS" "Z" (.int cps)) (F5_ : Old Z n0 h0) (hcps : ¬ (cps = (0 : Int32))) (hp1 : n0 ≤ sa) (hp2 : sa ≠ ca) :
    MetFree l (⟨"java/lang/String", "<init>", "([C)V"⟩ : MethodName) (head1 (Jvm.Cond.code (⟨"java/lang/String", "<init>", "([C)V"⟩ : MethodName) jdk_42_method_3_code 2 none :: ws) ({ frames := 2, cells := 4, slots := 8, locals := 29 } : Room)) (fun a U => a = #[(.ref sa), (.ref ca)] ∧ Z.Warmed39 U.vm ∧ U.heap = h0 ∧ CHv Z own_EL U.vm h0 ∧ ∀ x ∈ ([sa] : List Addr), Safe Z own_EL U.vm h0 x) (fun _ _ _ _ _ => True) (fun _ U o U' => ∃ v L, o = .returned v ∧ Q_si1_0 Z sa u1 u2 ca ck cps h0 n0 v U'.heap L ∧ CHr Z own_EL U.vm U.heap U'.vm U'.heap ∧ ReturnedEndW U o U' L ({ frames := 2, cells := 4, slots := 8, locals := 29 } : Room).cells ({ frames := 2, cells := 4, slots := 8, locals := 29 } : Room).slots) := by
  refine MetFree.of_bodySF (plainFor_of_name pn_0) hisR ?_
  intro p e s m args below meth c s₁ Bd hml0 hP hK
  obtain ⟨rfl, hZ, hh, hCH, hSF⟩ := hP
  have hx := Bd.exec
  have hby := Bd.bytes
  have hml : c.maxLocals = 2 := hml0
  have hown : s.vm.findClass "java/lang/String" = some m.cls := findClass_of_methodNamed Bd.named
  have hnm := (name_of_methodNamed Bd.named Bd.method).1
  have X0 : Stand p l e ({ frames := 2, cells := 4, slots := 8, locals := 29 } : Room) (s.setVm s.vm) m #[(.ref sa), (.ref ca)] below meth c s₁ [] 0 0 := Stand.of_body Bd
  have e0 : s₁.heap = h0 := by rw [← hh, Bd.state]; rfl
  have N0 := Fr.nil n0
  have hS0 : s.Since s.vm 0 := (State.WarmedH.refl s).since 0
  have hk0 : 0 ≤ h0.size := Nat.zero_le _
  have hEL := own_ew hw
  have CR0 : CHr Z own_EL s.vm h0 s.vm h0 := CHr.refl hCH
  obtain ⟨G, hG⟩ : ∃ G : State → Prop, G = (fun U' => ∃ o, U'.status = .running ∧ Ended U' below o ∧ ∃ v L, o = .returned v ∧ Q_si1_0 Z sa u1 u2 ca ck cps h0 n0 v U'.heap L ∧ CHr Z own_EL s.vm s.heap U'.vm U'.heap ∧ ReturnedEndW s o U' L ({ frames := 2, cells := 4, slots := 8, locals := 29 } : Room).cells ({ frames := 2, cells := 4, slots := 8, locals := 29 } : Room).slots) := ⟨_, rfl⟩
  suffices key : Gl p.tables e below s₁ (mkF m 0 #[.val (.ref sa), .val (.ref ca)] []) G by
    obtain ⟨s₂, k1, k2⟩ := key
    rw [hG] at k2
    obtain ⟨o, k3, k4, k5⟩ := k2
    exact ⟨s₂, o, castTop (ef_si1_0 m sa ca) k1, k3, k4, k5⟩
  show Gl p.tables e below s₁ (mkF m 0 #[.val (.ref sa), .val (.ref ca)] []) G
  refine Gl.via (fun _ k => XS.aloadN X0.here hx rfl (hb hby d2_0) rfl rfl k) ?_
  show Gl p.tables e below s₁ (mkF m 1 #[.val (.ref sa), .val (.ref ca)] [(.ref sa)]) G
  refine Gl.via (fun _ k => XS.aloadN X0.here hx rfl (hb hby d2_1) rfl rfl k) ?_
  show Gl p.tables e below s₁ (mkF m 2 #[.val (.ref sa), .val (.ref ca)] [(.ref ca), (.ref sa)]) G
  refine Gl.via (fun _ k => XS.iconst X0.here hx rfl (hb hby d2_2) k) ?_
  show Gl p.tables e below s₁ (mkF m 3 #[.val (.ref sa), .val (.ref ca)] [(.int (0 : Int32)), (.ref ca), (.ref sa)]) G
  refine Gl.via (fun _ k => XS.aloadN X0.here hx rfl (hb hby d2_3) rfl rfl k) ?_
  show Gl p.tables e below s₁ (mkF m 4 #[.val (.ref sa), .val (.ref ca)] [(.ref ca), (.int (0 : Int32)), (.ref ca), (.ref sa)]) G
  obtain ⟨cl1, Ar1, -, S1, N1, -, -⟩ := id F3_ca
  refine Gl.via (fun _ k => X0.arraylength hx (by rw [e0]; exact Ar1.1) (State.isArrayOf_alike hZ.alike Ar1.2.1) (g := (mkF m 4 #[.val (.ref sa), .val (.ref ca)] [(.ref ca), (.int (0 : Int32)), (.ref ca), (.ref sa)])) rfl rfl (hb hby d2_4) _ k) ?_
  rw [len_of S1 N1]
  show Gl p.tables e below s₁ (mkF m 5 #[.val (.ref sa), .val (.ref ca)] [(.int (0 : Int32)), (.int (0 : Int32)), (.ref ca), (.ref sa)]) G
  refine Gl.via (fun _ k => XS.aconstNull X0.here hx rfl (hb hby d2_5) k) ?_
  show Gl p.tables e below s₁ (mkF m 6 #[.val (.ref sa), .val (.ref ca)] [.null, (.int (0 : Int32)), (.int (0 : Int32)), (.ref ca), (.ref sa)]) G
  obtain ⟨_, _, ⟨T2, L2, k2, n2⟩, -, Xb2, hSb2, hgb2, ⟨Lc2, hQ2, l2, y2, z2, hC2⟩, st2⟩ := X0.specialBackS hx (y := (⟨"java/lang/String", "<init>", "([CIILjava/lang/Void;)V"⟩ : MethodName)) rfl hown (mvT hZ (hw _ (List.mem_of_getElem? (i := 11) rfl))) (mvT hZ (hw _ (List.mem_of_getElem? (i := 12) rfl))) (mvT hZ (hw _ (List.mem_of_getElem? (i := 14) rfl))) (by decide) (own_back (W := 0) (si4_0 l Z a0 hw [] sa u1 u2 ca ck cps h0 n0 Z0 F0_sa F1_sa_value F2_sa_coder F3_ca F4_java_lang_String F5_ hcps hp1 hp2) hZ (hw _ (List.mem_of_getElem? (i := 14) rfl)) (hw _ (List.mem_of_getElem? (i := 6) rfl)) (by decide) (by decide) hEL CR0.1 (own_xs ⟨(hSF sa (List.mem_of_getElem? (i := 0) rfl)), F0_sa.lt⟩ (fun _ z => nomatch z))) (g := (mkF m 6 #[.val (.ref sa), .val (.ref ca)] [.null, (.int (0 : Int32)), (.int (0 : Int32)), (.ref ca), (.ref sa)])) rfl (by rw [hml]; rfl) (Steps.refl _) (a := sa) (argsL := [(.ref ca), (.int (0 : Int32)), (.int (0 : Int32)), .null]) (rest := []) (lenOf pd_16 rfl) rfl (by show 2 * 0 + _ ≤ _; exact Nat.le_of_eq rfl) (hb hby d2_6) (fun _ _ => ⟨rfl, e0, (by decide : 0 + 4 ≤ _), (by decide : 0 + 8 ≤ _)⟩)
  dsimp only [Pt.U, Pt.locs, Pt.cells, Pt.slots] at Xb2 hSb2 hgb2 l2 y2 z2 st2 hQ2 hC2
  subst l2 y2 z2
  obtain ⟨X2, hS2, hZ2, hown2⟩ := rebS hS0 (by rw [e0]; exact hk0) Xb2 hSb2 hgb2 hZ hown
  have hk2 : T2.heap.size ≤ T2.heap.size := Nat.le_refl _
  obtain ⟨sb_2, sk_2, rfl, N2q, K2, P3, P4, P5, P6⟩ := hQ2
  have N2_ := Fr.app N0 N2q
  refine Gl.via (fun _ k => st2.trans k) ?_
  have CR7 : CHr Z own_EL s.vm h0 T2.vm T2.heap := CHr.trans CR0 hC2
  have SF8 : Safe Z own_EL T2.vm T2.heap sa := hC2.safe (by have q := F0_sa.lt; exact q) (hSF sa (List.mem_of_getElem? (i := 0) rfl))
  have Z9 : n0 ≤ T2.heap.size := Nat.le_trans Z0 K2.1
  have Y10 : h0.size ≤ T2.heap.size := Nat.le_trans (Nat.le_refl h0.size) K2.1
  have hl11 := Nat.le_trans hk0 K2.1
  show Gl p.tables e below T2 (mkF m 9 #[.val (.ref sa), .val (.ref ca)] []) G
  obtain ⟨fs, hr, hrun, hended, hRW⟩ := X2.leaveW hS2 hk2 (v := none) (fun _ => rfl)
  have hq : ∀ L, Fr n0 L → Q_si1_0 Z sa u1 u2 ca ck cps h0 n0 (none) T2.heap L := by
    intro L hN
    exact ⟨sb_2, sk_2, rfl, hN, ((Keep.refl h0 [sa]).trans K2 (allS (Or.inl (List.mem_of_getElem? (i := 0) rfl)) all0)), P3, P4, P5, P6⟩
  have hc : CHr Z own_EL s.vm s.heap T2.vm T2.heap := by
    rw [hh]
    exact CHr.trans CR7 (CHv.at X2 hZ2 hEL CR7.1)
  rw [hG]
  exact Gl.fin (X2.returnOut hx Bd.returns (hb hby d2_9) hr) ⟨_, hrun, hended, _, _, rfl, hq _ N2_, hc, ⟨hRW.1, hRW.2.1, hRW.2.2.1, hRW.2.2.2.mono (by decide) (by decide)⟩⟩
theorem pn_6 : plainName "java/lang/StringUTF16" = true := by first | (simp [plainName, overriddenIn]; done) | decide +kernel
theorem d6_0 : decode jdk_52_method_21_code 0 = .ok (.iconst 0, 1) := by decide +kernel
theorem d6_1 : decode jdk_52_method_21_code 1 = .ok (.istore 5, 2) := by decide +kernel
theorem d6_3 : decode jdk_52_method_21_code 3 = .ok (.iload 5, 2) := by decide +kernel
theorem d6_5 : decode jdk_52_method_21_code 5 = .ok (.iload 4, 2) := by decide +kernel
theorem d6_7 : decode jdk_52_method_21_code 7 = .ok (.if_icmp .ge 37, 3) := by decide +kernel
theorem d6_10 : decode jdk_52_method_21_code 10 = .ok (.aload_n 0, 1) := by decide +kernel
theorem d6_11 : decode jdk_52_method_21_code 11 = .ok (.iload_n 1, 1) := by decide +kernel
theorem d6_12 : decode jdk_52_method_21_code 12 = .ok (.caload, 1) := by decide +kernel
theorem d6_13 : decode jdk_52_method_21_code 13 = .ok (.istore 6, 2) := by decide +kernel
theorem d6_15 : decode jdk_52_method_21_code 15 = .ok (.iload 6, 2) := by decide +kernel
theorem d6_17 : decode jdk_52_method_21_code 17 = .ok (.sipush 255, 3) := by decide +kernel
theorem d6_20 : decode jdk_52_method_21_code 20 = .ok (.if_icmp .le 6, 3) := by decide +kernel
theorem d6_26 : decode jdk_52_method_21_code 26 = .ok (.aload_n 2, 1) := by decide +kernel
theorem d6_27 : decode jdk_52_method_21_code 27 = .ok (.iload_n 3, 1) := by decide +kernel
theorem d6_28 : decode jdk_52_method_21_code 28 = .ok (.iload 6, 2) := by decide +kernel
theorem d6_30 : decode jdk_52_method_21_code 30 = .ok (.i2b, 1) := by decide +kernel
theorem d6_31 : decode jdk_52_method_21_code 31 = .ok (.bastore, 1) := by decide +kernel
theorem d6_32 : decode jdk_52_method_21_code 32 = .ok (.iinc 1 1, 3) := by decide +kernel
theorem d6_35 : decode jdk_52_method_21_code 35 = .ok (.iinc 3 1, 3) := by decide +kernel
theorem d6_38 : decode jdk_52_method_21_code 38 = .ok (.iinc 5 1, 3) := by decide +kernel
theorem d6_41 : decode jdk_52_method_21_code 41 = .ok (.goto (-38), 3) := by decide +kernel
theorem d6_44 : decode jdk_52_method_21_code 44 = .ok (.iload 4, 2) := by decide +kernel
theorem d6_46 : decode jdk_52_method_21_code 46 = .ok (.ireturn, 1) := by decide +kernel
theorem ef_u5_2 (m : MethodId) (x0 : Addr) (x1 : Int32) (x2 : Addr) (x3 : Int32) (x4 : Int32) : entryFrame m #[(.ref x0), (.int x1), (.ref x2), (.int x3), (.int x4)] 7 = mkF m 0 #[.val (.ref x0), .val (.int x1), .val (.ref x2), .val (.int x3), .val (.int x4), .unset, .unset] [] := by first | (simp [entryFrame, mkF, argsToLocals, Value.category]; done) | rfl | (simp [entryFrame, mkF, argsToLocals, own_catI, own_catR, *]; done)
def Q_u5_2 (Z : State) (ca : Addr) (ck : ClassId) (db : Addr) (dk : ClassId) (c0 : Int32) (c1 : Int32) (h0 : Heap) (n0 : Nat) (v : Option Value) (h : Heap) (L : List Loc) : Prop := v = some (.int (2 : Int32)) ∧ Fr n0 L ∧ Keep h0 h [db] ∧ Arv Z h db dk .byte (2 : Int32) [(.int (c0.toInt8.toInt32)), (.int (c1.toInt8.toInt32))] (.int (0 : Int32))
set_option maxRecDepth 65536 in
set_option maxHeartbeats 40000000 in
theorem u5_2 (l : Launch) (Z : State) (a0 : Array Value) (hw : ∀ d ∈ tables_1, d.before a0 Z = true) (ws : List Jvm.Cond) (ca : Addr) (ck : ClassId) (db : Addr) (dk : ClassId) (c0 : Int32) (c1 : Int32) (h0 : Heap) (n0 : Nat) (Z0 : n0 ≤ h0.size) (F0_ca : Arv Z h0 ca ck .char (2 : Int32) [(.int c0), (.int c1)] (.int (0 : Int32))) (F1_db : Arv Z h0 db dk .byte (2 : Int32) [(.int (0 : Int32)), (.int (0 : Int32))] (.int (0 : Int32))) (hc0 : ¬ ((255 : Int32) < c0)) (hc1 : ¬ ((255 : Int32) < c1)) (hp2 : n0 ≤ db) (hp3 : ca ≠ db) :
    MetFree l (⟨"java/lang/StringUTF16", "compress", "([CI[BII)I"⟩ : MethodName) (head1 (Jvm.Cond.code (⟨"java/lang/StringUTF16", "compress", "([CI[BII)I"⟩ : MethodName) jdk_52_method_21_code 7 (some .int) :: ws) ({ frames := 0, cells := 0, slots := 0, locals := 0 } : Room)) (fun a U => a = #[(.ref ca), (.int (0 : Int32)), (.ref db), (.int (0 : Int32)), (.int (2 : Int32))] ∧ Z.Warmed39 U.vm ∧ U.heap = h0) (fun _ _ _ _ _ => True) (fun _ U o U' => ∃ v L, o = .returned v ∧ Q_u5_2 Z ca ck db dk c0 c1 h0 n0 v U'.heap L ∧ FrameEnd U o U' L ({ frames := 0, cells := 0, slots := 0, locals := 0 } : Room).cells ({ frames := 0, cells := 0, slots := 0, locals := 0 } : Room).slots) := by
  refine MetFree.of_bodySF (plainFor_of_name pn_6) hisR ?_
  intro p e s m args below meth c s₁ Bd hml0 hP hK
  obtain ⟨rfl, hZ, hh⟩ := hP
  have hx := Bd.exec
  have hby := Bd.bytes
  have hml : c.maxLocals = 7 := hml0
  have hown : s.vm.findClass "java/lang/StringUTF16" = some m.cls := findClass_of_methodNamed Bd.named
  have hnm := (name_of_methodNamed Bd.named Bd.method).1
  have X0 : Stand p l e ({ frames := 0, cells := 0, slots := 0, locals := 0 } : Room) s m #[(.ref ca), (.int (0 : Int32)), (.ref db), (.int (0 : Int32)), (.int (2 : Int32))] below meth c s₁ [] 0 0 := Stand.of_body Bd
  have e0 : s₁.heap = h0 := by rw [← hh, Bd.state]; rfl
  have N0 := Fr.nil n0
  obtain ⟨G, hG⟩ : ∃ G : State → Prop, G = (fun U' => ∃ o, U'.status = .running ∧ Ended U' below o ∧ ∃ v L, o = .returned v ∧ Q_u5_2 Z ca ck db dk c0 c1 h0 n0 v U'.heap L ∧ FrameEnd s o U' L ({ frames := 0, cells := 0, slots := 0, locals := 0 } : Room).cells ({ frames := 0, cells := 0, slots := 0, locals := 0 } : Room).slots) := ⟨_, rfl⟩
  suffices key : Gl p.tables e below s₁ (mkF m 0 #[.val (.ref ca), .val (.int (0 : Int32)), .val (.ref db), .val (.int (0 : Int32)), .val (.int (2 : Int32)), .unset, .unset] []) G by
    obtain ⟨s₂, k1, k2⟩ := key
    rw [hG] at k2
    obtain ⟨o, k3, k4, k5⟩ := k2
    exact ⟨s₂, o, castTop (ef_u5_2 m ca (0 : Int32) db (0 : Int32) (2 : Int32)) k1, k3, k4, k5⟩
  show Gl p.tables e below s₁ (mkF m 0 #[.val (.ref ca), .val (.int (0 : Int32)), .val (.ref db), .val (.int (0 : Int32)), .val (.int (2 : Int32)), .unset, .unset] []) G
  refine Gl.via (fun _ k => XS.iconst X0.here hx rfl (hb hby d6_0) k) ?_
  show Gl p.tables e below s₁ (mkF m 1 #[.val (.ref ca), .val (.int (0 : Int32)), .val (.ref db), .val (.int (0 : Int32)), .val (.int (2 : Int32)), .unset, .unset] [(.int (0 : Int32))]) G
  refine Gl.via (fun _ k => XS.istore X0.here hx rfl (hb hby d6_1) rfl (l' := #[.val (.ref ca), .val (.int (0 : Int32)), .val (.ref db), .val (.int (0 : Int32)), .val (.int (2 : Int32)), .val (.int (0 : Int32)), .unset]) rfl k) ?_
  show Gl p.tables e below s₁ (mkF m 3 #[.val (.ref ca), .val (.int (0 : Int32)), .val (.ref db), .val (.int (0 : Int32)), .val (.int (2 : Int32)), .val (.int (0 : Int32)), .unset] []) G
  refine Gl.via (fun _ k => XS.iload X0.here hx rfl (hb hby d6_3) rfl k) ?_
  show Gl p.tables e below s₁ (mkF m 5 #[.val (.ref ca), .val (.int (0 : Int32)), .val (.ref db), .val (.int (0 : Int32)), .val (.int (2 : Int32)), .val (.int (0 : Int32)), .unset] [(.int (0 : Int32))]) G
  refine Gl.via (fun _ k => XS.iload X0.here hx rfl (hb hby d6_5) rfl k) ?_
  show Gl p.tables e below s₁ (mkF m 7 #[.val (.ref ca), .val (.int (0 : Int32)), .val (.ref db), .val (.int (0 : Int32)), .val (.int (2 : Int32)), .val (.int (0 : Int32)), .unset] [(.int (2 : Int32)), (.int (0 : Int32))]) G
  refine Gl.via (fun _ k => XS.icmpNo X0.here hx rfl (hb hby d6_7) rfl (tlt (by decide)).2.1 k) ?_
  show Gl p.tables e below s₁ (mkF m 10 #[.val (.ref ca), .val (.int (0 : Int32)), .val (.ref db), .val (.int (0 : Int32)), .val (.int (2 : Int32)), .val (.int (0 : Int32)), .unset] []) G
  refine Gl.via (fun _ k => XS.aloadN X0.here hx rfl (hb hby d6_10) rfl rfl k) ?_
  show Gl p.tables e below s₁ (mkF m 11 #[.val (.ref ca), .val (.int (0 : Int32)), .val (.ref db), .val (.int (0 : Int32)), .val (.int (2 : Int32)), .val (.int (0 : Int32)), .unset] [(.ref ca)]) G
  refine Gl.via (fun _ k => XS.iloadN X0.here hx rfl (hb hby d6_11) rfl k) ?_
  show Gl p.tables e below s₁ (mkF m 12 #[.val (.ref ca), .val (.int (0 : Int32)), .val (.ref db), .val (.int (0 : Int32)), .val (.int (2 : Int32)), .val (.int (0 : Int32)), .unset] [(.int (0 : Int32)), (.ref ca)]) G
  obtain ⟨cl1, Ar1, q1, S1, N1, H1, G1⟩ := id F0_ca
  have hin1 : ¬ ((0 : Int32) < 0 ∨ cl1.slots.size ≤ ((0 : Int32)).toNatClampNeg) := inb_of S1 ⟨by decide, by decide⟩
  refine Gl.via (fun _ k => X0.caload hx (j := (0 : Int32)) (v := (.int c0)) (by rw [e0]; exact Ar1.1) (State.isArrayOf_alike hZ.alike Ar1.2.1) Ar1.2.2 hin1 (Has.at H1 hin1 rfl) (g := (mkF m 12 #[.val (.ref ca), .val (.int (0 : Int32)), .val (.ref db), .val (.int (0 : Int32)), .val (.int (2 : Int32)), .val (.int (0 : Int32)), .unset] [(.int (0 : Int32)), (.ref ca)])) rfl rfl (hb hby d6_12) _ k) ?_
  show Gl p.tables e below s₁ (mkF m 13 #[.val (.ref ca), .val (.int (0 : Int32)), .val (.ref db), .val (.int (0 : Int32)), .val (.int (2 : Int32)), .val (.int (0 : Int32)), .unset] [(.int c0)]) G
  refine Gl.via (fun _ k => XS.istore X0.here hx rfl (hb hby d6_13) rfl (l' := #[.val (.ref ca), .val (.int (0 : Int32)), .val (.ref db), .val (.int (0 : Int32)), .val (.int (2 : Int32)), .val (.int (0 : Int32)), .val (.int c0)]) rfl k) ?_
  show Gl p.tables e below s₁ (mkF m 15 #[.val (.ref ca), .val (.int (0 : Int32)), .val (.ref db), .val (.int (0 : Int32)), .val (.int (2 : Int32)), .val (.int (0 : Int32)), .val (.int c0)] []) G
  refine Gl.via (fun _ k => XS.iload X0.here hx rfl (hb hby d6_15) rfl k) ?_
  show Gl p.tables e below s₁ (mkF m 17 #[.val (.ref ca), .val (.int (0 : Int32)), .val (.ref db), .val (.int (0 : Int32)), .val (.int (2 : Int32)), .val (.int (0 : Int32)), .val (.int c0)] [(.int c0)]) G
  refine Gl.via (fun _ k => XS.sipush X0.here hx rfl (hb hby d6_17) k) ?_
  show Gl p.tables e below s₁ (mkF m 20 #[.val (.ref ca), .val (.int (0 : Int32)), .val (.ref db), .val (.int (0 : Int32)), .val (.int (2 : Int32)), .val (.int (0 : Int32)), .val (.int c0)] [(.int (255 : Int32)), (.int c0)]) G
  refine Gl.via (fun _ k => XS.icmpYes X0.here hx rfl (pc0 := 20) (pc' := 26) rfl (hb hby d6_20) rfl (flt hc0).2.2.2 (by decide) (by decide) k) ?_
  show Gl p.tables e below s₁ (mkF m 26 #[.val (.ref ca), .val (.int (0 : Int32)), .val (.ref db), .val (.int (0 : Int32)), .val (.int (2 : Int32)), .val (.int (0 : Int32)), .val (.int c0)] []) G
  refine Gl.via (fun _ k => XS.aloadN X0.here hx rfl (hb hby d6_26) rfl rfl k) ?_
  show Gl p.tables e below s₁ (mkF m 27 #[.val (.ref ca), .val (.int (0 : Int32)), .val (.ref db), .val (.int (0 : Int32)), .val (.int (2 : Int32)), .val (.int (0 : Int32)), .val (.int c0)] [(.ref db)]) G
  refine Gl.via (fun _ k => XS.iloadN X0.here hx rfl (hb hby d6_27) rfl k) ?_
  show Gl p.tables e below s₁ (mkF m 28 #[.val (.ref ca), .val (.int (0 : Int32)), .val (.ref db), .val (.int (0 : Int32)), .val (.int (2 : Int32)), .val (.int (0 : Int32)), .val (.int c0)] [(.int (0 : Int32)), (.ref db)]) G
  refine Gl.via (fun _ k => XS.iload X0.here hx rfl (hb hby d6_28) rfl k) ?_
  show Gl p.tables e below s₁ (mkF m 30 #[.val (.ref ca), .val (.int (0 : Int32)), .val (.ref db), .val (.int (0 : Int32)), .val (.int (2 : Int32)), .val (.int (0 : Int32)), .val (.int c0)] [(.int c0), (.int (0 : Int32)), (.ref db)]) G
  refine Gl.via (fun _ k => XS.i2b X0.here hx rfl (hb hby d6_30) rfl k) ?_
  show Gl p.tables e below s₁ (mkF m 31 #[.val (.ref ca), .val (.int (0 : Int32)), .val (.ref db), .val (.int (0 : Int32)), .val (.int (2 : Int32)), .val (.int (0 : Int32)), .val (.int c0)] [(.int (c0.toInt8.toInt32)), (.int (0 : Int32)), (.ref db)]) G
  obtain ⟨cl2, Ar2, q2, S2, N2, H2, G2⟩ := id F1_db
  have hin2 : ¬ ((0 : Int32) < 0 ∨ cl2.slots.size ≤ ((0 : Int32)).toNatClampNeg) := inb_of S2 ⟨by decide, by decide⟩
  obtain ⟨T2, h2, X2, e2, W2, st2⟩ := stB X0 hx hZ e0 Ar2 (j := (0 : Int32)) hin2 (g := (mkF m 31 #[.val (.ref ca), .val (.int (0 : Int32)), .val (.ref db), .val (.int (0 : Int32)), .val (.int (2 : Int32)), .val (.int (0 : Int32)), .val (.int c0)] [(.int (c0.toInt8.toInt32)), (.int (0 : Int32)), (.ref db)])) rfl rfl (hb hby d6_31)
  refine Gl.via st2 ?_
  have N2_ := Fr.snoc X2 N0 hp2
  have Z3 : n0 ≤ h2.size := Nat.le_trans Z0 (Keep.of_wr W2).1
  have Y4 : h0.size ≤ h2.size := Nat.le_trans (Nat.le_refl h0.size) (Keep.of_wr W2).1
  have V5 : Arv Z h2 db dk .byte (2 : Int32) [(.int (nar .byte (c0.toInt8.toInt32))), (.int (0 : Int32))] (.int (0 : Int32)) := Arv.set Ar2 q2 S2 N2 H2 G2 (fits_nar_byte _) W2 0 rfl (Nat.le_of_ble_eq_true rfl)
  have V6 : Arv Z h2 db dk .byte (2 : Int32) [(.int (c0.toInt8.toInt32)), (.int (0 : Int32))] (.int (0 : Int32)) := by rw [show ((.int (nar .byte (c0.toInt8.toInt32))) : Value) = (.int (c0.toInt8.toInt32)) from (congrArg Value.int (own_bb _))] at V5; exact V5
  show Gl p.tables e below T2 (mkF m 32 #[.val (.ref ca), .val (.int (0 : Int32)), .val (.ref db), .val (.int (0 : Int32)), .val (.int (2 : Int32)), .val (.int (0 : Int32)), .val (.int c0)] []) G
  refine Gl.via (fun _ k => XS.iinc X2.here hx rfl (hb hby d6_32) rfl (l' := #[.val (.ref ca), .val (.int (1 : Int32)), .val (.ref db), .val (.int (0 : Int32)), .val (.int (2 : Int32)), .val (.int (0 : Int32)), .val (.int c0)]) rfl k) ?_
  show Gl p.tables e below T2 (mkF m 35 #[.val (.ref ca), .val (.int (1 : Int32)), .val (.ref db), .val (.int (0 : Int32)), .val (.int (2 : Int32)), .val (.int (0 : Int32)), .val (.int c0)] []) G
  refine Gl.via (fun _ k => XS.iinc X2.here hx rfl (hb hby d6_35) rfl (l' := #[.val (.ref ca), .val (.int (1 : Int32)), .val (.ref db), .val (.int (1 : Int32)), .val (.int (2 : Int32)), .val (.int (0 : Int32)), .val (.int c0)]) rfl k) ?_
  show Gl p.tables e below T2 (mkF m 38 #[.val (.ref ca), .val (.int (1 : Int32)), .val (.ref db), .val (.int (1 : Int32)), .val (.int (2 : Int32)), .val (.int (0 : Int32)), .val (.int c0)] []) G
  refine Gl.via (fun _ k => XS.iinc X2.here hx rfl (hb hby d6_38) rfl (l' := #[.val (.ref ca), .val (.int (1 : Int32)), .val (.ref db), .val (.int (1 : Int32)), .val (.int (2 : Int32)), .val (.int (1 : Int32)), .val (.int c0)]) rfl k) ?_
  show Gl p.tables e below T2 (mkF m 41 #[.val (.ref ca), .val (.int (1 : Int32)), .val (.ref db), .val (.int (1 : Int32)), .val (.int (2 : Int32)), .val (.int (1 : Int32)), .val (.int c0)] []) G
  refine Gl.via (fun _ k => XS.goto X2.here hx rfl (pc0 := 41) (pc' := 3) rfl (hb hby d6_41) (by decide) (by decide) k) ?_
  show Gl p.tables e below T2 (mkF m 3 #[.val (.ref ca), .val (.int (1 : Int32)), .val (.ref db), .val (.int (1 : Int32)), .val (.int (2 : Int32)), .val (.int (1 : Int32)), .val (.int c0)] []) G
  refine Gl.via (fun _ k => XS.iload X2.here hx rfl (hb hby d6_3) rfl k) ?_
  show Gl p.tables e below T2 (mkF m 5 #[.val (.ref ca), .val (.int (1 : Int32)), .val (.ref db), .val (.int (1 : Int32)), .val (.int (2 : Int32)), .val (.int (1 : Int32)), .val (.int c0)] [(.int (1 : Int32))]) G
  refine Gl.via (fun _ k => XS.iload X2.here hx rfl (hb hby d6_5) rfl k) ?_
  show Gl p.tables e below T2 (mkF m 7 #[.val (.ref ca), .val (.int (1 : Int32)), .val (.ref db), .val (.int (1 : Int32)), .val (.int (2 : Int32)), .val (.int (1 : Int32)), .val (.int c0)] [(.int (2 : Int32)), (.int (1 : Int32))]) G
  refine Gl.via (fun _ k => XS.icmpNo X2.here hx rfl (hb hby d6_7) rfl (tlt (by decide)).2.1 k) ?_
  show Gl p.tables e below T2 (mkF m 10 #[.val (.ref ca), .val (.int (1 : Int32)), .val (.ref db), .val (.int (1 : Int32)), .val (.int (2 : Int32)), .val (.int (1 : Int32)), .val (.int c0)] []) G
  refine Gl.via (fun _ k => XS.aloadN X2.here hx rfl (hb hby d6_10) rfl rfl k) ?_
  show Gl p.tables e below T2 (mkF m 11 #[.val (.ref ca), .val (.int (1 : Int32)), .val (.ref db), .val (.int (1 : Int32)), .val (.int (2 : Int32)), .val (.int (1 : Int32)), .val (.int c0)] [(.ref ca)]) G
  refine Gl.via (fun _ k => XS.iloadN X2.here hx rfl (hb hby d6_11) rfl k) ?_
  show Gl p.tables e below T2 (mkF m 12 #[.val (.ref ca), .val (.int (1 : Int32)), .val (.ref db), .val (.int (1 : Int32)), .val (.int (2 : Int32)), .val (.int (1 : Int32)), .val (.int c0)] [(.int (1 : Int32)), (.ref ca)]) G
  have G7 : Arv Z h2 ca ck .char (2 : Int32) [(.int c0), (.int c1)] (.int (0 : Int32)) := (F0_ca.other W2 hp3)
  obtain ⟨cl8, Ar8, q8, S8, N8, H8, G8⟩ := id G7
  have hin8 : ¬ ((1 : Int32) < 0 ∨ cl8.slots.size ≤ ((1 : Int32)).toNatClampNeg) := inb_of S8 ⟨by decide, by decide⟩
  refine Gl.via (fun _ k => X2.caload hx (j := (1 : Int32)) (v := (.int c1)) (by rw [e2]; exact Ar8.1) (State.isArrayOf_alike hZ.alike Ar8.2.1) Ar8.2.2 hin8 (Has.at H8 hin8 rfl) (g := (mkF m 12 #[.val (.ref ca), .val (.int (1 : Int32)), .val (.ref db), .val (.int (1 : Int32)), .val (.int (2 : Int32)), .val (.int (1 : Int32)), .val (.int c0)] [(.int (1 : Int32)), (.ref ca)])) rfl rfl (hb hby d6_12) _ k) ?_
  show Gl p.tables e below T2 (mkF m 13 #[.val (.ref ca), .val (.int (1 : Int32)), .val (.ref db), .val (.int (1 : Int32)), .val (.int (2 : Int32)), .val (.int (1 : Int32)), .val (.int c0)] [(.int c1)]) G
  refine Gl.via (fun _ k => XS.istore X2.here hx rfl (hb hby d6_13) rfl (l' := #[.val (.ref ca), .val (.int (1 : Int32)), .val (.ref db), .val (.int (1 : Int32)), .val (.int (2 : Int32)), .val (.int (1 : Int32)), .val (.int c1)]) rfl k) ?_
  show Gl p.tables e below T2 (mkF m 15 #[.val (.ref ca), .val (.int (1 : Int32)), .val (.ref db), .val (.int (1 : Int32)), .val (.int (2 : Int32)), .val (.int (1 : Int32)), .val (.int c1)] []) G
  refine Gl.via (fun _ k => XS.iload X2.here hx rfl (hb hby d6_15) rfl k) ?_
  show Gl p.tables e below T2 (mkF m 17 #[.val (.ref ca), .val (.int (1 : Int32)), .val (.ref db), .val (.int (1 : Int32)), .val (.int (2 : Int32)), .val (.int (1 : Int32)), .val (.int c1)] [(.int c1)]) G
  refine Gl.via (fun _ k => XS.sipush X2.here hx rfl (hb hby d6_17) k) ?_
  show Gl p.tables e below T2 (mkF m 20 #[.val (.ref ca), .val (.int (1 : Int32)), .val (.ref db), .val (.int (1 : Int32)), .val (.int (2 : Int32)), .val (.int (1 : Int32)), .val (.int c1)] [(.int (255 : Int32)), (.int c1)]) G
  refine Gl.via (fun _ k => XS.icmpYes X2.here hx rfl (pc0 := 20) (pc' := 26) rfl (hb hby d6_20) rfl (flt hc1).2.2.2 (by decide) (by decide) k) ?_
  show Gl p.tables e below T2 (mkF m 26 #[.val (.ref ca), .val (.int (1 : Int32)), .val (.ref db), .val (.int (1 : Int32)), .val (.int (2 : Int32)), .val (.int (1 : Int32)), .val (.int c1)] []) G
  refine Gl.via (fun _ k => XS.aloadN X2.here hx rfl (hb hby d6_26) rfl rfl k) ?_
  show Gl p.tables e below T2 (mkF m 27 #[.val (.ref ca), .val (.int (1 : Int32)), .val (.ref db), .val (.int (1 : Int32)), .val (.int (2 : Int32)), .val (.int (1 : Int32)), .val (.int c1)] [(.ref db)]) G
  refine Gl.via (fun _ k => XS.iloadN X2.here hx rfl (hb hby d6_27) rfl k) ?_
  show Gl p.tables e below T2 (mkF m 28 #[.val (.ref ca), .val (.int (1 : Int32)), .val (.ref db), .val (.int (1 : Int32)), .val (.int (2 : Int32)), .val (.int (1 : Int32)), .val (.int c1)] [(.int (1 : Int32)), (.ref db)]) G
  refine Gl.via (fun _ k => XS.iload X2.here hx rfl (hb hby d6_28) rfl k) ?_
  show Gl p.tables e below T2 (mkF m 30 #[.val (.ref ca), .val (.int (1 : Int32)), .val (.ref db), .val (.int (1 : Int32)), .val (.int (2 : Int32)), .val (.int (1 : Int32)), .val (.int c1)] [(.int c1), (.int (1 : Int32)), (.ref db)]) G
  refine Gl.via (fun _ k => XS.i2b X2.here hx rfl (hb hby d6_30) rfl k) ?_
  show Gl p.tables e below T2 (mkF m 31 #[.val (.ref ca), .val (.int (1 : Int32)), .val (.ref db), .val (.int (1 : Int32)), .val (.int (2 : Int32)), .val (.int (1 : Int32)), .val (.int c1)] [(.int (c1.toInt8.toInt32)), (.int (1 : Int32)), (.ref db)]) G
  obtain ⟨cl9, Ar9, q9, S9, N9, H9, G9⟩ := id V6
  have hin9 : ¬ ((1 : Int32) < 0 ∨ cl9.slots.size ≤ ((1 : Int32)).toNatClampNeg) := inb_of S9 ⟨by decide, by decide⟩
  obtain ⟨T9, h9, X9, e9, W9, st9⟩ := stB X2 hx hZ e2 Ar9 (j := (1 : Int32)) hin9 (g := (mkF m 31 #[.val (.ref ca), .val (.int (1 : Int32)), .val (.ref db), .val (.int (1 : Int32)), .val (.int (2 : Int32)), .val (.int (1 : Int32)), .val (.int c1)] [(.int (c1.toInt8.toInt32)), (.int (1 : Int32)), (.ref db)])) rfl rfl (hb hby d6_31)
  refine Gl.via st9 ?_
  have N9_ := Fr.snoc X9 N2_ hp2
  have Z10 : n0 ≤ h9.size := Nat.le_trans Z3 (Keep.of_wr W9).1
  have Y11 : h0.size ≤ h9.size := Nat.le_trans Y4 (Keep.of_wr W9).1
  have V12 : Arv Z h9 db dk .byte (2 : Int32) [(.int (c0.toInt8.toInt32)), (.int (nar .byte (c1.toInt8.toInt32)))] (.int (0 : Int32)) := Arv.set Ar9 q9 S9 N9 H9 G9 (fits_nar_byte _) W9 1 rfl (Nat.le_of_ble_eq_true rfl)
  have V13 : Arv Z h9 db dk .byte (2 : Int32) [(.int (c0.toInt8.toInt32)), (.int (c1.toInt8.toInt32))] (.int (0 : Int32)) := by rw [show ((.int (nar .byte (c1.toInt8.toInt32))) : Value) = (.int (c1.toInt8.toInt32)) from (congrArg Value.int (own_bb _))] at V12; exact V12
  show Gl p.tables e below T9 (mkF m 32 #[.val (.ref ca), .val (.int (1 : Int32)), .val (.ref db), .val (.int (1 : Int32)), .val (.int (2 : Int32)), .val (.int (1 : Int32)), .val (.int c1)] []) G
  refine Gl.via (fun _ k => XS.iinc X9.here hx rfl (hb hby d6_32) rfl (l' := #[.val (.ref ca), .val (.int (2 : Int32)), .val (.ref db), .val (.int (1 : Int32)), .val (.int (2 : Int32)), .val (.int (1 : Int32)), .val (.int c1)]) rfl k) ?_
  show Gl p.tables e below T9 (mkF m 35 #[.val (.ref ca), .val (.int (2 : Int32)), .val (.ref db), .val (.int (1 : Int32)), .val (.int (2 : Int32)), .val (.int (1 : Int32)), .val (.int c1)] []) G
  refine Gl.via (fun _ k => XS.iinc X9.here hx rfl (hb hby d6_35) rfl (l' := #[.val (.ref ca), .val (.int (2 : Int32)), .val (.ref db), .val (.int (2 : Int32)), .val (.int (2 : Int32)), .val (.int (1 : Int32)), .val (.int c1)]) rfl k) ?_
  show Gl p.tables e below T9 (mkF m 38 #[.val (.ref ca), .val (.int (2 : Int32)), .val (.ref db), .val (.int (2 : Int32)), .val (.int (2 : Int32)), .val (.int (1 : Int32)), .val (.int c1)] []) G
  refine Gl.via (fun _ k => XS.iinc X9.here hx rfl (hb hby d6_38) rfl (l' := #[.val (.ref ca), .val (.int (2 : Int32)), .val (.ref db), .val (.int (2 : Int32)), .val (.int (2 : Int32)), .val (.int (2 : Int32)), .val (.int c1)]) rfl k) ?_
  show Gl p.tables e below T9 (mkF m 41 #[.val (.ref ca), .val (.int (2 : Int32)), .val (.ref db), .val (.int (2 : Int32)), .val (.int (2 : Int32)), .val (.int (2 : Int32)), .val (.int c1)] []) G
  refine Gl.via (fun _ k => XS.goto X9.here hx rfl (pc0 := 41) (pc' := 3) rfl (hb hby d6_41) (by decide) (by decide) k) ?_
  show Gl p.tables e below T9 (mkF m 3 #[.val (.ref ca), .val (.int (2 : Int32)), .val (.ref db), .val (.int (2 : Int32)), .val (.int (2 : Int32)), .val (.int (2 : Int32)), .val (.int c1)] []) G
  refine Gl.via (fun _ k => XS.iload X9.here hx rfl (hb hby d6_3) rfl k) ?_
  show Gl p.tables e below T9 (mkF m 5 #[.val (.ref ca), .val (.int (2 : Int32)), .val (.ref db), .val (.int (2 : Int32)), .val (.int (2 : Int32)), .val (.int (2 : Int32)), .val (.int c1)] [(.int (2 : Int32))]) G
  refine Gl.via (fun _ k => XS.iload X9.here hx rfl (hb hby d6_5) rfl k) ?_
  show Gl p.tables e below T9 (mkF m 7 #[.val (.ref ca), .val (.int (2 : Int32)), .val (.ref db), .val (.int (2 : Int32)), .val (.int (2 : Int32)), .val (.int (2 : Int32)), .val (.int c1)] [(.int (2 : Int32)), (.int (2 : Int32))]) G
  refine Gl.via (fun _ k => XS.icmpYes X9.here hx rfl (pc0 := 7) (pc' := 44) rfl (hb hby d6_7) rfl (flt (by decide)).2.1 (by decide) (by decide) k) ?_
  show Gl p.tables e below T9 (mkF m 44 #[.val (.ref ca), .val (.int (2 : Int32)), .val (.ref db), .val (.int (2 : Int32)), .val (.int (2 : Int32)), .val (.int (2 : Int32)), .val (.int c1)] []) G
  refine Gl.via (fun _ k => XS.iload X9.here hx rfl (hb hby d6_44) rfl k) ?_
  show Gl p.tables e below T9 (mkF m 46 #[.val (.ref ca), .val (.int (2 : Int32)), .val (.ref db), .val (.int (2 : Int32)), .val (.int (2 : Int32)), .val (.int (2 : Int32)), .val (.int c1)] [(.int (2 : Int32))]) G
  obtain ⟨fs, hr, hrun, hended, hW, hsame⟩ := X9.leave (v := some (.int (2 : Int32))) (fun h => by rw [Bd.returns] at h; cases h)
  have hq : ∀ L, Fr n0 L → Q_u5_2 Z ca ck db dk c0 c1 h0 n0 (some (.int (2 : Int32))) T9.heap L := by
    intro L hN
    rw [e9]
    exact ⟨rfl, hN, (((Keep.refl h0 [db]).wr W2 (Or.inl (List.mem_of_getElem? (i := 0) rfl))).wr W9 (Or.inl (List.mem_of_getElem? (i := 0) rfl))), V13⟩
  rw [hG]
  exact Gl.fin (retOut X9 hx Bd.returns rfl (Or.inl ⟨rfl, Or.inl rfl, _, rfl⟩) (hb hby d6_46) hr) ⟨_, hrun, hended, _, _, rfl, hq _ N9_, ⟨_, rfl⟩, hW, hsame.mono (by decide) (by decide)⟩
theorem d5_0 : decode jdk_52_method_16_code 0 = .ok (.iload_n 2, 1) := by decide +kernel
theorem d5_1 : decode jdk_52_method_16_code 1 = .ok (.newarray .byte, 2) := by decide +kernel
theorem d5_3 : decode jdk_52_method_16_code 3 = .ok (.astore_n 3, 1) := by decide +kernel
theorem d5_4 : decode jdk_52_method_16_code 4 = .ok (.aload_n 0, 1) := by decide +kernel
theorem d5_5 : decode jdk_52_method_16_code 5 = .ok (.iload_n 1, 1) := by decide +kernel
theorem d5_6 : decode jdk_52_method_16_code 6 = .ok (.aload_n 3, 1) := by decide +kernel
theorem d5_7 : decode jdk_52_method_16_code 7 = .ok (.iconst 0, 1) := by decide +kernel
theorem d5_8 : decode jdk_52_method_16_code 8 = .ok (.iload_n 2, 1) := by decide +kernel
theorem d5_9 : decode jdk_52_method_16_code 9 = .ok (.invokestatic 115, 3) := by decide +kernel
theorem pd_17 : parseMethodDescriptor "([CI[BII)I" = some ⟨[(.array .char), .int, (.array .byte), .int, .int], some .int⟩ := by decide +kernel
theorem d5_12 : decode jdk_52_method_16_code 12 = .ok (.istore 4, 2) := by decide +kernel
theorem d5_14 : decode jdk_52_method_16_code 14 = .ok (.iload 4, 2) := by decide +kernel
theorem d5_16 : decode jdk_52_method_16_code 16 = .ok (.iload_n 2, 1) := by decide +kernel
theorem d5_17 : decode jdk_52_method_16_code 17 = .ok (.if_icmp .eq 40, 3) := by decide +kernel
theorem d5_57 : decode jdk_52_method_16_code 57 = .ok (.aload_n 3, 1) := by decide +kernel
theorem d5_58 : decode jdk_52_method_16_code 58 = .ok (.areturn, 1) := by decide +kernel
theorem ef_u3_2 (m : MethodId) (x0 : Addr) (x1 : Int32) (x2 : Int32) : entryFrame m #[(.ref x0), (.int x1), (.int x2)] 6 = mkF m 0 #[.val (.ref x0), .val (.int x1), .val (.int x2), .unset, .unset, .unset] [] := by first | (simp [entryFrame, mkF, argsToLocals, Value.category]; done) | rfl | (simp [entryFrame, mkF, argsToLocals, own_catI, own_catR, *]; done)
def Q_u3_2 (Z : State) (ca : Addr) (ck : ClassId) (c0 : Int32) (c1 : Int32) (h0 : Heap) (n0 : Nat) (v : Option Value) (h : Heap) (L : List Loc) : Prop := ∃ (b : Addr), ∃ (k : ClassId), v = some (.ref b) ∧ Fr n0 L ∧ Keep h0 h [] ∧ Arv Z h b k .byte (2 : Int32) [(.int (c0.toInt8.toInt32)), (.int (c1.toInt8.toInt32))] (.int (0 : Int32)) ∧ (h0.size ≤ b)
set_option maxRecDepth 65536 in
set_option maxHeartbeats 40000000 in
theorem u3_2 (l : Launch) (Z : State) (a0 : Array Value) (hw : ∀ d ∈ tables_1, d.before a0 Z = true) (ws : List Jvm.Cond) (ca : Addr) (ck : ClassId) (c0 : Int32) (c1 : Int32) (h0 : Heap) (n0 : Nat) (Z0 : n0 ≤ h0.size) (F0_ca : Arv Z h0 ca ck .char (2 : Int32) [(.int c0), (.int c1)] (.int (0 : Int32))) (hc0 : ¬ ((255 : Int32) < c0)) (hc1 : ¬ ((255 : Int32) < c1)) :
    MetFree l (⟨"java/lang/StringUTF16", "compress", "([CII)[B"⟩ : MethodName) (head1 (Jvm.Cond.code (⟨"java/lang/StringUTF16", "compress", "([CII)[B"⟩ : MethodName) jdk_52_method_16_code 6 (some (.array .byte)) :: ws) ({ frames := 1, cells := 1, slots := 2, locals := 18 } : Room)) (fun a U => a = #[(.ref ca), (.int (0 : Int32)), (.int (2 : Int32))] ∧ Z.Warmed39 U.vm ∧ U.heap = h0) (fun _ _ _ _ _ => True) (fun _ U o U' => ∃ v L, o = .returned v ∧ Q_u3_2 Z ca ck c0 c1 h0 n0 v U'.heap L ∧ FrameEnd U o U' L ({ frames := 1, cells := 1, slots := 2, locals := 18 } : Room).cells ({ frames := 1, cells := 1, slots := 2, locals := 18 } : Room).slots) := by
  refine MetFree.of_bodySF (plainFor_of_name pn_6) hisR ?_
  intro p e s m args below meth c s₁ Bd hml0 hP hK
  obtain ⟨rfl, hZ, hh⟩ := hP
  have hx := Bd.exec
  have hby := Bd.bytes
  have hml : c.maxLocals = 6 := hml0
  have hown : s.vm.findClass "java/lang/StringUTF16" = some m.cls := findClass_of_methodNamed Bd.named
  have hnm := (name_of_methodNamed Bd.named Bd.method).1
  have X0 : Stand p l e ({ frames := 1, cells := 1, slots := 2, locals := 18 } : Room) s m #[(.ref ca), (.int (0 : Int32)), (.int (2 : Int32))] below meth c s₁ [] 0 0 := Stand.of_body Bd
  have e0 : s₁.heap = h0 := by rw [← hh, Bd.state]; rfl
  have N0 := Fr.nil n0
  obtain ⟨G, hG⟩ : ∃ G : State → Prop, G = (fun U' => ∃ o, U'.status = .running ∧ Ended U' below o ∧ ∃ v L, o = .returned v ∧ Q_u3_2 Z ca ck c0 c1 h0 n0 v U'.heap L ∧ FrameEnd s o U' L ({ frames := 1, cells := 1, slots := 2, locals := 18 } : Room).cells ({ frames := 1, cells := 1, slots := 2, locals := 18 } : Room).slots) := ⟨_, rfl⟩
  suffices key : Gl p.tables e below s₁ (mkF m 0 #[.val (.ref ca), .val (.int (0 : Int32)), .val (.int (2 : Int32)), .unset, .unset, .unset] []) G by
    obtain ⟨s₂, k1, k2⟩ := key
    rw [hG] at k2
    obtain ⟨o, k3, k4, k5⟩ := k2
    exact ⟨s₂, o, castTop (ef_u3_2 m ca (0 : Int32) (2 : Int32)) k1, k3, k4, k5⟩
  show Gl p.tables e below s₁ (mkF m 0 #[.val (.ref ca), .val (.int (0 : Int32)), .val (.int (2 : Int32)), .unset, .unset, .unset] []) G
  refine Gl.via (fun _ k => XS.iloadN X0.here hx rfl (hb hby d5_0) rfl k) ?_
  show Gl p.tables e below s₁ (mkF m 1 #[.val (.ref ca), .val (.int (0 : Int32)), .val (.int (2 : Int32)), .unset, .unset, .unset] [(.int (2 : Int32))]) G
  obtain ⟨T1, h1, k1, X1, e1, E1, A1, st1⟩ := newP X0 hx hZ (hw _ (List.mem_of_getElem? (i := 19) rfl)) e0 (g := (mkF m 1 #[.val (.ref ca), .val (.int (0 : Int32)), .val (.int (2 : Int32)), .unset, .unset, .unset] [(.int (2 : Int32))])) rfl (hb hby d5_1) rfl (by decide) (cap := 2) (by decide) (by decide) (by decide) (by decide)
  obtain ⟨b1, g1⟩ : ∃ z, z = h0.size := ⟨_, rfl⟩
  rw [← g1] at A1 st1
  have ne2 : ca ≠ b1 := Nat.ne_of_lt (Nat.lt_of_lt_of_le F0_ca.lt (Nat.le_of_eq g1.symm))
  have ge3 : n0 ≤ b1 := Nat.le_trans Z0 (Nat.le_of_eq g1.symm)
  have gz4 : h0.size ≤ b1 := Nat.le_trans (Nat.le_refl h0.size) (Nat.le_of_eq g1.symm)
  refine Gl.via st1 ?_
  have Z5 : n0 ≤ h1.size := Nat.le_trans Z0 E1.1
  have Y6 : h0.size ≤ h1.size := Nat.le_trans (Nat.le_refl h0.size) E1.1
  have V7 : Arv Z h1 b1 k1 .byte (2 : Int32) [(.int (0 : Int32)), (.int (0 : Int32))] (.int (0 : Int32)) := (Arv.new A1 (by decide)).pad (pad_rep [] (.int (0 : Int32)) 2)
  show Gl p.tables e below T1 (mkF m 3 #[.val (.ref ca), .val (.int (0 : Int32)), .val (.int (2 : Int32)), .unset, .unset, .unset] [(.ref b1)]) G
  refine Gl.via (fun _ k => XS.astoreN X1.here hx rfl (hb hby d5_3) rfl rfl (l' := #[.val (.ref ca), .val (.int (0 : Int32)), .val (.int (2 : Int32)), .val (.ref b1), .unset, .unset]) rfl k) ?_
  show Gl p.tables e below T1 (mkF m 4 #[.val (.ref ca), .val (.int (0 : Int32)), .val (.int (2 : Int32)), .val (.ref b1), .unset, .unset] []) G
  refine Gl.via (fun _ k => XS.aloadN X1.here hx rfl (hb hby d5_4) rfl rfl k) ?_
  show Gl p.tables e below T1 (mkF m 5 #[.val (.ref ca), .val (.int (0 : Int32)), .val (.int (2 : Int32)), .val (.ref b1), .unset, .unset] [(.ref ca)]) G
  refine Gl.via (fun _ k => XS.iloadN X1.here hx rfl (hb hby d5_5) rfl k) ?_
  show Gl p.tables e below T1 (mkF m 6 #[.val (.ref ca), .val (.int (0 : Int32)), .val (.int (2 : Int32)), .val (.ref b1), .unset, .unset] [(.int (0 : Int32)), (.ref ca)]) G
  refine Gl.via (fun _ k => XS.aloadN X1.here hx rfl (hb hby d5_6) rfl rfl k) ?_
  show Gl p.tables e below T1 (mkF m 7 #[.val (.ref ca), .val (.int (0 : Int32)), .val (.int (2 : Int32)), .val (.ref b1), .unset, .unset] [(.ref b1), (.int (0 : Int32)), (.ref ca)]) G
  refine Gl.via (fun _ k => XS.iconst X1.here hx rfl (hb hby d5_7) k) ?_
  show Gl p.tables e below T1 (mkF m 8 #[.val (.ref ca), .val (.int (0 : Int32)), .val (.int (2 : Int32)), .val (.ref b1), .unset, .unset] [(.int (0 : Int32)), (.ref b1), (.int (0 : Int32)), (.ref ca)]) G
  refine Gl.via (fun _ k => XS.iloadN X1.here hx rfl (hb hby d5_8) rfl k) ?_
  show Gl p.tables e below T1 (mkF m 9 #[.val (.ref ca), .val (.int (0 : Int32)), .val (.int (2 : Int32)), .val (.ref b1), .unset, .unset] [(.int (2 : Int32)), (.int (0 : Int32)), (.ref b1), (.int (0 : Int32)), (.ref ca)]) G
  have G9 : Arv Z h1 ca ck .char (2 : Int32) [(.int c0), (.int c1)] (.int (0 : Int32)) := (F0_ca.ext E1)
  obtain ⟨_, _, ⟨T8, L8, k8, n8⟩, -, X8, ⟨Lc8, hQ8, l8, y8, z8⟩, st8⟩ := Jvm.LawKit.callS X1 hx (y := (⟨"java/lang/StringUTF16", "compress", "([CI[BII)I"⟩ : MethodName)) hown (mvT hZ (hw _ (List.mem_of_getElem? (i := 31) rfl))) (mvT hZ (hw _ (List.mem_of_getElem? (i := 32) rfl))) (mvT hZ (hw _ (List.mem_of_getElem? (i := 29) rfl))) (mvT hZ (hw _ (List.mem_of_getElem? (i := 33) rfl))) (by decide) (backOf (W := 0) (u5_2 l Z a0 hw [] ca ck b1 k1 c0 c1 h1 n0 Z5 G9 V7 hc0 hc1 ge3 ne2) hZ (hw _ (List.mem_of_getElem? (i := 33) rfl)) (hw _ (List.mem_of_getElem? (i := 29) rfl)) (by decide) (by decide)) (g := (mkF m 9 #[.val (.ref ca), .val (.int (0 : Int32)), .val (.int (2 : Int32)), .val (.ref b1), .unset, .unset] [(.int (2 : Int32)), (.int (0 : Int32)), (.ref b1), (.int (0 : Int32)), (.ref ca)])) rfl (by rw [hml]; rfl) (argsL := [(.ref ca), (.int (0 : Int32)), (.ref b1), (.int (0 : Int32)), (.int (2 : Int32))]) (rest := []) (lenOf pd_17 rfl) rfl (by show 2 * 0 + _ ≤ _; exact Nat.le_of_eq rfl) (hb hby d5_9) (fun _ _ => ⟨rfl, e1, (by decide : 1 + 0 ≤ _), (by decide : 2 + 0 ≤ _)⟩)
  dsimp only [Pt.U, Pt.locs, Pt.cells, Pt.slots] at X8 l8 y8 z8 st8 hQ8
  subst l8 y8 z8
  obtain ⟨rfl, N8q, K8, P10⟩ := hQ8
  have N8_ := Fr.app N0 N8q
  refine Gl.via (fun _ k => st8 _ k) ?_
  have Z11 : n0 ≤ T8.heap.size := Nat.le_trans Z5 K8.1
  have Y12 : h0.size ≤ T8.heap.size := Nat.le_trans Y6 K8.1
  show Gl p.tables e below T8 (mkF m 12 #[.val (.ref ca), .val (.int (0 : Int32)), .val (.int (2 : Int32)), .val (.ref b1), .unset, .unset] [(.int (2 : Int32))]) G
  refine Gl.via (fun _ k => XS.istore X8.here hx rfl (hb hby d5_12) rfl (l' := #[.val (.ref ca), .val (.int (0 : Int32)), .val (.int (2 : Int32)), .val (.ref b1), .val (.int (2 : Int32)), .unset]) rfl k) ?_
  show Gl p.tables e below T8 (mkF m 14 #[.val (.ref ca), .val (.int (0 : Int32)), .val (.int (2 : Int32)), .val (.ref b1), .val (.int (2 : Int32)), .unset] []) G
  refine Gl.via (fun _ k => XS.iload X8.here hx rfl (hb hby d5_14) rfl k) ?_
  show Gl p.tables e below T8 (mkF m 16 #[.val (.ref ca), .val (.int (0 : Int32)), .val (.int (2 : Int32)), .val (.ref b1), .val (.int (2 : Int32)), .unset] [(.int (2 : Int32))]) G
  refine Gl.via (fun _ k => XS.iloadN X8.here hx rfl (hb hby d5_16) rfl k) ?_
  show Gl p.tables e below T8 (mkF m 17 #[.val (.ref ca), .val (.int (0 : Int32)), .val (.int (2 : Int32)), .val (.ref b1), .val (.int (2 : Int32)), .unset] [(.int (2 : Int32)), (.int (2 : Int32))]) G
  refine Gl.via (fun _ k => XS.icmpYes X8.here hx rfl (pc0 := 17) (pc' := 57) rfl (hb hby d5_17) rfl (teq (by decide)).1 (by decide) (by decide) k) ?_
  show Gl p.tables e below T8 (mkF m 57 #[.val (.ref ca), .val (.int (0 : Int32)), .val (.int (2 : Int32)), .val (.ref b1), .val (.int (2 : Int32)), .unset] []) G
  refine Gl.via (fun _ k => XS.aloadN X8.here hx rfl (hb hby d5_57) rfl rfl k) ?_
  show Gl p.tables e below T8 (mkF m 58 #[.val (.ref ca), .val (.int (0 : Int32)), .val (.int (2 : Int32)), .val (.ref b1), .val (.int (2 : Int32)), .unset] [(.ref b1)]) G
  obtain ⟨fs, hr, hrun, hended, hW, hsame⟩ := X8.leave (v := some (.ref b1)) (fun h => by rw [Bd.returns] at h; cases h)
  have hq : ∀ L, Fr n0 L → Q_u3_2 Z ca ck c0 c1 h0 n0 (some (.ref b1)) T8.heap L := by
    intro L hN
    exact ⟨b1, k1, rfl, hN, (((Keep.refl h0 []).ext E1).trans K8 (allS (Or.inr gz4) all0)), P10, gz4⟩
  rw [hG]
  exact Gl.fin (retOut X8 hx Bd.returns rfl (Or.inr (Or.inr (Or.inr (Or.inr ⟨rfl, rfl, rfl⟩)))) (hb hby d5_58) hr) ⟨_, hrun, hended, _, _, rfl, hq _ N8_, ⟨_, rfl⟩, hW, hsame.mono (by decide) (by decide)⟩
theorem d7_0 : decode jdk_52_method_15_code 0 = .ok (.iload_n 1, 1) := by decide +kernel
theorem d7_1 : decode jdk_52_method_15_code 1 = .ok (.aload_n 0, 1) := by decide +kernel
theorem d7_2 : decode jdk_52_method_15_code 2 = .ok (.arraylength, 1) := by decide +kernel
theorem d7_3 : decode jdk_52_method_15_code 3 = .ok (.isub, 1) := by decide +kernel
theorem d7_4 : decode jdk_52_method_15_code 4 = .ok (.bipush 31, 2) := by decide +kernel
theorem d7_6 : decode jdk_52_method_15_code 6 = .ok (.iushr, 1) := by decide +kernel
theorem d7_7 : decode jdk_52_method_15_code 7 = .ok (.i2b, 1) := by decide +kernel
theorem d7_8 : decode jdk_52_method_15_code 8 = .ok (.ireturn, 1) := by decide +kernel
theorem ef_u_cl_2 (m : MethodId) (x0 : Addr) (x1 : Int32) : entryFrame m #[(.ref x0), (.int x1)] 2 = mkF m 0 #[.val (.ref x0), .val (.int x1)] [] := by first | (simp [entryFrame, mkF, argsToLocals, Value.category]; done) | rfl | (simp [entryFrame, mkF, argsToLocals, own_catI, own_catR, *]; done)
def Q_u_cl_2 (Z : State) (b : Addr) (kc : ClassId) (y0 : Int32) (y1 : Int32) (h0 : Heap) (n0 : Nat) (v : Option Value) (h : Heap) (L : List Loc) : Prop := v = some (.int (0 : Int32)) ∧ Fr n0 L ∧ h = h0
set_option maxRecDepth 65536 in
set_option maxHeartbeats 40000000 in
theorem u_cl_2 (l : Launch) (Z : State) (a0 : Array Value) (hw : ∀ d ∈ tables_1, d.before a0 Z = true) (ws : List Jvm.Cond) (b : Addr) (kc : ClassId) (y0 : Int32) (y1 : Int32) (h0 : Heap) (n0 : Nat) (Z0 : n0 ≤ h0.size) (F0_b : Arv Z h0 b kc .byte (2 : Int32) [(.int y0), (.int y1)] (.int (0 : Int32))) :
    MetFree l (⟨"java/lang/StringUTF16", "coderFromArrayLen", "([BI)B"⟩ : MethodName) (head1 (Jvm.Cond.code (⟨"java/lang/StringUTF16", "coderFromArrayLen", "([BI)B"⟩ : MethodName) jdk_52_method_15_code 2 (some .byte) :: ws) ({ frames := 0, cells := 0, slots := 0, locals := 0 } : Room)) (fun a U => a = #[(.ref b), (.int (2 : Int32))] ∧ Z.Warmed39 U.vm ∧ U.heap = h0) (fun _ _ _ _ _ => True) (fun _ U o U' => ∃ v L, o = .returned v ∧ Q_u_cl_2 Z b kc y0 y1 h0 n0 v U'.heap L ∧ FrameEnd U o U' L ({ frames := 0, cells := 0, slots := 0, locals := 0 } : Room).cells ({ frames := 0, cells := 0, slots := 0, locals := 0 } : Room).slots) := by
  refine MetFree.of_bodySF (plainFor_of_name pn_6) hisR ?_
  intro p e s m args below meth c s₁ Bd hml0 hP hK
  obtain ⟨rfl, hZ, hh⟩ := hP
  have hx := Bd.exec
  have hby := Bd.bytes
  have hml : c.maxLocals = 2 := hml0
  have hown : s.vm.findClass "java/lang/StringUTF16" = some m.cls := findClass_of_methodNamed Bd.named
  have hnm := (name_of_methodNamed Bd.named Bd.method).1
  have X0 : Stand p l e ({ frames := 0, cells := 0, slots := 0, locals := 0 } : Room) s m #[(.ref b), (.int (2 : Int32))] below meth c s₁ [] 0 0 := Stand.of_body Bd
  have e0 : s₁.heap = h0 := by rw [← hh, Bd.state]; rfl
  have N0 := Fr.nil n0
  obtain ⟨G, hG⟩ : ∃ G : State → Prop, G = (fun U' => ∃ o, U'.status = .running ∧ Ended U' below o ∧ ∃ v L, o = .returned v ∧ Q_u_cl_2 Z b kc y0 y1 h0 n0 v U'.heap L ∧ FrameEnd s o U' L ({ frames := 0, cells := 0, slots := 0, locals := 0 } : Room).cells ({ frames := 0, cells := 0, slots := 0, locals := 0 } : Room).slots) := ⟨_, rfl⟩
  suffices key : Gl p.tables e below s₁ (mkF m 0 #[.val (.ref b), .val (.int (2 : Int32))] []) G by
    obtain ⟨s₂, k1, k2⟩ := key
    rw [hG] at k2
    obtain ⟨o, k3, k4, k5⟩ := k2
    exact ⟨s₂, o, castTop (ef_u_cl_2 m b (2 : Int32)) k1, k3, k4, k5⟩
  show Gl p.tables e below s₁ (mkF m 0 #[.val (.ref b), .val (.int (2 : Int32))] []) G
  refine Gl.via (fun _ k => XS.iloadN X0.here hx rfl (hb hby d7_0) rfl k) ?_
  show Gl p.tables e below s₁ (mkF m 1 #[.val (.ref b), .val (.int (2 : Int32))] [(.int (2 : Int32))]) G
  refine Gl.via (fun _ k => XS.aloadN X0.here hx rfl (hb hby d7_1) rfl rfl k) ?_
  show Gl p.tables e below s₁ (mkF m 2 #[.val (.ref b), .val (.int (2 : Int32))] [(.ref b), (.int (2 : Int32))]) G
  obtain ⟨cl1, Ar1, -, S1, N1, -, -⟩ := id F0_b
  refine Gl.via (fun _ k => X0.arraylength hx (by rw [e0]; exact Ar1.1) (State.isArrayOf_alike hZ.alike Ar1.2.1) (g := (mkF m 2 #[.val (.ref b), .val (.int (2 : Int32))] [(.ref b), (.int (2 : Int32))])) rfl rfl (hb hby d7_2) _ k) ?_
  rw [len_of S1 N1]
  show Gl p.tables e below s₁ (mkF m 3 #[.val (.ref b), .val (.int (2 : Int32))] [(.int (2 : Int32)), (.int (2 : Int32))]) G
  refine Gl.via (fun _ k => XS.isub X0.here hx rfl (hb hby d7_3) rfl k) ?_
  show Gl p.tables e below s₁ (mkF m 4 #[.val (.ref b), .val (.int (2 : Int32))] [(.int (0 : Int32))]) G
  refine Gl.via (fun _ k => XS.bipush X0.here hx rfl (hb hby d7_4) k) ?_
  show Gl p.tables e below s₁ (mkF m 6 #[.val (.ref b), .val (.int (2 : Int32))] [(.int (31 : Int32)), (.int (0 : Int32))]) G
  refine Gl.via (fun _ k => XS.iushr X0.here hx rfl (hb hby d7_6) rfl k) ?_
  show Gl p.tables e below s₁ (mkF m 7 #[.val (.ref b), .val (.int (2 : Int32))] [(.int (0 : Int32))]) G
  refine Gl.via (fun _ k => XS.i2b X0.here hx rfl (hb hby d7_7) rfl k) ?_
  show Gl p.tables e below s₁ (mkF m 8 #[.val (.ref b), .val (.int (2 : Int32))] [(.int (0 : Int32))]) G
  obtain ⟨fs, hr, hrun, hended, hW, hsame⟩ := X0.leave (v := some (.int (0 : Int32))) (fun h => by rw [Bd.returns] at h; cases h)
  have hq : ∀ L, Fr n0 L → Q_u_cl_2 Z b kc y0 y1 h0 n0 (some (.int (0 : Int32))) s₁.heap L := by
    intro L hN
    rw [e0]
    exact ⟨rfl, hN, rfl⟩
  rw [hG]
  exact Gl.fin (retN X0 hx (t := .byte) Bd.returns (by simp) (hb hby d7_8) hr) ⟨_, hrun, hended, _, _, rfl, hq _ N0, ⟨_, rfl⟩, hW, hsame.mono (by decide) (by decide)⟩
theorem d3_27 : decode jdk_42_method_149_code 27 = .ok (.getstatic 38, 3) := by decide +kernel
theorem d3_30 : decode jdk_42_method_149_code 30 = .ok (.ifCond .eq 28, 3) := by decide +kernel
theorem d3_33 : decode jdk_42_method_149_code 33 = .ok (.aload_n 1, 1) := by decide +kernel
theorem d3_34 : decode jdk_42_method_149_code 34 = .ok (.iload_n 2, 1) := by decide +kernel
theorem d3_35 : decode jdk_42_method_149_code 35 = .ok (.iload_n 3, 1) := by decide +kernel
theorem d3_36 : decode jdk_42_method_149_code 36 = .ok (.invokestatic 177, 3) := by decide +kernel
theorem pd_18 : parseMethodDescriptor "([CII)[B" = some ⟨[(.array .char), .int, .int], some (.array .byte)⟩ := by decide +kernel
theorem d3_39 : decode jdk_42_method_149_code 39 = .ok (.astore 5, 2) := by decide +kernel
theorem d3_41 : decode jdk_42_method_149_code 41 = .ok (.aload_n 0, 1) := by decide +kernel
theorem d3_42 : decode jdk_42_method_149_code 42 = .ok (.aload 5, 2) := by decide +kernel
theorem d3_44 : decode jdk_42_method_149_code 44 = .ok (.iload_n 3, 1) := by decide +kernel
theorem d3_45 : decode jdk_42_method_149_code 45 = .ok (.invokestatic 47, 3) := by decide +kernel
theorem pd_19 : parseMethodDescriptor "([BI)B" = some ⟨[(.array .byte), .int], some .byte⟩ := by decide +kernel
theorem d3_48 : decode jdk_42_method_149_code 48 = .ok (.putfield 15, 3) := by decide +kernel
theorem d3_51 : decode jdk_42_method_149_code 51 = .ok (.aload_n 0, 1) := by decide +kernel
theorem d3_52 : decode jdk_42_method_149_code 52 = .ok (.aload 5, 2) := by decide +kernel
theorem d3_54 : decode jdk_42_method_149_code 54 = .ok (.putfield 9, 3) := by decide +kernel
theorem d3_57 : decode jdk_42_method_149_code 57 = .ok (.return_, 1) := by decide +kernel
theorem ef_si4_2 (m : MethodId) (x0 : Addr) (x1 : Addr) (x2 : Int32) (x3 : Int32) : entryFrame m #[(.ref x0), (.ref x1), (.int x2), (.int x3), .null] 6 = mkF m 0 #[.val (.ref x0), .val (.ref x1), .val (.int x2), .val (.int x3), .val .null, .unset] [] := by first | (simp [entryFrame, mkF, argsToLocals, Value.category]; done) | rfl | (simp [entryFrame, mkF, argsToLocals, own_catI, own_catR, *]; done)
def Q_si4_2 (Z : State) (sa : Addr) (u1 : Value) (u2 : Value) (ca : Addr) (ck : ClassId) (c0 : Int32) (c1 : Int32) (cps : Int32) (h0 : Heap) (n0 : Nat) (v : Option Value) (h : Heap) (L : List Loc) : Prop := ∃ (sb : Addr), ∃ (sk : ClassId), v = none ∧ Fr n0 L ∧ Keep h0 h [sa] ∧ Exa Z h sa "java/lang/String" ∧ Fld Z h sa "java/lang/String" "coder" "B" (.int (0 : Int32)) ∧ Fld Z h sa "java/lang/String" "value" "[B" (.ref sb) ∧ Arv Z h sb sk .byte (own_ln ([(c0.toInt8.toInt32), (c1.toInt8.toInt32)] : List Int32)) (([(c0.toInt8.toInt32), (c1.toInt8.toInt32)] : List Int32).map Value.int) (.int (0 : Int32))
set_option maxRecDepth 65536 in
set_option maxHeartbeats 40000000 in
theorem si4_2 (l : Launch) (Z : State) (a0 : Array Value) (hw : ∀ d ∈ tables_1, d.before a0 Z = true) (ws : List Jvm.Cond) (sa : Addr) (u1 : Value) (u2 : Value) (ca : Addr) (ck : ClassId) (c0 : Int32) (c1 : Int32) (cps : Int32) (h0 : Heap) (n0 : Nat) (Z0 : n0 ≤ h0.size) (F0_sa : Exa Z h0 sa "java/lang/String") (F1_sa_value : Fld Z h0 sa "java/lang/String" "value" "[B" u1) (F2_sa_coder : Fld Z h0 sa "java/lang/String" "coder" "B" u2) (F3_ca : Arv Z h0 ca ck .char (2 : Int32) [(.int c0), (.int c1)] (.int (0 : Int32))) (F4_java_lang_String : Sta Z Z.heap "java/lang/String" "COMPACT_STRINGS" "Z" (.int cps)) (F5_ : Old Z n0 h0) (hc0 : ¬ ((255 : Int32) < c0)) (hc1 : ¬ ((255 : Int32) < c1)) (hcps : ¬ (cps = (0 : Int32))) (hp3 : n0 ≤ sa) (hp4 : sa ≠ ca) :
    MetFree l (⟨"java/lang/String", "<init>", "([CIILjava/lang/Void;)V"⟩ : MethodName) (head1 (Jvm.Cond.code (⟨"java/lang/String", "<init>", "([CIILjava/lang/Void;)V"⟩ : MethodName) jdk_42_method_149_code 6 none :: ws) ({ frames := 2, cells := 1, slots := 2, locals := 35 } : Room)) (fun a U => a = #[(.ref sa), (.ref ca), (.int (0 : Int32)), (.int (2 : Int32)), .null] ∧ Z.Warmed39 U.vm ∧ U.heap = h0 ∧ CHv Z own_EL U.vm h0 ∧ ∀ x ∈ ([sa] : List Addr), Safe Z own_EL U.vm h0 x) (fun _ _ _ _ _ => True) (fun _ U o U' => ∃ v L, o = .returned v ∧ Q_si4_2 Z sa u1 u2 ca ck c0 c1 cps h0 n0 v U'.heap L ∧ CHr Z own_EL U.vm U.heap U'.vm U'.heap ∧ ReturnedEndW U o U' L ({ frames := 2, cells := 1, slots := 2, locals := 35 } : Room).cells ({ frames := 2, cells := 1, slots := 2, locals := 35 } : Room).slots) := by
  refine MetFree.of_bodySF (plainFor_of_name pn_0) hisR ?_
  intro p e s m args below meth c s₁ Bd hml0 hP hK
  obtain ⟨rfl, hZ, hh, hCH, hSF⟩ := hP
  have hx := Bd.exec
  have hby := Bd.bytes
  have hml : c.maxLocals = 6 := hml0
  have hown : s.vm.findClass "java/lang/String" = some m.cls := findClass_of_methodNamed Bd.named
  have hnm := (name_of_methodNamed Bd.named Bd.method).1
  have X0 : Stand p l e ({ frames := 2, cells := 1, slots := 2, locals := 35 } : Room) (s.setVm s.vm) m #[(.ref sa), (.ref ca), (.int (0 : Int32)), (.int (2 : Int32)), .null] below meth c s₁ [] 0 0 := Stand.of_body Bd
  have e0 : s₁.heap = h0 := by rw [← hh, Bd.state]; rfl
  have N0 := Fr.nil n0
  have hS0 : s.Since s.vm 0 := (State.WarmedH.refl s).since 0
  have hk0 : 0 ≤ h0.size := Nat.zero_le _
  have hEL := own_ew hw
  have CR0 : CHr Z own_EL s.vm h0 s.vm h0 := CHr.refl hCH
  obtain ⟨G, hG⟩ : ∃ G : State → Prop, G = (fun U' => ∃ o, U'.status = .running ∧ Ended U' below o ∧ ∃ v L, o = .returned v ∧ Q_si4_2 Z sa u1 u2 ca ck c0 c1 cps h0 n0 v U'.heap L ∧ CHr Z own_EL s.vm s.heap U'.vm U'.heap ∧ ReturnedEndW s o U' L ({ frames := 2, cells := 1, slots := 2, locals := 35 } : Room).cells ({ frames := 2, cells := 1, slots := 2, locals := 35 } : Room).slots) := ⟨_, rfl⟩
  suffices key : Gl p.tables e below s₁ (mkF m 0 #[.val (.ref sa), .val (.ref ca), .val (.int (0 : Int32)), .val (.int (2 : Int32)), .val .null, .unset] []) G by
    obtain ⟨s₂, k1, k2⟩ := key
    rw [hG] at k2
    obtain ⟨o, k3, k4, k5⟩ := k2
    exact ⟨s₂, o, castTop (ef_si4_2 m sa ca (0 : Int32) (2 : Int32)) k1, k3, k4, k5⟩
  show Gl p.tables e below s₁ (mkF m 0 #[.val (.ref sa), .val (.ref ca), .val (.int (0 : Int32)), .val (.int (2 : Int32)), .val .null, .unset] []) G
  refine Gl.via (fun _ k => XS.aloadN X0.here hx rfl (hb hby d3_0) rfl rfl k) ?_
  show Gl p.tables e below s₁ (mkF m 1 #[.val (.ref sa), .val (.ref ca), .val (.int (0 : Int32)), .val (.int (2 : Int32)), .val .null, .unset] [(.ref sa)]) G
  obtain ⟨T1, X1, e1, st1⟩ := initO X0 hx hZ hown (hw _ (List.mem_of_getElem? (i := 15) rfl)) (hw _ (List.mem_of_getElem? (i := 16) rfl)) (hw _ (List.mem_of_getElem? (i := 17) rfl)) e0 (g := (mkF m 1 #[.val (.ref sa), .val (.ref ca), .val (.int (0 : Int32)), .val (.int (2 : Int32)), .val .null, .unset] [(.ref sa)])) rfl (by rw [hml]; rfl) rfl (hb hby d3_1) (by decide) (W := 0) (by show 2 * 0 + _ ≤ _; exact Nat.le_of_eq rfl) (by decide)
  refine Gl.via st1 ?_
  show Gl p.tables e below T1 (mkF m 4 #[.val (.ref sa), .val (.ref ca), .val (.int (0 : Int32)), .val (.int (2 : Int32)), .val .null, .unset] []) G
  refine Gl.via (fun _ k => XS.iloadN X1.here hx rfl (hb hby d3_4) rfl k) ?_
  show Gl p.tables e below T1 (mkF m 5 #[.val (.ref sa), .val (.ref ca), .val (.int (0 : Int32)), .val (.int (2 : Int32)), .val .null, .unset] [(.int (2 : Int32))]) G
  refine Gl.via (fun _ k => XS.ifYes X1.here hx rfl (pc0 := 5) (pc' := 27) rfl (hb hby d3_5) rfl ((if0 _ _).trans (feq (by decide)).2) (by decide) (by decide) k) ?_
  show Gl p.tables e below T1 (mkF m 27 #[.val (.ref sa), .val (.ref ca), .val (.int (0 : Int32)), .val (.int (2 : Int32)), .val .null, .unset] []) G
  have G2 : Sta Z h0 "java/lang/String" "COMPACT_STRINGS" "Z" (.int cps) := F4_java_lang_String.ext F5_.2
  obtain ⟨T3, X3, e3, st3⟩ := getS2 X1 hx hZ hown (host := "") (Or.inl (hw _ (List.mem_of_getElem? (i := 26) rfl))) Via.refl e1 G2 (g := (mkF m 27 #[.val (.ref sa), .val (.ref ca), .val (.int (0 : Int32)), .val (.int (2 : Int32)), .val .null, .unset] [])) rfl (hb hby d3_27)
  refine Gl.via st3 ?_
  show Gl p.tables e below T3 (mkF m 30 #[.val (.ref sa), .val (.ref ca), .val (.int (0 : Int32)), .val (.int (2 : Int32)), .val .null, .unset] [(.int cps)]) G
  refine Gl.via (fun _ k => XS.ifNo X3.here hx rfl (hb hby d3_30) rfl ((if0 _ _).trans (feq hcps).1) k) ?_
  show Gl p.tables e below T3 (mkF m 33 #[.val (.ref sa), .val (.ref ca), .val (.int (0 : Int32)), .val (.int (2 : Int32)), .val .null, .unset] []) G
  refine Gl.via (fun _ k => XS.aloadN X3.here hx rfl (hb hby d3_33) rfl rfl k) ?_
  show Gl p.tables e below T3 (mkF m 34 #[.val (.ref sa), .val (.ref ca), .val (.int (0 : Int32)), .val (.int (2 : Int32)), .val .null, .unset] [(.ref ca)]) G
  refine Gl.via (fun _ k => XS.iloadN X3.here hx rfl (hb hby d3_34) rfl k) ?_
  show Gl p.tables e below T3 (mkF m 35 #[.val (.ref sa), .val (.ref ca), .val (.int (0 : Int32)), .val (.int (2 : Int32)), .val .null, .unset] [(.int (0 : Int32)), (.ref ca)]) G
  refine Gl.via (fun _ k => XS.iloadN X3.here hx rfl (hb hby d3_35) rfl k) ?_
  show Gl p.tables e below T3 (mkF m 36 #[.val (.ref sa), .val (.ref ca), .val (.int (0 : Int32)), .val (.int (2 : Int32)), .val .null, .unset] [(.int (2 : Int32)), (.int (0 : Int32)), (.ref ca)]) G
  obtain ⟨_, _, ⟨T4, L4, k4, n4⟩, -, X4, ⟨Lc4, hQ4, l4, y4, z4⟩, st4⟩ := Jvm.LawKit.callS X3 hx (y := (⟨"java/lang/StringUTF16", "compress", "([CII)[B"⟩ : MethodName)) hown (mvT hZ (hw _ (List.mem_of_getElem? (i := 27) rfl))) (mvT hZ (hw _ (List.mem_of_getElem? (i := 28) rfl))) (mvT hZ (hw _ (List.mem_of_getElem? (i := 29) rfl))) (mvT hZ (hw _ (List.mem_of_getElem? (i := 30) rfl))) (by decide) (backOf (W := 0) (u3_2 l Z a0 hw [] ca ck c0 c1 h0 n0 Z0 F3_ca hc0 hc1) hZ (hw _ (List.mem_of_getElem? (i := 30) rfl)) (hw _ (List.mem_of_getElem? (i := 29) rfl)) (by decide) (by decide)) (g := (mkF m 36 #[.val (.ref sa), .val (.ref ca), .val (.int (0 : Int32)), .val (.int (2 : Int32)), .val .null, .unset] [(.int (2 : Int32)), (.int (0 : Int32)), (.ref ca)])) rfl (by rw [hml]; rfl) (argsL := [(.ref ca), (.int (0 : Int32)), (.int (2 : Int32))]) (rest := []) (lenOf pd_18 rfl) rfl (by show 2 * 0 + _ ≤ _; exact Nat.le_of_eq rfl) (hb hby d3_36) (fun _ _ => ⟨rfl, e3, (by decide : 0 + 1 ≤ _), (by decide : 0 + 2 ≤ _)⟩)
  dsimp only [Pt.U, Pt.locs, Pt.cells, Pt.slots] at X4 l4 y4 z4 st4 hQ4
  subst l4 y4 z4
  obtain ⟨b_4, k_4, rfl, N4q, K4, P5, R6⟩ := hQ4
  have N4_ := Fr.app N0 N4q
  refine Gl.via (fun _ k => st4 _ k) ?_
  have ne7 : sa ≠ b_4 := Nat.ne_of_lt (Nat.lt_of_lt_of_le F0_sa.lt R6)
  have ne8 : ca ≠ b_4 := Nat.ne_of_lt (Nat.lt_of_lt_of_le F3_ca.lt R6)
  have ge9 : n0 ≤ b_4 := Nat.le_trans Z0 R6
  have gz10 : h0.size ≤ b_4 := Nat.le_trans (Nat.le_refl h0.size) R6
  have CR11 : CHr Z own_EL s.vm h0 s.vm T4.heap := CHr.trans CR0 (CHr.keep K4 sf0 CR0.1)
  have SF12 : Safe Z own_EL s.vm T4.heap sa := Safe.keep K4 sf0 CR0.1 (hSF sa (List.mem_of_getElem? (i := 0) rfl))
  have SF13 : Safe Z own_EL s.vm T4.heap b_4 := Safe.keep K4 sf0 CR0.1 (Safe.new R6)
  have Z14 : n0 ≤ T4.heap.size := Nat.le_trans Z0 K4.1
  have Y15 : h0.size ≤ T4.heap.size := Nat.le_trans (Nat.le_refl h0.size) K4.1
  have hl16 := Nat.le_trans hk0 K4.1
  show Gl p.tables e below T4 (mkF m 39 #[.val (.ref sa), .val (.ref ca), .val (.int (0 : Int32)), .val (.int (2 : Int32)), .val .null, .unset] [(.ref b_4)]) G
  refine Gl.via (fun _ k => XS.astore X4.here hx rfl (hb hby d3_39) rfl rfl (l' := #[.val (.ref sa), .val (.ref ca), .val (.int (0 : Int32)), .val (.int (2 : Int32)), .val .null, .val (.ref b_4)]) rfl k) ?_
  show Gl p.tables e below T4 (mkF m 41 #[.val (.ref sa), .val (.ref ca), .val (.int (0 : Int32)), .val (.int (2 : Int32)), .val .null, .val (.ref b_4)] []) G
  refine Gl.via (fun _ k => XS.aloadN X4.here hx rfl (hb hby d3_41) rfl rfl k) ?_
  show Gl p.tables e below T4 (mkF m 42 #[.val (.ref sa), .val (.ref ca), .val (.int (0 : Int32)), .val (.int (2 : Int32)), .val .null, .val (.ref b_4)] [(.ref sa)]) G
  refine Gl.via (fun _ k => XS.aload X4.here hx rfl (hb hby d3_42) rfl rfl k) ?_
  show Gl p.tables e below T4 (mkF m 44 #[.val (.ref sa), .val (.ref ca), .val (.int (0 : Int32)), .val (.int (2 : Int32)), .val .null, .val (.ref b_4)] [(.ref b_4), (.ref sa)]) G
  refine Gl.via (fun _ k => XS.iloadN X4.here hx rfl (hb hby d3_44) rfl k) ?_
  show Gl p.tables e below T4 (mkF m 45 #[.val (.ref sa), .val (.ref ca), .val (.int (0 : Int32)), .val (.int (2 : Int32)), .val .null, .val (.ref b_4)] [(.int (2 : Int32)), (.ref b_4), (.ref sa)]) G
  obtain ⟨_, _, ⟨T17, L17, k17, n17⟩, -, X17, ⟨Lc17, hQ17, l17, y17, z17⟩, st17⟩ := Jvm.LawKit.callS X4 hx (y := (⟨"java/lang/StringUTF16", "coderFromArrayLen", "([BI)B"⟩ : MethodName)) hown (mvT hZ (hw _ (List.mem_of_getElem? (i := 34) rfl))) (mvT hZ (hw _ (List.mem_of_getElem? (i := 35) rfl))) (mvT hZ (hw _ (List.mem_of_getElem? (i := 29) rfl))) (mvT hZ (hw _ (List.mem_of_getElem? (i := 36) rfl))) (by decide) (backOf (W := 1) (u_cl_2 l Z a0 hw [] b_4 k_4 (c0.toInt8.toInt32) (c1.toInt8.toInt32) T4.heap n0 Z14 P5) hZ (hw _ (List.mem_of_getElem? (i := 36) rfl)) (hw _ (List.mem_of_getElem? (i := 29) rfl)) (by decide) (by decide)) (g := (mkF m 45 #[.val (.ref sa), .val (.ref ca), .val (.int (0 : Int32)), .val (.int (2 : Int32)), .val .null, .val (.ref b_4)] [(.int (2 : Int32)), (.ref b_4), (.ref sa)])) rfl (by rw [hml]; rfl) (argsL := [(.ref b_4), (.int (2 : Int32))]) (rest := [(.ref sa)]) (lenOf pd_19 rfl) rfl (by show 2 * 0 + _ ≤ _; exact Nat.le_of_eq rfl) (hb hby d3_45) (fun _ _ => ⟨rfl, rfl, (by decide : 1 + 0 ≤ _), (by decide : 2 + 0 ≤ _)⟩)
  dsimp only [Pt.U, Pt.locs, Pt.cells, Pt.slots] at X17 l17 y17 z17 st17 hQ17
  subst l17 y17 z17
  obtain ⟨rfl, N17q, eh17⟩ := hQ17
  have N17_ := Fr.app N4_ N17q
  refine Gl.via (fun _ k => st17 _ k) ?_
  show Gl p.tables e below T17 (mkF m 48 #[.val (.ref sa), .val (.ref ca), .val (.int (0 : Int32)), .val (.int (2 : Int32)), .val .null, .val (.ref b_4)] [(.int (0 : Int32)), (.ref sa)]) G
  have G18 : Fld Z T4.heap sa "java/lang/String" "coder" "B" u2 := (F2_sa_coder.keep K4 nin0)
  have G19 : Exa Z T4.heap sa "java/lang/String" := (F0_sa.keep K4)
  obtain ⟨T20, h20, X20, e20, W20, st20⟩ := putFN X17 hx hZ hown (hw _ (List.mem_of_getElem? (i := 25) rfl)) Via.refl eh17 G18 G19 (Or.inr ⟨(hw _ (List.mem_of_getElem? (i := 21) rfl)), rfl, hnm⟩) (hw _ (List.mem_of_getElem? (i := 5) rfl)) (ty := .byte) (v' := (.int (0 : Int32))) (by decide) rfl (by decide) (g := (mkF m 48 #[.val (.ref sa), .val (.ref ca), .val (.int (0 : Int32)), .val (.int (2 : Int32)), .val .null, .val (.ref b_4)] [(.int (0 : Int32)), (.ref sa)])) rfl rfl (hb hby d3_48)
  have CR21 : CHr Z own_EL s.vm h0 s.vm h20 := CHr.trans CR11 (CHr.wr W20 SF12 CR11.1)
  have SF22 : Safe Z own_EL s.vm h20 sa := Safe.wr W20 SF12 CR11.1 SF12
  have SF23 : Safe Z own_EL s.vm h20 b_4 := Safe.wr W20 SF12 CR11.1 SF13
  refine Gl.via st20 ?_
  have N20_ := Fr.snoc X20 N17_ hp3
  have Z24 : n0 ≤ h20.size := Nat.le_trans Z14 (Keep.of_wr W20).1
  have Y25 : h0.size ≤ h20.size := Nat.le_trans Y15 (Keep.of_wr W20).1
  have hl26 := Nat.le_trans hl16 (Keep.of_wr W20).1
  show Gl p.tables e below T20 (mkF m 51 #[.val (.ref sa), .val (.ref ca), .val (.int (0 : Int32)), .val (.int (2 : Int32)), .val .null, .val (.ref b_4)] []) G
  refine Gl.via (fun _ k => XS.aloadN X20.here hx rfl (hb hby d3_51) rfl rfl k) ?_
  show Gl p.tables e below T20 (mkF m 52 #[.val (.ref sa), .val (.ref ca), .val (.int (0 : Int32)), .val (.int (2 : Int32)), .val .null, .val (.ref b_4)] [(.ref sa)]) G
  refine Gl.via (fun _ k => XS.aload X20.here hx rfl (hb hby d3_52) rfl rfl k) ?_
  show Gl p.tables e below T20 (mkF m 54 #[.val (.ref sa), .val (.ref ca), .val (.int (0 : Int32)), .val (.int (2 : Int32)), .val .null, .val (.ref b_4)] [(.ref b_4), (.ref sa)]) G
  have G27 : Fld Z h20 sa "java/lang/String" "value" "[B" u1 := ((F1_sa_value.keep K4 nin0).other W20 (Or.inr (slot_ne (Or.inr (hw _ (List.mem_of_getElem? (i := 20) rfl))) (Or.inr (hw _ (List.mem_of_getElem? (i := 21) rfl))) (by decide) (t := (.array .byte)) (t' := .byte) (by decide) (by decide))))
  have G28 : Exa Z h20 sa "java/lang/String" := (G19.wr W20)
  obtain ⟨T29, h29, X29, e29, W29, st29⟩ := putF X20 hx hZ hown (host := "") (Or.inl (hw _ (List.mem_of_getElem? (i := 24) rfl))) Via.refl e20 G27 G28 (Or.inr ⟨(hw _ (List.mem_of_getElem? (i := 20) rfl)), rfl, hnm⟩) (hw _ (List.mem_of_getElem? (i := 5) rfl)) (ty := (.array .byte)) (by decide) rfl rfl (g := (mkF m 54 #[.val (.ref sa), .val (.ref ca), .val (.int (0 : Int32)), .val (.int (2 : Int32)), .val .null, .val (.ref b_4)] [(.ref b_4), (.ref sa)])) rfl rfl (hb hby d3_54)
  have CR30 : CHr Z own_EL s.vm h0 s.vm h29 := CHr.trans CR21 (CHr.wr W29 SF22 CR21.1)
  have SF31 : Safe Z own_EL s.vm h29 sa := Safe.wr W29 SF22 CR21.1 SF22
  have SF32 : Safe Z own_EL s.vm h29 b_4 := Safe.wr W29 SF22 CR21.1 SF23
  refine Gl.via st29 ?_
  have N29_ := Fr.snoc X29 N20_ hp3
  have Z33 : n0 ≤ h29.size := Nat.le_trans Z24 (Keep.of_wr W29).1
  have Y34 : h0.size ≤ h29.size := Nat.le_trans Y25 (Keep.of_wr W29).1
  have hl35 := Nat.le_trans hl26 (Keep.of_wr W29).1
  show Gl p.tables e below T29 (mkF m 57 #[.val (.ref sa), .val (.ref ca), .val (.int (0 : Int32)), .val (.int (2 : Int32)), .val .null, .val (.ref b_4)] []) G
  obtain ⟨fs, hr, hrun, hended, hRW⟩ := X29.leaveW hS0 (by rw [e29]; exact hl35) (v := none) (fun _ => rfl)
  have G36 : Exa Z h29 sa "java/lang/String" := (G28.wr W29)
  have G37 : Fld Z h29 sa "java/lang/String" "coder" "B" (.int (0 : Int32)) := ((Fld.same W20 G18).other W29 (Or.inr (slot_ne (Or.inr (hw _ (List.mem_of_getElem? (i := 21) rfl))) (Or.inr (hw _ (List.mem_of_getElem? (i := 20) rfl))) (by decide) (t := .byte) (t' := (.array .byte)) (by decide) (by decide))))
  have G38 : Arv Z h29 b_4 k_4 .byte (2 : Int32) [(.int (c0.toInt8.toInt32)), (.int (c1.toInt8.toInt32))] (.int (0 : Int32)) := ((P5.other W20 (Ne.symm ne7)).other W29 (Ne.symm ne7))
  have hq : ∀ L, Fr n0 L → Q_si4_2 Z sa u1 u2 ca ck c0 c1 cps h0 n0 (none) T29.heap L := by
    intro L hN
    rw [e29]
    exact ⟨b_4, k_4, rfl, hN, ((((Keep.refl h0 [sa]).trans K4 all0).wr W20 (Or.inl (List.mem_of_getElem? (i := 0) rfl))).wr W29 (Or.inl (List.mem_of_getElem? (i := 0) rfl))), G36, G37, (Fld.same W29 G27), G38⟩
  have hc : CHr Z own_EL s.vm s.heap T29.vm T29.heap := by
    rw [hh, e29]
    exact CHr.trans CR30 (CHv.at X29 hZ hEL CR30.1)
  rw [hG]
  exact Gl.fin (X29.returnOut hx Bd.returns (hb hby d3_57) hr) ⟨_, hrun, hended, _, _, rfl, hq _ N29_, hc, ⟨hRW.1, hRW.2.1, hRW.2.2.1, hRW.2.2.2.mono (by decide) (by decide)⟩⟩
theorem ef_si1_2 (m : MethodId) (x0 : Addr) (x1 : Addr) : entryFrame m #[(.ref x0), (.ref x1)] 2 = mkF m 0 #[.val (.ref x0), .val (.ref x1)] [] := by first | (simp [entryFrame, mkF, argsToLocals, Value.category]; done) | rfl | (simp [entryFrame, mkF, argsToLocals, own_catI, own_catR, *]; done)
def Q_si1_2 (Z : State) (sa : Addr) (u1 : Value) (u2 : Value) (ca : Addr) (ck : ClassId) (c0 : Int32) (c1 : Int32) (cps : Int32) (h0 : Heap) (n0 : Nat) (v : Option Value) (h : Heap) (L : List Loc) : Prop := ∃ (sb : Addr), ∃ (sk : ClassId), v = none ∧ Fr n0 L ∧ Keep h0 h [sa] ∧ Exa Z h sa "java/lang/String" ∧ Fld Z h sa "java/lang/String" "coder" "B" (.int (0 : Int32)) ∧ Fld Z h sa "java/lang/String" "value" "[B" (.ref sb) ∧ Arv Z h sb sk .byte (own_ln ([(c0.toInt8.toInt32), (c1.toInt8.toInt32)] : List Int32)) (([(c0.toInt8.toInt32), (c1.toInt8.toInt32)] : List Int32).map Value.int) (.int (0 : Int32))
set_option maxRecDepth 65536 in
set_option maxHeartbeats 40000000 in
theorem si1_2 (l : Launch) (Z : State) (a0 : Array Value) (hw : ∀ d ∈ tables_1, d.before a0 Z = true) (ws : List Jvm.Cond) (sa : Addr) (u1 : Value) (u2 : Value) (ca : Addr) (ck : ClassId) (c0 : Int32) (c1 : Int32) (cps : Int32) (h0 : Heap) (n0 : Nat) (Z0 : n0 ≤ h0.size) (F0_sa : Exa Z h0 sa "java/lang/String") (F1_sa_value : Fld Z h0 sa "java/lang/String" "value" "[B" u1) (F2_sa_coder : Fld Z h0 sa "java/lang/String" "coder" "B" u2) (F3_ca : Arv Z h0 ca ck .char (2 : Int32) [(.int c0), (.int c1)] (.int (0 : Int32))) (F4_java_lang_String : Sta Z Z.heap "java/lang/String" "COMPACT_STRINGS" "Z" (.int cps)) (F5_ : Old Z n0 h0) (hc0 : ¬ ((255 : Int32) < c0)) (hc1 : ¬ ((255 : Int32) < c1)) (hcps : ¬ (cps = (0 : Int32))) (hp3 : n0 ≤ sa) (hp4 : sa ≠ ca) :
    MetFree l (⟨"java/lang/String", "<init>", "([C)V"⟩ : MethodName) (head1 (Jvm.Cond.code (⟨"java/lang/String", "<init>", "([C)V"⟩ : MethodName) jdk_42_method_3_code 2 none :: ws) ({ frames := 3, cells := 1, slots := 2, locals := 52 } : Room)) (fun a U => a = #[(.ref sa), (.ref ca)] ∧ Z.Warmed39 U.vm ∧ U.heap = h0 ∧ CHv Z own_EL U.vm h0 ∧ ∀ x ∈ ([sa] : List Addr), Safe Z own_EL U.vm h0 x) (fun _ _ _ _ _ => True) (fun _ U o U' => ∃ v L, o = .returned v ∧ Q_si1_2 Z sa u1 u2 ca ck c0 c1 cps h0 n0 v U'.heap L ∧ CHr Z own_EL U.vm U.heap U'.vm U'.heap ∧ ReturnedEndW U o U' L ({ frames := 3, cells := 1, slots := 2, locals := 52 } : Room).cells ({ frames := 3, cells := 1, slots := 2, locals := 52 } : Room).slots) := by
  refine MetFree.of_bodySF (plainFor_of_name pn_0) hisR ?_
  intro p e s m args below meth c s₁ Bd hml0 hP hK
  obtain ⟨rfl, hZ, hh, hCH, hSF⟩ := hP
  have hx := Bd.exec
  have hby := Bd.bytes
  have hml : c.maxLocals = 2 := hml0
  have hown : s.vm.findClass "java/lang/String" = some m.cls := findClass_of_methodNamed Bd.named
  have hnm := (name_of_methodNamed Bd.named Bd.method).1
  have X0 : Stand p l e ({ frames := 3, cells := 1, slots := 2, locals := 52 } : Room) (s.setVm s.vm) m #[(.ref sa), (.ref ca)] below meth c s₁ [] 0 0 := Stand.of_body Bd
  have e0 : s₁.heap = h0 := by rw [← hh, Bd.state]; rfl
  have N0 := Fr.nil n0
  have hS0 : s.Since s.vm 0 := (State.WarmedH.refl s).since 0
  have hk0 : 0 ≤ h0.size := Nat.zero_le _
  have hEL := own_ew hw
  have CR0 : CHr Z own_EL s.vm h0 s.vm h0 := CHr.refl hCH
  obtain ⟨G, hG⟩ : ∃ G : State → Prop, G = (fun U' => ∃ o, U'.status = .running ∧ Ended U' below o ∧ ∃ v L, o = .returned v ∧ Q_si1_2 Z sa u1 u2 ca ck c0 c1 cps h0 n0 v U'.heap L ∧ CHr Z own_EL s.vm s.heap U'.vm U'.heap ∧ ReturnedEndW s o U' L ({ frames := 3, cells := 1, slots := 2, locals := 52 } : Room).cells ({ frames := 3, cells := 1, slots := 2, locals := 52 } : Room).slots) := ⟨_, rfl⟩
  suffices key : Gl p.tables e below s₁ (mkF m 0 #[.val (.ref sa), .val (.ref ca)] []) G by
    obtain ⟨s₂, k1, k2⟩ := key
    rw [hG] at k2
    obtain ⟨o, k3, k4, k5⟩ := k2
    exact ⟨s₂, o, castTop (ef_si1_2 m sa ca) k1, k3, k4, k5⟩
  show Gl p.tables e below s₁ (mkF m 0 #[.val (.ref sa), .val (.ref ca)] []) G
  refine Gl.via (fun _ k => XS.aloadN X0.here hx rfl (hb hby d2_0) rfl rfl k) ?_
  show Gl p.tables e below s₁ (mkF m 1 #[.val (.ref sa), .val (.ref ca)] [(.ref sa)]) G
  refine Gl.via (fun _ k => XS.aloadN X0.here hx rfl (hb hby d2_1) rfl rfl k) ?_
  show Gl p.tables e below s₁ (mkF m 2 #[.val (.ref sa), .val (.ref ca)] [(.ref ca), (.ref sa)]) G
  refine Gl.via (fun _ k => XS.iconst X0.here hx rfl (hb hby d2_2) k) ?_
  show Gl p.tables e below s₁ (mkF m 3 #[.val (.ref sa), .val (.ref ca)] [(.int (0 : Int32)), (.ref ca), (.ref sa)]) G
  refine Gl.via (fun _ k => XS.aloadN X0.here hx rfl (hb hby d2_3) rfl rfl k) ?_
  show Gl p.tables e below s₁ (mkF m 4 #[.val (.ref sa), .val (.ref ca)] [(.ref ca), (.int (0 : Int32)), (.ref ca), (.ref sa)]) G
  obtain ⟨cl1, Ar1, -, S1, N1, -, -⟩ := id F3_ca
  refine Gl.via (fun _ k => X0.arraylength hx (by rw [e0]; exact Ar1.1) (State.isArrayOf_alike hZ.alike Ar1.2.1) (g := (mkF m 4 #[.val (.ref sa), .val (.ref ca)] [(.ref ca), (.int (0 : Int32)), (.ref ca), (.ref sa)])) rfl rfl (hb hby d2_4) _ k) ?_
  rw [len_of S1 N1]
  show Gl p.tables e below s₁ (mkF m 5 #[.val (.ref sa), .val (.ref ca)] [(.int (2 : Int32)), (.int (0 : Int32)), (.ref ca), (.ref sa)]) G
  refine Gl.via (fun _ k => XS.aconstNull X0.here hx rfl (hb hby d2_5) k) ?_
  show Gl p.tables e below s₁ (mkF m 6 #[.val (.ref sa), .val (.ref ca)] [.null, (.int (2 : Int32)), (.int (0 : Int32)), (.ref ca), (.ref sa)]) G
  obtain ⟨_, _, ⟨T2, L2, k2, n2⟩, -, Xb2, hSb2, hgb2, ⟨Lc2, hQ2, l2, y2, z2, hC2⟩, st2⟩ := X0.specialBackS hx (y := (⟨"java/lang/String", "<init>", "([CIILjava/lang/Void;)V"⟩ : MethodName)) rfl hown (mvT hZ (hw _ (List.mem_of_getElem? (i := 11) rfl))) (mvT hZ (hw _ (List.mem_of_getElem? (i := 12) rfl))) (mvT hZ (hw _ (List.mem_of_getElem? (i := 14) rfl))) (by decide) (own_back (W := 0) (si4_2 l Z a0 hw [] sa u1 u2 ca ck c0 c1 cps h0 n0 Z0 F0_sa F1_sa_value F2_sa_coder F3_ca F4_java_lang_String F5_ hc0 hc1 hcps hp3 hp4) hZ (hw _ (List.mem_of_getElem? (i := 14) rfl)) (hw _ (List.mem_of_getElem? (i := 6) rfl)) (by decide) (by decide) hEL CR0.1 (own_xs ⟨(hSF sa (List.mem_of_getElem? (i := 0) rfl)), F0_sa.lt⟩ (fun _ z => nomatch z))) (g := (mkF m 6 #[.val (.ref sa), .val (.ref ca)] [.null, (.int (2 : Int32)), (.int (0 : Int32)), (.ref ca), (.ref sa)])) rfl (by rw [hml]; rfl) (Steps.refl _) (a := sa) (argsL := [(.ref ca), (.int (0 : Int32)), (.int (2 : Int32)), .null]) (rest := []) (lenOf pd_16 rfl) rfl (by show 2 * 0 + _ ≤ _; exact Nat.le_of_eq rfl) (hb hby d2_6) (fun _ _ => ⟨rfl, e0, (by decide : 0 + 1 ≤ _), (by decide : 0 + 2 ≤ _)⟩)
  dsimp only [Pt.U, Pt.locs, Pt.cells, Pt.slots] at Xb2 hSb2 hgb2 l2 y2 z2 st2 hQ2 hC2
  subst l2 y2 z2
  obtain ⟨X2, hS2, hZ2, hown2⟩ := rebS hS0 (by rw [e0]; exact hk0) Xb2 hSb2 hgb2 hZ hown
  have hk2 : T2.heap.size ≤ T2.heap.size := Nat.le_refl _
  obtain ⟨sb_2, sk_2, rfl, N2q, K2, P3, P4, P5, P6⟩ := hQ2
  have N2_ := Fr.app N0 N2q
  refine Gl.via (fun _ k => st2.trans k) ?_
  have CR7 : CHr Z own_EL s.vm h0 T2.vm T2.heap := CHr.trans CR0 hC2
  have SF8 : Safe Z own_EL T2.vm T2.heap sa := hC2.safe (by have q := F0_sa.lt; exact q) (hSF sa (List.mem_of_getElem? (i := 0) rfl))
  have Z9 : n0 ≤ T2.heap.size := Nat.le_trans Z0 K2.1
  have Y10 : h0.size ≤ T2.heap.size := Nat.le_trans (Nat.le_refl h0.size) K2.1
  have hl11 := Nat.le_trans hk0 K2.1
  show Gl p.tables e below T2 (mkF m 9 #[.val (.ref sa), .val (.ref ca)] []) G
  obtain ⟨fs, hr, hrun, hended, hRW⟩ := X2.leaveW hS2 hk2 (v := none) (fun _ => rfl)
  have hq : ∀ L, Fr n0 L → Q_si1_2 Z sa u1 u2 ca ck c0 c1 cps h0 n0 (none) T2.heap L := by
    intro L hN
    exact ⟨sb_2, sk_2, rfl, hN, ((Keep.refl h0 [sa]).trans K2 (allS (Or.inl (List.mem_of_getElem? (i := 0) rfl)) all0)), P3, P4, P5, P6⟩
  have hc : CHr Z own_EL s.vm s.heap T2.vm T2.heap := by
    rw [hh]
    exact CHr.trans CR7 (CHv.at X2 hZ2 hEL CR7.1)
  rw [hG]
  exact Gl.fin (X2.returnOut hx Bd.returns (hb hby d2_9) hr) ⟨_, hrun, hended, _, _, rfl, hq _ N2_, hc, ⟨hRW.1, hRW.2.1, hRW.2.2.1, hRW.2.2.2.mono (by decide) (by decide)⟩⟩
theorem ef_u5_3 (m : MethodId) (x0 : Addr) (x1 : Int32) (x2 : Addr) (x3 : Int32) (x4 : Int32) : entryFrame m #[(.ref x0), (.int x1), (.ref x2), (.int x3), (.int x4)] 7 = mkF m 0 #[.val (.ref x0), .val (.int x1), .val (.ref x2), .val (.int x3), .val (.int x4), .unset, .unset] [] := by first | (simp [entryFrame, mkF, argsToLocals, Value.category]; done) | rfl | (simp [entryFrame, mkF, argsToLocals, own_catI, own_catR, *]; done)
def Q_u5_3 (Z : State) (ca : Addr) (ck : ClassId) (db : Addr) (dk : ClassId) (c0 : Int32) (c1 : Int32) (c2 : Int32) (h0 : Heap) (n0 : Nat) (v : Option Value) (h : Heap) (L : List Loc) : Prop := v = some (.int (3 : Int32)) ∧ Fr n0 L ∧ Keep h0 h [db] ∧ Arv Z h db dk .byte (3 : Int32) [(.int (c0.toInt8.toInt32)), (.int (c1.toInt8.toInt32)), (.int (c2.toInt8.toInt32))] (.int (0 : Int32))
set_option maxRecDepth 65536 in
set_option maxHeartbeats 40000000 in
theorem u5_3 (l : Launch) (Z : State) (a0 : Array Value) (hw : ∀ d ∈ tables_1, d.before a0 Z = true) (ws : List Jvm.Cond) (ca : Addr) (ck : ClassId) (db : Addr) (dk : ClassId) (c0 : Int32) (c1 : Int32) (c2 : Int32) (h0 : Heap) (n0 : Nat) (Z0 : n0 ≤ h0.size) (F0_ca : Arv Z h0 ca ck .char (3 : Int32) [(.int c0), (.int c1), (.int c2)] (.int (0 : Int32))) (F1_db : Arv Z h0 db dk .byte (3 : Int32) [(.int (0 : Int32)), (.int (0 : Int32)), (.int (0 : Int32))] (.int (0 : Int32))) (hc0 : ¬ ((255 : Int32) < c0)) (hc1 : ¬ ((255 : Int32) < c1)) (hc2 : ¬ ((255 : Int32) < c2)) (hp3 : n0 ≤ db) (hp4 : ca ≠ db) :
    MetFree l (⟨"java/lang/StringUTF16", "compress", "([CI[BII)I"⟩ : MethodName) (head1 (Jvm.Cond.code (⟨"java/lang/StringUTF16", "compress", "([CI[BII)I"⟩ : MethodName) jdk_52_method_21_code 7 (some .int) :: ws) ({ frames := 0, cells := 0, slots := 0, locals := 0 } : Room)) (fun a U => a = #[(.ref ca), (.int (0 : Int32)), (.ref db), (.int (0 : Int32)), (.int (3 : Int32))] ∧ Z.Warmed39 U.vm ∧ U.heap = h0) (fun _ _ _ _ _ => True) (fun _ U o U' => ∃ v L, o = .returned v ∧ Q_u5_3 Z ca ck db dk c0 c1 c2 h0 n0 v U'.heap L ∧ FrameEnd U o U' L ({ frames := 0, cells := 0, slots := 0, locals := 0 } : Room).cells ({ frames := 0, cells := 0, slots := 0, locals := 0 } : Room).slots) := by
  refine MetFree.of_bodySF (plainFor_of_name pn_6) hisR ?_
  intro p e s m args below meth c s₁ Bd hml0 hP hK
  obtain ⟨rfl, hZ, hh⟩ := hP
  have hx := Bd.exec
  have hby := Bd.bytes
  have hml : c.maxLocals = 7 := hml0
  have hown : s.vm.findClass "java/lang/StringUTF16" = some m.cls := findClass_of_methodNamed Bd.named
  have hnm := (name_of_methodNamed Bd.named Bd.method).1
  have X0 : Stand p l e ({ frames := 0, cells := 0, slots := 0, locals := 0 } : Room) s m #[(.ref ca), (.int (0 : Int32)), (.ref db), (.int (0 : Int32)), (.int (3 : Int32))] below meth c s₁ [] 0 0 := Stand.of_body Bd
  have e0 : s₁.heap = h0 := by rw [← hh, Bd.state]; rfl
  have N0 := Fr.nil n0
  obtain ⟨G, hG⟩ : ∃ G : State → Prop, G = (fun U' => ∃ o, U'.status = .running ∧ Ended U' below o ∧ ∃ v L, o = .returned v ∧ Q_u5_3 Z ca ck db dk c0 c1 c2 h0 n0 v U'.heap L ∧ FrameEnd s o U' L ({ frames := 0, cells := 0, slots := 0, locals := 0 } : Room).cells ({ frames := 0, cells := 0, slots := 0, locals := 0 } : Room).slots) := ⟨_, rfl⟩
  suffices key : Gl p.tables e below s₁ (mkF m 0 #[.val (.ref ca), .val (.int (0 : Int32)), .val (.ref db), .val (.int (0 : Int32)), .val (.int (3 : Int32)), .unset, .unset] []) G by
    obtain ⟨s₂, k1, k2⟩ := key
    rw [hG] at k2
    obtain ⟨o, k3, k4, k5⟩ := k2
    exact ⟨s₂, o, castTop (ef_u5_3 m ca (0 : Int32) db (0 : Int32) (3 : Int32)) k1, k3, k4, k5⟩
  show Gl p.tables e below s₁ (mkF m 0 #[.val (.ref ca), .val (.int (0 : Int32)), .val (.ref db), .val (.int (0 : Int32)), .val (.int (3 : Int32)), .unset, .unset] []) G
  refine Gl.via (fun _ k => XS.iconst X0.here hx rfl (hb hby d6_0) k) ?_
  show Gl p.tables e below s₁ (mkF m 1 #[.val (.ref ca), .val (.int (0 : Int32)), .val (.ref db), .val (.int (0 : Int32)), .val (.int (3 : Int32)), .unset, .unset] [(.int (0 : Int32))]) G
  refine Gl.via (fun _ k => XS.istore X0.here hx rfl (hb hby d6_1) rfl (l' := #[.val (.ref ca), .val (.int (0 : Int32)), .val (.ref db), .val (.int (0 : Int32)), .val (.int (3 : Int32)), .val (.int (0 : Int32)), .unset]) rfl k) ?_
  show Gl p.tables e below s₁ (mkF m 3 #[.val (.ref ca), .val (.int (0 : Int32)), .val (.ref db), .val (.int (0 : Int32)), .val (.int (3 : Int32)), .val (.int (0 : Int32)), .unset] []) G
  refine Gl.via (fun _ k => XS.iload X0.here hx rfl (hb hby d6_3) rfl k) ?_
  show Gl p.tables e below s₁ (mkF m 5 #[.val (.ref ca), .val (.int (0 : Int32)), .val (.ref db), .val (.int (0 : Int32)), .val (.int (3 : Int32)), .val (.int (0 : Int32)), .unset] [(.int (0 : Int32))]) G
  refine Gl.via (fun _ k => XS.iload X0.here hx rfl (hb hby d6_5) rfl k) ?_
  show Gl p.tables e below s₁ (mkF m 7 #[.val (.ref ca), .val (.int (0 : Int32)), .val (.ref db), .val (.int (0 : Int32)), .val (.int (3 : Int32)), .val (.int (0 : Int32)), .unset] [(.int (3 : Int32)), (.int (0 : Int32))]) G
  refine Gl.via (fun _ k => XS.icmpNo X0.here hx rfl (hb hby d6_7) rfl (tlt (by decide)).2.1 k) ?_
  show Gl p.tables e below s₁ (mkF m 10 #[.val (.ref ca), .val (.int (0 : Int32)), .val (.ref db), .val (.int (0 : Int32)), .val (.int (3 : Int32)), .val (.int (0 : Int32)), .unset] []) G
  refine Gl.via (fun _ k => XS.aloadN X0.here hx rfl (hb hby d6_10) rfl rfl k) ?_
  show Gl p.tables e below s₁ (mkF m 11 #[.val (.ref ca), .val (.int (0 : Int32)), .val (.ref db), .val (.int (0 : Int32)), .val (.int (3 : Int32)), .val (.int (0 : Int32)), .unset] [(.ref ca)]) G
  refine Gl.via (fun _ k => XS.iloadN X0.here hx rfl (hb hby d6_11) rfl k) ?_
  show Gl p.tables e below s₁ (mkF m 12 #[.val (.ref ca), .val (.int (0 : Int32)), .val (.ref db), .val (.int (0 : Int32)), .val (.int (3 : Int32)), .val (.int (0 : Int32)), .unset] [(.int (0 : Int32)), (.ref ca)]) G
  obtain ⟨cl1, Ar1, q1, S1, N1, H1, G1⟩ := id F0_ca
  have hin1 : ¬ ((0 : Int32) < 0 ∨ cl1.slots.size ≤ ((0 : Int32)).toNatClampNeg) := inb_of S1 ⟨by decide, by decide⟩
  refine Gl.via (fun _ k => X0.caload hx (j := (0 : Int32)) (v := (.int c0)) (by rw [e0]; exact Ar1.1) (State.isArrayOf_alike hZ.alike Ar1.2.1) Ar1.2.2 hin1 (Has.at H1 hin1 rfl) (g := (mkF m 12 #[.val (.ref ca), .val (.int (0 : Int32)), .val (.ref db), .val (.int (0 : Int32)), .val (.int (3 : Int32)), .val (.int (0 : Int32)), .unset] [(.int (0 : Int32)), (.ref ca)])) rfl rfl (hb hby d6_12) _ k) ?_
  show Gl p.tables e below s₁ (mkF m 13 #[.val (.ref ca), .val (.int (0 : Int32)), .val (.ref db), .val (.int (0 : Int32)), .val (.int (3 : Int32)), .val (.int (0 : Int32)), .unset] [(.int c0)]) G
  refine Gl.via (fun _ k => XS.istore X0.here hx rfl (hb hby d6_13) rfl (l' := #[.val (.ref ca), .val (.int (0 : Int32)), .val (.ref db), .val (.int (0 : Int32)), .val (.int (3 : Int32)), .val (.int (0 : Int32)), .val (.int c0)]) rfl k) ?_
  show Gl p.tables e below s₁ (mkF m 15 #[.val (.ref ca), .val (.int (0 : Int32)), .val (.ref db), .val (.int (0 : Int32)), .val (.int (3 : Int32)), .val (.int (0 : Int32)), .val (.int c0)] []) G
  refine Gl.via (fun _ k => XS.iload X0.here hx rfl (hb hby d6_15) rfl k) ?_
  show Gl p.tables e below s₁ (mkF m 17 #[.val (.ref ca), .val (.int (0 : Int32)), .val (.ref db), .val (.int (0 : Int32)), .val (.int (3 : Int32)), .val (.int (0 : Int32)), .val (.int c0)] [(.int c0)]) G
  refine Gl.via (fun _ k => XS.sipush X0.here hx rfl (hb hby d6_17) k) ?_
  show Gl p.tables e below s₁ (mkF m 20 #[.val (.ref ca), .val (.int (0 : Int32)), .val (.ref db), .val (.int (0 : Int32)), .val (.int (3 : Int32)), .val (.int (0 : Int32)), .val (.int c0)] [(.int (255 : Int32)), (.int c0)]) G
  refine Gl.via (fun _ k => XS.icmpYes X0.here hx rfl (pc0 := 20) (pc' := 26) rfl (hb hby d6_20) rfl (flt hc0).2.2.2 (by decide) (by decide) k) ?_
  show Gl p.tables e below s₁ (mkF m 26 #[.val (.ref ca), .val (.int (0 : Int32)), .val (.ref db), .val (.int (0 : Int32)), .val (.int (3 : Int32)), .val (.int (0 : Int32)), .val (.int c0)] []) G
  refine Gl.via (fun _ k => XS.aloadN X0.here hx rfl (hb hby d6_26) rfl rfl k) ?_
  show Gl p.tables e below s₁ (mkF m 27 #[.val (.ref ca), .val (.int (0 : Int32)), .val (.ref db), .val (.int (0 : Int32)), .val (.int (3 : Int32)), .val (.int (0 : Int32)), .val (.int c0)] [(.ref db)]) G
  refine Gl.via (fun _ k => XS.iloadN X0.here hx rfl (hb hby d6_27) rfl k) ?_
  show Gl p.tables e below s₁ (mkF m 28 #[.val (.ref ca), .val (.int (0 : Int32)), .val (.ref db), .val (.int (0 : Int32)), .val (.int (3 : Int32)), .val (.int (0 : Int32)), .val (.int c0)] [(.int (0 : Int32)), (.ref db)]) G
  refine Gl.via (fun _ k => XS.iload X0.here hx rfl (hb hby d6_28) rfl k) ?_
  show Gl p.tables e below s₁ (mkF m 30 #[.val (.ref ca), .val (.int (0 : Int32)), .val (.ref db), .val (.int (0 : Int32)), .val (.int (3 : Int32)), .val (.int (0 : Int32)), .val (.int c0)] [(.int c0), (.int (0 : Int32)), (.ref db)]) G
  refine Gl.via (fun _ k => XS.i2b X0.here hx rfl (hb hby d6_30) rfl k) ?_
  show Gl p.tables e below s₁ (mkF m 31 #[.val (.ref ca), .val (.int (0 : Int32)), .val (.ref db), .val (.int (0 : Int32)), .val (.int (3 : Int32)), .val (.int (0 : Int32)), .val (.int c0)] [(.int (c0.toInt8.toInt32)), (.int (0 : Int32)), (.ref db)]) G
  obtain ⟨cl2, Ar2, q2, S2, N2, H2, G2⟩ := id F1_db
  have hin2 : ¬ ((0 : Int32) < 0 ∨ cl2.slots.size ≤ ((0 : Int32)).toNatClampNeg) := inb_of S2 ⟨by decide, by decide⟩
  obtain ⟨T2, h2, X2, e2, W2, st2⟩ := stB X0 hx hZ e0 Ar2 (j := (0 : Int32)) hin2 (g := (mkF m 31 #[.val (.ref ca), .val (.int (0 : Int32)), .val (.ref db), .val (.int (0 : Int32)), .val (.int (3 : Int32)), .val (.int (0 : Int32)), .val (.int c0)] [(.int (c0.toInt8.toInt32)), (.int (0 : Int32)), (.ref db)])) rfl rfl (hb hby d6_31)
  refine Gl.via st2 ?_
  have N2_ := Fr.snoc X2 N0 hp3
  have Z3 : n0 ≤ h2.size := Nat.le_trans Z0 (Keep.of_wr W2).1
  have Y4 : h0.size ≤ h2.size := Nat.le_trans (Nat.le_refl h0.size) (Keep.of_wr W2).1
  have V5 : Arv Z h2 db dk .byte (3 : Int32) [(.int (nar .byte (c0.toInt8.toInt32))), (.int (0 : Int32)), (.int (0 : Int32))] (.int (0 : Int32)) := Arv.set Ar2 q2 S2 N2 H2 G2 (fits_nar_byte _) W2 0 rfl (Nat.le_of_ble_eq_true rfl)
  have V6 : Arv Z h2 db dk .byte (3 : Int32) [(.int (c0.toInt8.toInt32)), (.int (0 : Int32)), (.int (0 : Int32))] (.int (0 : Int32)) := by rw [show ((.int (nar .byte (c0.toInt8.toInt32))) : Value) = (.int (c0.toInt8.toInt32)) from (congrArg Value.int (own_bb _))] at V5; exact V5
  show Gl p.tables e below T2 (mkF m 32 #[.val (.ref ca), .val (.int (0 : Int32)), .val (.ref db), .val (.int (0 : Int32)), .val (.int (3 : Int32)), .val (.int (0 : Int32)), .val (.int c0)] []) G
  refine Gl.via (fun _ k => XS.iinc X2.here hx rfl (hb hby d6_32) rfl (l' := #[.val (.ref ca), .val (.int (1 : Int32)), .val (.ref db), .val (.int (0 : Int32)), .val (.int (3 : Int32)), .val (.int (0 : Int32)), .val (.int c0)]) rfl k) ?_
  show Gl p.tables e below T2 (mkF m 35 #[.val (.ref ca), .val (.int (1 : Int32)), .val (.ref db), .val (.int (0 : Int32)), .val (.int (3 : Int32)), .val (.int (0 : Int32)), .val (.int c0)] []) G
  refine Gl.via (fun _ k => XS.iinc X2.here hx rfl (hb hby d6_35) rfl (l' := #[.val (.ref ca), .val (.int (1 : Int32)), .val (.ref db), .val (.int (1 : Int32)), .val (.int (3 : Int32)), .val (.int (0 : Int32)), .val (.int c0)]) rfl k) ?_
  show Gl p.tables e below T2 (mkF m 38 #[.val (.ref ca), .val (.int (1 : Int32)), .val (.ref db), .val (.int (1 : Int32)), .val (.int (3 : Int32)), .val (.int (0 : Int32)), .val (.int c0)] []) G
  refine Gl.via (fun _ k => XS.iinc X2.here hx rfl (hb hby d6_38) rfl (l' := #[.val (.ref ca), .val (.int (1 : Int32)), .val (.ref db), .val (.int (1 : Int32)), .val (.int (3 : Int32)), .val (.int (1 : Int32)), .val (.int c0)]) rfl k) ?_
  show Gl p.tables e below T2 (mkF m 41 #[.val (.ref ca), .val (.int (1 : Int32)), .val (.ref db), .val (.int (1 : Int32)), .val (.int (3 : Int32)), .val (.int (1 : Int32)), .val (.int c0)] []) G
  refine Gl.via (fun _ k => XS.goto X2.here hx rfl (pc0 := 41) (pc' := 3) rfl (hb hby d6_41) (by decide) (by decide) k) ?_
  show Gl p.tables e below T2 (mkF m 3 #[.val (.ref ca), .val (.int (1 : Int32)), .val (.ref db), .val (.int (1 : Int32)), .val (.int (3 : Int32)), .val (.int (1 : Int32)), .val (.int c0)] []) G
  refine Gl.via (fun _ k => XS.iload X2.here hx rfl (hb hby d6_3) rfl k) ?_
  show Gl p.tables e below T2 (mkF m 5 #[.val (.ref ca), .val (.int (1 : Int32)), .val (.ref db), .val (.int (1 : Int32)), .val (.int (3 : Int32)), .val (.int (1 : Int32)), .val (.int c0)] [(.int (1 : Int32))]) G
  refine Gl.via (fun _ k => XS.iload X2.here hx rfl (hb hby d6_5) rfl k) ?_
  show Gl p.tables e below T2 (mkF m 7 #[.val (.ref ca), .val (.int (1 : Int32)), .val (.ref db), .val (.int (1 : Int32)), .val (.int (3 : Int32)), .val (.int (1 : Int32)), .val (.int c0)] [(.int (3 : Int32)), (.int (1 : Int32))]) G
  refine Gl.via (fun _ k => XS.icmpNo X2.here hx rfl (hb hby d6_7) rfl (tlt (by decide)).2.1 k) ?_
  show Gl p.tables e below T2 (mkF m 10 #[.val (.ref ca), .val (.int (1 : Int32)), .val (.ref db), .val (.int (1 : Int32)), .val (.int (3 : Int32)), .val (.int (1 : Int32)), .val (.int c0)] []) G
  refine Gl.via (fun _ k => XS.aloadN X2.here hx rfl (hb hby d6_10) rfl rfl k) ?_
  show Gl p.tables e below T2 (mkF m 11 #[.val (.ref ca), .val (.int (1 : Int32)), .val (.ref db), .val (.int (1 : Int32)), .val (.int (3 : Int32)), .val (.int (1 : Int32)), .val (.int c0)] [(.ref ca)]) G
  refine Gl.via (fun _ k => XS.iloadN X2.here hx rfl (hb hby d6_11) rfl k) ?_
  show Gl p.tables e below T2 (mkF m 12 #[.val (.ref ca), .val (.int (1 : Int32)), .val (.ref db), .val (.int (1 : Int32)), .val (.int (3 : Int32)), .val (.int (1 : Int32)), .val (.int c0)] [(.int (1 : Int32)), (.ref ca)]) G
  have G7 : Arv Z h2 ca ck .char (3 : Int32) [(.int c0), (.int c1), (.int c2)] (.int (0 : Int32)) := (F0_ca.other W2 hp4)
  obtain ⟨cl8, Ar8, q8, S8, N8, H8, G8⟩ := id G7
  have hin8 : ¬ ((1 : Int32) < 0 ∨ cl8.slots.size ≤ ((1 : Int32)).toNatClampNeg) := inb_of S8 ⟨by decide, by decide⟩
  refine Gl.via (fun _ k => X2.caload hx (j := (1 : Int32)) (v := (.int c1)) (by rw [e2]; exact Ar8.1) (State.isArrayOf_alike hZ.alike Ar8.2.1) Ar8.2.2 hin8 (Has.at H8 hin8 rfl) (g := (mkF m 12 #[.val (.ref ca), .val (.int (1 : Int32)), .val (.ref db), .val (.int (1 : Int32)), .val (.int (3 : Int32)), .val (.int (1 : Int32)), .val (.int c0)] [(.int (1 : Int32)), (.ref ca)])) rfl rfl (hb hby d6_12) _ k) ?_
  show Gl p.tables e below T2 (mkF m 13 #[.val (.ref ca), .val (.int (1 : Int32)), .val (.ref db), .val (.int (1 : Int32)), .val (.int (3 : Int32)), .val (.int (1 : Int32)), .val (.int c0)] [(.int c1)]) G
  refine Gl.via (fun _ k => XS.istore X2.here hx rfl (hb hby d6_13) rfl (l' := #[.val (.ref ca), .val (.int (1 : Int32)), .val (.ref db), .val (.int (1 : Int32)), .val (.int (3 : Int32)), .val (.int (1 : Int32)), .val (.int c1)]) rfl k) ?_
  show Gl p.tables e below T2 (mkF m 15 #[.val (.ref ca), .val (.int (1 : Int32)), .val (.ref db), .val (.int (1 : Int32)), .val (.int (3 : Int32)), .val (.int (1 : Int32)), .val (.int c1)] []) G
  refine Gl.via (fun _ k => XS.iload X2.here hx rfl (hb hby d6_15) rfl k) ?_
  show Gl p.tables e below T2 (mkF m 17 #[.val (.ref ca), .val (.int (1 : Int32)), .val (.ref db), .val (.int (1 : Int32)), .val (.int (3 : Int32)), .val (.int (1 : Int32)), .val (.int c1)] [(.int c1)]) G
  refine Gl.via (fun _ k => XS.sipush X2.here hx rfl (hb hby d6_17) k) ?_
  show Gl p.tables e below T2 (mkF m 20 #[.val (.ref ca), .val (.int (1 : Int32)), .val (.ref db), .val (.int (1 : Int32)), .val (.int (3 : Int32)), .val (.int (1 : Int32)), .val (.int c1)] [(.int (255 : Int32)), (.int c1)]) G
  refine Gl.via (fun _ k => XS.icmpYes X2.here hx rfl (pc0 := 20) (pc' := 26) rfl (hb hby d6_20) rfl (flt hc1).2.2.2 (by decide) (by decide) k) ?_
  show Gl p.tables e below T2 (mkF m 26 #[.val (.ref ca), .val (.int (1 : Int32)), .val (.ref db), .val (.int (1 : Int32)), .val (.int (3 : Int32)), .val (.int (1 : Int32)), .val (.int c1)] []) G
  refine Gl.via (fun _ k => XS.aloadN X2.here hx rfl (hb hby d6_26) rfl rfl k) ?_
  show Gl p.tables e below T2 (mkF m 27 #[.val (.ref ca), .val (.int (1 : Int32)), .val (.ref db), .val (.int (1 : Int32)), .val (.int (3 : Int32)), .val (.int (1 : Int32)), .val (.int c1)] [(.ref db)]) G
  refine Gl.via (fun _ k => XS.iloadN X2.here hx rfl (hb hby d6_27) rfl k) ?_
  show Gl p.tables e below T2 (mkF m 28 #[.val (.ref ca), .val (.int (1 : Int32)), .val (.ref db), .val (.int (1 : Int32)), .val (.int (3 : Int32)), .val (.int (1 : Int32)), .val (.int c1)] [(.int (1 : Int32)), (.ref db)]) G
  refine Gl.via (fun _ k => XS.iload X2.here hx rfl (hb hby d6_28) rfl k) ?_
  show Gl p.tables e below T2 (mkF m 30 #[.val (.ref ca), .val (.int (1 : Int32)), .val (.ref db), .val (.int (1 : Int32)), .val (.int (3 : Int32)), .val (.int (1 : Int32)), .val (.int c1)] [(.int c1), (.int (1 : Int32)), (.ref db)]) G
  refine Gl.via (fun _ k => XS.i2b X2.here hx rfl (hb hby d6_30) rfl k) ?_
  show Gl p.tables e below T2 (mkF m 31 #[.val (.ref ca), .val (.int (1 : Int32)), .val (.ref db), .val (.int (1 : Int32)), .val (.int (3 : Int32)), .val (.int (1 : Int32)), .val (.int c1)] [(.int (c1.toInt8.toInt32)), (.int (1 : Int32)), (.ref db)]) G
  obtain ⟨cl9, Ar9, q9, S9, N9, H9, G9⟩ := id V6
  have hin9 : ¬ ((1 : Int32) < 0 ∨ cl9.slots.size ≤ ((1 : Int32)).toNatClampNeg) := inb_of S9 ⟨by decide, by decide⟩
  obtain ⟨T9, h9, X9, e9, W9, st9⟩ := stB X2 hx hZ e2 Ar9 (j := (1 : Int32)) hin9 (g := (mkF m 31 #[.val (.ref ca), .val (.int (1 : Int32)), .val (.ref db), .val (.int (1 : Int32)), .val (.int (3 : Int32)), .val (.int (1 : Int32)), .val (.int c1)] [(.int (c1.toInt8.toInt32)), (.int (1 : Int32)), (.ref db)])) rfl rfl (hb hby d6_31)
  refine Gl.via st9 ?_
  have N9_ := Fr.snoc X9 N2_ hp3
  have Z10 : n0 ≤ h9.size := Nat.le_trans Z3 (Keep.of_wr W9).1
  have Y11 : h0.size ≤ h9.size := Nat.le_trans Y4 (Keep.of_wr W9).1
  have V12 : Arv Z h9 db dk .byte (3 : Int32) [(.int (c0.toInt8.toInt32)), (.int (nar .byte (c1.toInt8.toInt32))), (.int (0 : Int32))] (.int (0 : Int32)) := Arv.set Ar9 q9 S9 N9 H9 G9 (fits_nar_byte _) W9 1 rfl (Nat.le_of_ble_eq_true rfl)
  have V13 : Arv Z h9 db dk .byte (3 : Int32) [(.int (c0.toInt8.toInt32)), (.int (c1.toInt8.toInt32)), (.int (0 : Int32))] (.int (0 : Int32)) := by rw [show ((.int (nar .byte (c1.toInt8.toInt32))) : Value) = (.int (c1.toInt8.toInt32)) from (congrArg Value.int (own_bb _))] at V12; exact V12
  show Gl p.tables e below T9 (mkF m 32 #[.val (.ref ca), .val (.int (1 : Int32)), .val (.ref db), .val (.int (1 : Int32)), .val (.int (3 : Int32)), .val (.int (1 : Int32)), .val (.int c1)] []) G
  refine Gl.via (fun _ k => XS.iinc X9.here hx rfl (hb hby d6_32) rfl (l' := #[.val (.ref ca), .val (.int (2 : Int32)), .val (.ref db), .val (.int (1 : Int32)), .val (.int (3 : Int32)), .val (.int (1 : Int32)), .val (.int c1)]) rfl k) ?_
  show Gl p.tables e below T9 (mkF m 35 #[.val (.ref ca), .val (.int (2 : Int32)), .val (.ref db), .val (.int (1 : Int32)), .val (.int (3 : Int32)), .val (.int (1 : Int32)), .val (.int c1)] []) G
  refine Gl.via (fun _ k => XS.iinc X9.here hx rfl (hb hby d6_35) rfl (l' := #[.val (.ref ca), .val (.int (2 : Int32)), .val (.ref db), .val (.int (2 : Int32)), .val (.int (3 : Int32)), .val (.int (1 : Int32)), .val (.int c1)]) rfl k) ?_
  show Gl p.tables e below T9 (mkF m 38 #[.val (.ref ca), .val (.int (2 : Int32)), .val (.ref db), .val (.int (2 : Int32)), .val (.int (3 : Int32)), .val (.int (1 : Int32)), .val (.int c1)] []) G
  refine Gl.via (fun _ k => XS.iinc X9.here hx rfl (hb hby d6_38) rfl (l' := #[.val (.ref ca), .val (.int (2 : Int32)), .val (.ref db), .val (.int (2 : Int32)), .val (.int (3 : Int32)), .val (.int (2 : Int32)), .val (.int c1)]) rfl k) ?_
  show Gl p.tables e below T9 (mkF m 41 #[.val (.ref ca), .val (.int (2 : Int32)), .val (.ref db), .val (.int (2 : Int32)), .val (.int (3 : Int32)), .val (.int (2 : Int32)), .val (.int c1)] []) G
  refine Gl.via (fun _ k => XS.goto X9.here hx rfl (pc0 := 41) (pc' := 3) rfl (hb hby d6_41) (by decide) (by decide) k) ?_
  show Gl p.tables e below T9 (mkF m 3 #[.val (.ref ca), .val (.int (2 : Int32)), .val (.ref db), .val (.int (2 : Int32)), .val (.int (3 : Int32)), .val (.int (2 : Int32)), .val (.int c1)] []) G
  refine Gl.via (fun _ k => XS.iload X9.here hx rfl (hb hby d6_3) rfl k) ?_
  show Gl p.tables e below T9 (mkF m 5 #[.val (.ref ca), .val (.int (2 : Int32)), .val (.ref db), .val (.int (2 : Int32)), .val (.int (3 : Int32)), .val (.int (2 : Int32)), .val (.int c1)] [(.int (2 : Int32))]) G
  refine Gl.via (fun _ k => XS.iload X9.here hx rfl (hb hby d6_5) rfl k) ?_
  show Gl p.tables e below T9 (mkF m 7 #[.val (.ref ca), .val (.int (2 : Int32)), .val (.ref db), .val (.int (2 : Int32)), .val (.int (3 : Int32)), .val (.int (2 : Int32)), .val (.int c1)] [(.int (3 : Int32)), (.int (2 : Int32))]) G
  refine Gl.via (fun _ k => XS.icmpNo X9.here hx rfl (hb hby d6_7) rfl (tlt (by decide)).2.1 k) ?_
  show Gl p.tables e below T9 (mkF m 10 #[.val (.ref ca), .val (.int (2 : Int32)), .val (.ref db), .val (.int (2 : Int32)), .val (.int (3 : Int32)), .val (.int (2 : Int32)), .val (.int c1)] []) G
  refine Gl.via (fun _ k => XS.aloadN X9.here hx rfl (hb hby d6_10) rfl rfl k) ?_
  show Gl p.tables e below T9 (mkF m 11 #[.val (.ref ca), .val (.int (2 : Int32)), .val (.ref db), .val (.int (2 : Int32)), .val (.int (3 : Int32)), .val (.int (2 : Int32)), .val (.int c1)] [(.ref ca)]) G
  refine Gl.via (fun _ k => XS.iloadN X9.here hx rfl (hb hby d6_11) rfl k) ?_
  show Gl p.tables e below T9 (mkF m 12 #[.val (.ref ca), .val (.int (2 : Int32)), .val (.ref db), .val (.int (2 : Int32)), .val (.int (3 : Int32)), .val (.int (2 : Int32)), .val (.int c1)] [(.int (2 : Int32)), (.ref ca)]) G
  have G14 : Arv Z h9 ca ck .char (3 : Int32) [(.int c0), (.int c1), (.int c2)] (.int (0 : Int32)) := (G7.other W9 hp4)
  obtain ⟨cl15, Ar15, q15, S15, N15, H15, G15⟩ := id G14
  have hin15 : ¬ ((2 : Int32) < 0 ∨ cl15.slots.size ≤ ((2 : Int32)).toNatClampNeg) := inb_of S15 ⟨by decide, by decide⟩
  refine Gl.via (fun _ k => X9.caload hx (j := (2 : Int32)) (v := (.int c2)) (by rw [e9]; exact Ar15.1) (State.isArrayOf_alike hZ.alike Ar15.2.1) Ar15.2.2 hin15 (Has.at H15 hin15 rfl) (g := (mkF m 12 #[.val (.ref ca), .val (.int (2 : Int32)), .val (.ref db), .val (.int (2 : Int32)), .val (.int (3 : Int32)), .val (.int (2 : Int32)), .val (.int c1)] [(.int (2 : Int32)), (.ref ca)])) rfl rfl (hb hby d6_12) _ k) ?_
  show Gl p.tables e below T9 (mkF m 13 #[.val (.ref ca), .val (.int (2 : Int32)), .val (.ref db), .val (.int (2 : Int32)), .val (.int (3 : Int32)), .val (.int (2 : Int32)), .val (.int c1)] [(.int c2)]) G
  refine Gl.via (fun _ k => XS.istore X9.here hx rfl (hb hby d6_13) rfl (l' := #[.val (.ref ca), .val (.int (2 : Int32)), .val (.ref db), .val (.int (2 : Int32)), .val (.int (3 : Int32)), .val (.int (2 : Int32)), .val (.int c2)]) rfl k) ?_
  show Gl p.tables e below T9 (mkF m 15 #[.val (.ref ca), .val (.int (2 : Int32)), .val (.ref db), .val (.int (2 : Int32)), .val (.int (3 : Int32)), .val (.int (2 : Int32)), .val (.int c2)] []) G
  refine Gl.via (fun _ k => XS.iload X9.here hx rfl (hb hby d6_15) rfl k) ?_
  show Gl p.tables e below T9 (mkF m 17 #[.val (.ref ca), .val (.int (2 : Int32)), .val (.ref db), .val (.int (2 : Int32)), .val (.int (3 : Int32)), .val (.int (2 : Int32)), .val (.int c2)] [(.int c2)]) G
  refine Gl.via (fun _ k => XS.sipush X9.here hx rfl (hb hby d6_17) k) ?_
  show Gl p.tables e below T9 (mkF m 20 #[.val (.ref ca), .val (.int (2 : Int32)), .val (.ref db), .val (.int (2 : Int32)), .val (.int (3 : Int32)), .val (.int (2 : Int32)), .val (.int c2)] [(.int (255 : Int32)), (.int c2)]) G
  refine Gl.via (fun _ k => XS.icmpYes X9.here hx rfl (pc0 := 20) (pc' := 26) rfl (hb hby d6_20) rfl (flt hc2).2.2.2 (by decide) (by decide) k) ?_
  show Gl p.tables e below T9 (mkF m 26 #[.val (.ref ca), .val (.int (2 : Int32)), .val (.ref db), .val (.int (2 : Int32)), .val (.int (3 : Int32)), .val (.int (2 : Int32)), .val (.int c2)] []) G
  refine Gl.via (fun _ k => XS.aloadN X9.here hx rfl (hb hby d6_26) rfl rfl k) ?_
  show Gl p.tables e below T9 (mkF m 27 #[.val (.ref ca), .val (.int (2 : Int32)), .val (.ref db), .val (.int (2 : Int32)), .val (.int (3 : Int32)), .val (.int (2 : Int32)), .val (.int c2)] [(.ref db)]) G
  refine Gl.via (fun _ k => XS.iloadN X9.here hx rfl (hb hby d6_27) rfl k) ?_
  show Gl p.tables e below T9 (mkF m 28 #[.val (.ref ca), .val (.int (2 : Int32)), .val (.ref db), .val (.int (2 : Int32)), .val (.int (3 : Int32)), .val (.int (2 : Int32)), .val (.int c2)] [(.int (2 : Int32)), (.ref db)]) G
  refine Gl.via (fun _ k => XS.iload X9.here hx rfl (hb hby d6_28) rfl k) ?_
  show Gl p.tables e below T9 (mkF m 30 #[.val (.ref ca), .val (.int (2 : Int32)), .val (.ref db), .val (.int (2 : Int32)), .val (.int (3 : Int32)), .val (.int (2 : Int32)), .val (.int c2)] [(.int c2), (.int (2 : Int32)), (.ref db)]) G
  refine Gl.via (fun _ k => XS.i2b X9.here hx rfl (hb hby d6_30) rfl k) ?_
  show Gl p.tables e below T9 (mkF m 31 #[.val (.ref ca), .val (.int (2 : Int32)), .val (.ref db), .val (.int (2 : Int32)), .val (.int (3 : Int32)), .val (.int (2 : Int32)), .val (.int c2)] [(.int (c2.toInt8.toInt32)), (.int (2 : Int32)), (.ref db)]) G
  obtain ⟨cl16, Ar16, q16, S16, N16, H16, G16⟩ := id V13
  have hin16 : ¬ ((2 : Int32) < 0 ∨ cl16.slots.size ≤ ((2 : Int32)).toNatClampNeg) := inb_of S16 ⟨by decide, by decide⟩
  obtain ⟨T16, h16, X16, e16, W16, st16⟩ := stB X9 hx hZ e9 Ar16 (j := (2 : Int32)) hin16 (g := (mkF m 31 #[.val (.ref ca), .val (.int (2 : Int32)), .val (.ref db), .val (.int (2 : Int32)), .val (.int (3 : Int32)), .val (.int (2 : Int32)), .val (.int c2)] [(.int (c2.toInt8.toInt32)), (.int (2 : Int32)), (.ref db)])) rfl rfl (hb hby d6_31)
  refine Gl.via st16 ?_
  have N16_ := Fr.snoc X16 N9_ hp3
  have Z17 : n0 ≤ h16.size := Nat.le_trans Z10 (Keep.of_wr W16).1
  have Y18 : h0.size ≤ h16.size := Nat.le_trans Y11 (Keep.of_wr W16).1
  have V19 : Arv Z h16 db dk .byte (3 : Int32) [(.int (c0.toInt8.toInt32)), (.int (c1.toInt8.toInt32)), (.int (nar .byte (c2.toInt8.toInt32)))] (.int (0 : Int32)) := Arv.set Ar16 q16 S16 N16 H16 G16 (fits_nar_byte _) W16 2 rfl (Nat.le_of_ble_eq_true rfl)
  have V20 : Arv Z h16 db dk .byte (3 : Int32) [(.int (c0.toInt8.toInt32)), (.int (c1.toInt8.toInt32)), (.int (c2.toInt8.toInt32))] (.int (0 : Int32)) := by rw [show ((.int (nar .byte (c2.toInt8.toInt32))) : Value) = (.int (c2.toInt8.toInt32)) from (congrArg Value.int (own_bb _))] at V19; exact V19
  show Gl p.tables e below T16 (mkF m 32 #[.val (.ref ca), .val (.int (2 : Int32)), .val (.ref db), .val (.int (2 : Int32)), .val (.int (3 : Int32)), .val (.int (2 : Int32)), .val (.int c2)] []) G
  refine Gl.via (fun _ k => XS.iinc X16.here hx rfl (hb hby d6_32) rfl (l' := #[.val (.ref ca), .val (.int (3 : Int32)), .val (.ref db), .val (.int (2 : Int32)), .val (.int (3 : Int32)), .val (.int (2 : Int32)), .val (.int c2)]) rfl k) ?_
  show Gl p.tables e below T16 (mkF m 35 #[.val (.ref ca), .val (.int (3 : Int32)), .val (.ref db), .val (.int (2 : Int32)), .val (.int (3 : Int32)), .val (.int (2 : Int32)), .val (.int c2)] []) G
  refine Gl.via (fun _ k => XS.iinc X16.here hx rfl (hb hby d6_35) rfl (l' := #[.val (.ref ca), .val (.int (3 : Int32)), .val (.ref db), .val (.int (3 : Int32)), .val (.int (3 : Int32)), .val (.int (2 : Int32)), .val (.int c2)]) rfl k) ?_
  show Gl p.tables e below T16 (mkF m 38 #[.val (.ref ca), .val (.int (3 : Int32)), .val (.ref db), .val (.int (3 : Int32)), .val (.int (3 : Int32)), .val (.int (2 : Int32)), .val (.int c2)] []) G
  refine Gl.via (fun _ k => XS.iinc X16.here hx rfl (hb hby d6_38) rfl (l' := #[.val (.ref ca), .val (.int (3 : Int32)), .val (.ref db), .val (.int (3 : Int32)), .val (.int (3 : Int32)), .val (.int (3 : Int32)), .val (.int c2)]) rfl k) ?_
  show Gl p.tables e below T16 (mkF m 41 #[.val (.ref ca), .val (.int (3 : Int32)), .val (.ref db), .val (.int (3 : Int32)), .val (.int (3 : Int32)), .val (.int (3 : Int32)), .val (.int c2)] []) G
  refine Gl.via (fun _ k => XS.goto X16.here hx rfl (pc0 := 41) (pc' := 3) rfl (hb hby d6_41) (by decide) (by decide) k) ?_
  show Gl p.tables e below T16 (mkF m 3 #[.val (.ref ca), .val (.int (3 : Int32)), .val (.ref db), .val (.int (3 : Int32)), .val (.int (3 : Int32)), .val (.int (3 : Int32)), .val (.int c2)] []) G
  refine Gl.via (fun _ k => XS.iload X16.here hx rfl (hb hby d6_3) rfl k) ?_
  show Gl p.tables e below T16 (mkF m 5 #[.val (.ref ca), .val (.int (3 : Int32)), .val (.ref db), .val (.int (3 : Int32)), .val (.int (3 : Int32)), .val (.int (3 : Int32)), .val (.int c2)] [(.int (3 : Int32))]) G
  refine Gl.via (fun _ k => XS.iload X16.here hx rfl (hb hby d6_5) rfl k) ?_
  show Gl p.tables e below T16 (mkF m 7 #[.val (.ref ca), .val (.int (3 : Int32)), .val (.ref db), .val (.int (3 : Int32)), .val (.int (3 : Int32)), .val (.int (3 : Int32)), .val (.int c2)] [(.int (3 : Int32)), (.int (3 : Int32))]) G
  refine Gl.via (fun _ k => XS.icmpYes X16.here hx rfl (pc0 := 7) (pc' := 44) rfl (hb hby d6_7) rfl (flt (by decide)).2.1 (by decide) (by decide) k) ?_
  show Gl p.tables e below T16 (mkF m 44 #[.val (.ref ca), .val (.int (3 : Int32)), .val (.ref db), .val (.int (3 : Int32)), .val (.int (3 : Int32)), .val (.int (3 : Int32)), .val (.int c2)] []) G
  refine Gl.via (fun _ k => XS.iload X16.here hx rfl (hb hby d6_44) rfl k) ?_
  show Gl p.tables e below T16 (mkF m 46 #[.val (.ref ca), .val (.int (3 : Int32)), .val (.ref db), .val (.int (3 : Int32)), .val (.int (3 : Int32)), .val (.int (3 : Int32)), .val (.int c2)] [(.int (3 : Int32))]) G
  obtain ⟨fs, hr, hrun, hended, hW, hsame⟩ := X16.leave (v := some (.int (3 : Int32))) (fun h => by rw [Bd.returns] at h; cases h)
  have hq : ∀ L, Fr n0 L → Q_u5_3 Z ca ck db dk c0 c1 c2 h0 n0 (some (.int (3 : Int32))) T16.heap L := by
    intro L hN
    rw [e16]
    exact ⟨rfl, hN, ((((Keep.refl h0 [db]).wr W2 (Or.inl (List.mem_of_getElem? (i := 0) rfl))).wr W9 (Or.inl (List.mem_of_getElem? (i := 0) rfl))).wr W16 (Or.inl (List.mem_of_getElem? (i := 0) rfl))), V20⟩
  rw [hG]
  exact Gl.fin (retOut X16 hx Bd.returns rfl (Or.inl ⟨rfl, Or.inl rfl, _, rfl⟩) (hb hby d6_46) hr) ⟨_, hrun, hended, _, _, rfl, hq _ N16_, ⟨_, rfl⟩, hW, hsame.mono (by decide) (by decide)⟩
theorem ef_u3_3 (m : MethodId) (x0 : Addr) (x1 : Int32) (x2 : Int32) : entryFrame m #[(.ref x0), (.int x1), (.int x2)] 6 = mkF m 0 #[.val (.ref x0), .val (.int x1), .val (.int x2), .unset, .unset, .unset] [] := by first | (simp [entryFrame, mkF, argsToLocals, Value.category]; done) | rfl | (simp [entryFrame, mkF, argsToLocals, own_catI, own_catR, *]; done)
def Q_u3_3 (Z : State) (ca : Addr) (ck : ClassId) (c0 : Int32) (c1 : Int32) (c2 : Int32) (h0 : Heap) (n0 : Nat) (v : Option Value) (h : Heap) (L : List Loc) : Prop := ∃ (b : Addr), ∃ (k : ClassId), v = some (.ref b) ∧ Fr n0 L ∧ Keep h0 h [] ∧ Arv Z h b k .byte (3 : Int32) [(.int (c0.toInt8.toInt32)), (.int (c1.toInt8.toInt32)), (.int (c2.toInt8.toInt32))] (.int (0 : Int32)) ∧ (h0.size ≤ b)
set_option maxRecDepth 65536 in
set_option maxHeartbeats 40000000 in
theorem u3_3 (l : Launch) (Z : State) (a0 : Array Value) (hw : ∀ d ∈ tables_1, d.before a0 Z = true) (ws : List Jvm.Cond) (ca : Addr) (ck : ClassId) (c0 : Int32) (c1 : Int32) (c2 : Int32) (h0 : Heap) (n0 : Nat) (Z0 : n0 ≤ h0.size) (F0_ca : Arv Z h0 ca ck .char (3 : Int32) [(.int c0), (.int c1), (.int c2)] (.int (0 : Int32))) (hc0 : ¬ ((255 : Int32) < c0)) (hc1 : ¬ ((255 : Int32) < c1)) (hc2 : ¬ ((255 : Int32) < c2)) :
    MetFree l (⟨"java/lang/StringUTF16", "compress", "([CII)[B"⟩ : MethodName) (head1 (Jvm.Cond.code (⟨"java/lang/StringUTF16", "compress", "([CII)[B"⟩ : MethodName) jdk_52_method_16_code 6 (some (.array .byte)) :: ws) ({ frames := 1, cells := 1, slots := 3, locals := 18 } : Room)) (fun a U => a = #[(.ref ca), (.int (0 : Int32)), (.int (3 : Int32))] ∧ Z.Warmed39 U.vm ∧ U.heap = h0) (fun _ _ _ _ _ => True) (fun _ U o U' => ∃ v L, o = .returned v ∧ Q_u3_3 Z ca ck c0 c1 c2 h0 n0 v U'.heap L ∧ FrameEnd U o U' L ({ frames := 1, cells := 1, slots := 3, locals := 18 } : Room).cells ({ frames := 1, cells := 1, slots := 3, locals := 18 } : Room).slots) := by
  refine MetFree.of_bodySF (plainFor_of_name pn_6) hisR ?_
  intro p e s m args below meth c s₁ Bd hml0 hP hK
  obtain ⟨rfl, hZ, hh⟩ := hP
  have hx := Bd.exec
  have hby := Bd.bytes
  have hml : c.maxLocals = 6 := hml0
  have hown : s.vm.findClass "java/lang/StringUTF16" = some m.cls := findClass_of_methodNamed Bd.named
  have hnm := (name_of_methodNamed Bd.named Bd.method).1
  have X0 : Stand p l e ({ frames := 1, cells := 1, slots := 3, locals := 18 } : Room) s m #[(.ref ca), (.int (0 : Int32)), (.int (3 : Int32))] below meth c s₁ [] 0 0 := Stand.of_body Bd
  have e0 : s₁.heap = h0 := by rw [← hh, Bd.state]; rfl
  have N0 := Fr.nil n0
  obtain ⟨G, hG⟩ : ∃ G : State → Prop, G = (fun U' => ∃ o, U'.status = .running ∧ Ended U' below o ∧ ∃ v L, o = .returned v ∧ Q_u3_3 Z ca ck c0 c1 c2 h0 n0 v U'.heap L ∧ FrameEnd s o U' L ({ frames := 1, cells := 1, slots := 3, locals := 18 } : Room).cells ({ frames := 1, cells := 1, slots := 3, locals := 18 } : Room).slots) := ⟨_, rfl⟩
  suffices key : Gl p.tables e below s₁ (mkF m 0 #[.val (.ref ca), .val (.int (0 : Int32)), .val (.int (3 : Int32)), .unset, .unset, .unset] []) G by
    obtain ⟨s₂, k1, k2⟩ := key
    rw [hG] at k2
    obtain ⟨o, k3, k4, k5⟩ := k2
    exact ⟨s₂, o, castTop (ef_u3_3 m ca (0 : Int32) (3 : Int32)) k1, k3, k4, k5⟩
  show Gl p.tables e below s₁ (mkF m 0 #[.val (.ref ca), .val (.int (0 : Int32)), .val (.int (3 : Int32)), .unset, .unset, .unset] []) G
  refine Gl.via (fun _ k => XS.iloadN X0.here hx rfl (hb hby d5_0) rfl k) ?_
  show Gl p.tables e below s₁ (mkF m 1 #[.val (.ref ca), .val (.int (0 : Int32)), .val (.int (3 : Int32)), .unset, .unset, .unset] [(.int (3 : Int32))]) G
  obtain ⟨T1, h1, k1, X1, e1, E1, A1, st1⟩ := newP X0 hx hZ (hw _ (List.mem_of_getElem? (i := 19) rfl)) e0 (g := (mkF m 1 #[.val (.ref ca), .val (.int (0 : Int32)), .val (.int (3 : Int32)), .unset, .unset, .unset] [(.int (3 : Int32))])) rfl (hb hby d5_1) rfl (by decide) (cap := 3) (by decide) (by decide) (by decide) (by decide)
  obtain ⟨b1, g1⟩ : ∃ z, z = h0.size := ⟨_, rfl⟩
  rw [← g1] at A1 st1
  have ne2 : ca ≠ b1 := Nat.ne_of_lt (Nat.lt_of_lt_of_le F0_ca.lt (Nat.le_of_eq g1.symm))
  have ge3 : n0 ≤ b1 := Nat.le_trans Z0 (Nat.le_of_eq g1.symm)
  have gz4 : h0.size ≤ b1 := Nat.le_trans (Nat.le_refl h0.size) (Nat.le_of_eq g1.symm)
  refine Gl.via st1 ?_
  have Z5 : n0 ≤ h1.size := Nat.le_trans Z0 E1.1
  have Y6 : h0.size ≤ h1.size := Nat.le_trans (Nat.le_refl h0.size) E1.1
  have V7 : Arv Z h1 b1 k1 .byte (3 : Int32) [(.int (0 : Int32)), (.int (0 : Int32)), (.int (0 : Int32))] (.int (0 : Int32)) := (Arv.new A1 (by decide)).pad (pad_rep [] (.int (0 : Int32)) 3)
  show Gl p.tables e below T1 (mkF m 3 #[.val (.ref ca), .val (.int (0 : Int32)), .val (.int (3 : Int32)), .unset, .unset, .unset] [(.ref b1)]) G
  refine Gl.via (fun _ k => XS.astoreN X1.here hx rfl (hb hby d5_3) rfl rfl (l' := #[.val (.ref ca), .val (.int (0 : Int32)), .val (.int (3 : Int32)), .val (.ref b1), .unset, .unset]) rfl k) ?_
  show Gl p.tables e below T1 (mkF m 4 #[.val (.ref ca), .val (.int (0 : Int32)), .val (.int (3 : Int32)), .val (.ref b1), .unset, .unset] []) G
  refine Gl.via (fun _ k => XS.aloadN X1.here hx rfl (hb hby d5_4) rfl rfl k) ?_
  show Gl p.tables e below T1 (mkF m 5 #[.val (.ref ca), .val (.int (0 : Int32)), .val (.int (3 : Int32)), .val (.ref b1), .unset, .unset] [(.ref ca)]) G
  refine Gl.via (fun _ k => XS.iloadN X1.here hx rfl (hb hby d5_5) rfl k) ?_
  show Gl p.tables e below T1 (mkF m 6 #[.val (.ref ca), .val (.int (0 : Int32)), .val (.int (3 : Int32)), .val (.ref b1), .unset, .unset] [(.int (0 : Int32)), (.ref ca)]) G
  refine Gl.via (fun _ k => XS.aloadN X1.here hx rfl (hb hby d5_6) rfl rfl k) ?_
  show Gl p.tables e below T1 (mkF m 7 #[.val (.ref ca), .val (.int (0 : Int32)), .val (.int (3 : Int32)), .val (.ref b1), .unset, .unset] [(.ref b1), (.int (0 : Int32)), (.ref ca)]) G
  refine Gl.via (fun _ k => XS.iconst X1.here hx rfl (hb hby d5_7) k) ?_
  show Gl p.tables e below T1 (mkF m 8 #[.val (.ref ca), .val (.int (0 : Int32)), .val (.int (3 : Int32)), .val (.ref b1), .unset, .unset] [(.int (0 : Int32)), (.ref b1), (.int (0 : Int32)), (.ref ca)]) G
  refine Gl.via (fun _ k => XS.iloadN X1.here hx rfl (hb hby d5_8) rfl k) ?_
  show Gl p.tables e below T1 (mkF m 9 #[.val (.ref ca), .val (.int (0 : Int32)), .val (.int (3 : Int32)), .val (.ref b1), .unset, .unset] [(.int (3 : Int32)), (.int (0 : Int32)), (.ref b1), (.int (0 : Int32)), (.ref ca)]) G
  have G9 : Arv Z h1 ca ck .char (3 : Int32) [(.int c0), (.int c1), (.int c2)] (.int (0 : Int32)) := (F0_ca.ext E1)
  obtain ⟨_, _, ⟨T8, L8, k8, n8⟩, -, X8, ⟨Lc8, hQ8, l8, y8, z8⟩, st8⟩ := Jvm.LawKit.callS X1 hx (y := (⟨"java/lang/StringUTF16", "compress", "([CI[BII)I"⟩ : MethodName)) hown (mvT hZ (hw _ (List.mem_of_getElem? (i := 31) rfl))) (mvT hZ (hw _ (List.mem_of_getElem? (i := 32) rfl))) (mvT hZ (hw _ (List.mem_of_getElem? (i := 29) rfl))) (mvT hZ (hw _ (List.mem_of_getElem? (i := 33) rfl))) (by decide) (backOf (W := 0) (u5_3 l Z a0 hw [] ca ck b1 k1 c0 c1 c2 h1 n0 Z5 G9 V7 hc0 hc1 hc2 ge3 ne2) hZ (hw _ (List.mem_of_getElem? (i := 33) rfl)) (hw _ (List.mem_of_getElem? (i := 29) rfl)) (by decide) (by decide)) (g := (mkF m 9 #[.val (.ref ca), .val (.int (0 : Int32)), .val (.int (3 : Int32)), .val (.ref b1), .unset, .unset] [(.int (3 : Int32)), (.int (0 : Int32)), (.ref b1), (.int (0 : Int32)), (.ref ca)])) rfl (by rw [hml]; rfl) (argsL := [(.ref ca), (.int (0 : Int32)), (.ref b1), (.int (0 : Int32)), (.int (3 : Int32))]) (rest := []) (lenOf pd_17 rfl) rfl (by show 2 * 0 + _ ≤ _; exact Nat.le_of_eq rfl) (hb hby d5_9) (fun _ _ => ⟨rfl, e1, (by decide : 1 + 0 ≤ _), (by decide : 3 + 0 ≤ _)⟩)
  dsimp only [Pt.U, Pt.locs, Pt.cells, Pt.slots] at X8 l8 y8 z8 st8 hQ8
  subst l8 y8 z8
  obtain ⟨rfl, N8q, K8, P10⟩ := hQ8
  have N8_ := Fr.app N0 N8q
  refine Gl.via (fun _ k => st8 _ k) ?_
  have Z11 : n0 ≤ T8.heap.size := Nat.le_trans Z5 K8.1
  have Y12 : h0.size ≤ T8.heap.size := Nat.le_trans Y6 K8.1
  show Gl p.tables e below T8 (mkF m 12 #[.val (.ref ca), .val (.int (0 : Int32)), .val (.int (3 : Int32)), .val (.ref b1), .unset, .unset] [(.int (3 : Int32))]) G
  refine Gl.via (fun _ k => XS.istore X8.here hx rfl (hb hby d5_12) rfl (l' := #[.val (.ref ca), .val (.int (0 : Int32)), .val (.int (3 : Int32)), .val (.ref b1), .val (.int (3 : Int32)), .unset]) rfl k) ?_
  show Gl p.tables e below T8 (mkF m 14 #[.val (.ref ca), .val (.int (0 : Int32)), .val (.int (3 : Int32)), .val (.ref b1), .val (.int (3 : Int32)), .unset] []) G
  refine Gl.via (fun _ k => XS.iload X8.here hx rfl (hb hby d5_14) rfl k) ?_
  show Gl p.tables e below T8 (mkF m 16 #[.val (.ref ca), .val (.int (0 : Int32)), .val (.int (3 : Int32)), .val (.ref b1), .val (.int (3 : Int32)), .unset] [(.int (3 : Int32))]) G
  refine Gl.via (fun _ k => XS.iloadN X8.here hx rfl (hb hby d5_16) rfl k) ?_
  show Gl p.tables e below T8 (mkF m 17 #[.val (.ref ca), .val (.int (0 : Int32)), .val (.int (3 : Int32)), .val (.ref b1), .val (.int (3 : Int32)), .unset] [(.int (3 : Int32)), (.int (3 : Int32))]) G
  refine Gl.via (fun _ k => XS.icmpYes X8.here hx rfl (pc0 := 17) (pc' := 57) rfl (hb hby d5_17) rfl (teq (by decide)).1 (by decide) (by decide) k) ?_
  show Gl p.tables e below T8 (mkF m 57 #[.val (.ref ca), .val (.int (0 : Int32)), .val (.int (3 : Int32)), .val (.ref b1), .val (.int (3 : Int32)), .unset] []) G
  refine Gl.via (fun _ k => XS.aloadN X8.here hx rfl (hb hby d5_57) rfl rfl k) ?_
  show Gl p.tables e below T8 (mkF m 58 #[.val (.ref ca), .val (.int (0 : Int32)), .val (.int (3 : Int32)), .val (.ref b1), .val (.int (3 : Int32)), .unset] [(.ref b1)]) G
  obtain ⟨fs, hr, hrun, hended, hW, hsame⟩ := X8.leave (v := some (.ref b1)) (fun h => by rw [Bd.returns] at h; cases h)
  have hq : ∀ L, Fr n0 L → Q_u3_3 Z ca ck c0 c1 c2 h0 n0 (some (.ref b1)) T8.heap L := by
    intro L hN
    exact ⟨b1, k1, rfl, hN, (((Keep.refl h0 []).ext E1).trans K8 (allS (Or.inr gz4) all0)), P10, gz4⟩
  rw [hG]
  exact Gl.fin (retOut X8 hx Bd.returns rfl (Or.inr (Or.inr (Or.inr (Or.inr ⟨rfl, rfl, rfl⟩)))) (hb hby d5_58) hr) ⟨_, hrun, hended, _, _, rfl, hq _ N8_, ⟨_, rfl⟩, hW, hsame.mono (by decide) (by decide)⟩
theorem ef_u_cl_3 (m : MethodId) (x0 : Addr) (x1 : Int32) : entryFrame m #[(.ref x0), (.int x1)] 2 = mkF m 0 #[.val (.ref x0), .val (.int x1)] [] := by first | (simp [entryFrame, mkF, argsToLocals, Value.category]; done) | rfl | (simp [entryFrame, mkF, argsToLocals, own_catI, own_catR, *]; done)
def Q_u_cl_3 (Z : State) (b : Addr) (kc : ClassId) (y0 : Int32) (y1 : Int32) (y2 : Int32) (h0 : Heap) (n0 : Nat) (v : Option Value) (h : Heap) (L : List Loc) : Prop := v = some (.int (0 : Int32)) ∧ Fr n0 L ∧ h = h0
set_option maxRecDepth 65536 in
set_option maxHeartbeats 40000000 in
theorem u_cl_3 (l : Launch) (Z : State) (a0 : Array Value) (hw : ∀ d ∈ tables_1, d.before a0 Z = true) (ws : List Jvm.Cond) (b : Addr) (kc : ClassId) (y0 : Int32) (y1 : Int32) (y2 : Int32) (h0 : Heap) (n0 : Nat) (Z0 : n0 ≤ h0.size) (F0_b : Arv Z h0 b kc .byte (3 : Int32) [(.int y0), (.int y1), (.int y2)] (.int (0 : Int32))) :
    MetFree l (⟨"java/lang/StringUTF16", "coderFromArrayLen", "([BI)B"⟩ : MethodName) (head1 (Jvm.Cond.code (⟨"java/lang/StringUTF16", "coderFromArrayLen", "([BI)B"⟩ : MethodName) jdk_52_method_15_code 2 (some .byte) :: ws) ({ frames := 0, cells := 0, slots := 0, locals := 0 } : Room)) (fun a U => a = #[(.ref b), (.int (3 : Int32))] ∧ Z.Warmed39 U.vm ∧ U.heap = h0) (fun _ _ _ _ _ => True) (fun _ U o U' => ∃ v L, o = .returned v ∧ Q_u_cl_3 Z b kc y0 y1 y2 h0 n0 v U'.heap L ∧ FrameEnd U o U' L ({ frames := 0, cells := 0, slots := 0, locals := 0 } : Room).cells ({ frames := 0, cells := 0, slots := 0, locals := 0 } : Room).slots) := by
  refine MetFree.of_bodySF (plainFor_of_name pn_6) hisR ?_
  intro p e s m args below meth c s₁ Bd hml0 hP hK
  obtain ⟨rfl, hZ, hh⟩ := hP
  have hx := Bd.exec
  have hby := Bd.bytes
  have hml : c.maxLocals = 2 := hml0
  have hown : s.vm.findClass "java/lang/StringUTF16" = some m.cls := findClass_of_methodNamed Bd.named
  have hnm := (name_of_methodNamed Bd.named Bd.method).1
  have X0 : Stand p l e ({ frames := 0, cells := 0, slots := 0, locals := 0 } : Room) s m #[(.ref b), (.int (3 : Int32))] below meth c s₁ [] 0 0 := Stand.of_body Bd
  have e0 : s₁.heap = h0 := by rw [← hh, Bd.state]; rfl
  have N0 := Fr.nil n0
  obtain ⟨G, hG⟩ : ∃ G : State → Prop, G = (fun U' => ∃ o, U'.status = .running ∧ Ended U' below o ∧ ∃ v L, o = .returned v ∧ Q_u_cl_3 Z b kc y0 y1 y2 h0 n0 v U'.heap L ∧ FrameEnd s o U' L ({ frames := 0, cells := 0, slots := 0, locals := 0 } : Room).cells ({ frames := 0, cells := 0, slots := 0, locals := 0 } : Room).slots) := ⟨_, rfl⟩
  suffices key : Gl p.tables e below s₁ (mkF m 0 #[.val (.ref b), .val (.int (3 : Int32))] []) G by
    obtain ⟨s₂, k1, k2⟩ := key
    rw [hG] at k2
    obtain ⟨o, k3, k4, k5⟩ := k2
    exact ⟨s₂, o, castTop (ef_u_cl_3 m b (3 : Int32)) k1, k3, k4, k5⟩
  show Gl p.tables e below s₁ (mkF m 0 #[.val (.ref b), .val (.int (3 : Int32))] []) G
  refine Gl.via (fun _ k => XS.iloadN X0.here hx rfl (hb hby d7_0) rfl k) ?_
  show Gl p.tables e below s₁ (mkF m 1 #[.val (.ref b), .val (.int (3 : Int32))] [(.int (3 : Int32))]) G
  refine Gl.via (fun _ k => XS.aloadN X0.here hx rfl (hb hby d7_1) rfl rfl k) ?_
  show Gl p.tables e below s₁ (mkF m 2 #[.val (.ref b), .val (.int (3 : Int32))] [(.ref b), (.int (3 : Int32))]) G
  obtain ⟨cl1, Ar1, -, S1, N1, -, -⟩ := id F0_b
  refine Gl.via (fun _ k => X0.arraylength hx (by rw [e0]; exact Ar1.1) (State.isArrayOf_alike hZ.alike Ar1.2.1) (g := (mkF m 2 #[.val (.ref b), .val (.int (3 : Int32))] [(.ref b), (.int (3 : Int32))])) rfl rfl (hb hby d7_2) _ k) ?_
  rw [len_of S1 N1]
  show Gl p.tables e below s₁ (mkF m 3 #[.val (.ref b), .val (.int (3 : Int32))] [(.int (3 : Int32)), (.int (3 : Int32))]) G
  refine Gl.via (fun _ k => XS.isub X0.here hx rfl (hb hby d7_3) rfl k) ?_
  show Gl p.tables e below s₁ (mkF m 4 #[.val (.ref b), .val (.int (3 : Int32))] [(.int (0 : Int32))]) G
  refine Gl.via (fun _ k => XS.bipush X0.here hx rfl (hb hby d7_4) k) ?_
  show Gl p.tables e below s₁ (mkF m 6 #[.val (.ref b), .val (.int (3 : Int32))] [(.int (31 : Int32)), (.int (0 : Int32))]) G
  refine Gl.via (fun _ k => XS.iushr X0.here hx rfl (hb hby d7_6) rfl k) ?_
  show Gl p.tables e below s₁ (mkF m 7 #[.val (.ref b), .val (.int (3 : Int32))] [(.int (0 : Int32))]) G
  refine Gl.via (fun _ k => XS.i2b X0.here hx rfl (hb hby d7_7) rfl k) ?_
  show Gl p.tables e below s₁ (mkF m 8 #[.val (.ref b), .val (.int (3 : Int32))] [(.int (0 : Int32))]) G
  obtain ⟨fs, hr, hrun, hended, hW, hsame⟩ := X0.leave (v := some (.int (0 : Int32))) (fun h => by rw [Bd.returns] at h; cases h)
  have hq : ∀ L, Fr n0 L → Q_u_cl_3 Z b kc y0 y1 y2 h0 n0 (some (.int (0 : Int32))) s₁.heap L := by
    intro L hN
    rw [e0]
    exact ⟨rfl, hN, rfl⟩
  rw [hG]
  exact Gl.fin (retN X0 hx (t := .byte) Bd.returns (by simp) (hb hby d7_8) hr) ⟨_, hrun, hended, _, _, rfl, hq _ N0, ⟨_, rfl⟩, hW, hsame.mono (by decide) (by decide)⟩
theorem ef_si4_3 (m : MethodId) (x0 : Addr) (x1 : Addr) (x2 : Int32) (x3 : Int32) : entryFrame m #[(.ref x0), (.ref x1), (.int x2), (.int x3), .null] 6 = mkF m 0 #[.val (.ref x0), .val (.ref x1), .val (.int x2), .val (.int x3), .val .null, .unset] [] := by first | (simp [entryFrame, mkF, argsToLocals, Value.category]; done) | rfl | (simp [entryFrame, mkF, argsToLocals, own_catI, own_catR, *]; done)
def Q_si4_3 (Z : State) (sa : Addr) (u1 : Value) (u2 : Value) (ca : Addr) (ck : ClassId) (c0 : Int32) (c1 : Int32) (c2 : Int32) (cps : Int32) (h0 : Heap) (n0 : Nat) (v : Option Value) (h : Heap) (L : List Loc) : Prop := ∃ (sb : Addr), ∃ (sk : ClassId), v = none ∧ Fr n0 L ∧ Keep h0 h [sa] ∧ Exa Z h sa "java/lang/String" ∧ Fld Z h sa "java/lang/String" "coder" "B" (.int (0 : Int32)) ∧ Fld Z h sa "java/lang/String" "value" "[B" (.ref sb) ∧ Arv Z h sb sk .byte (own_ln ([(c0.toInt8.toInt32), (c1.toInt8.toInt32), (c2.toInt8.toInt32)] : List Int32)) (([(c0.toInt8.toInt32), (c1.toInt8.toInt32), (c2.toInt8.toInt32)] : List Int32).map Value.int) (.int (0 : Int32))
set_option maxRecDepth 65536 in
set_option maxHeartbeats 40000000 in
theorem si4_3 (l : Launch) (Z : State) (a0 : Array Value) (hw : ∀ d ∈ tables_1, d.before a0 Z = true) (ws : List Jvm.Cond) (sa : Addr) (u1 : Value) (u2 : Value) (ca : Addr) (ck : ClassId) (c0 : Int32) (c1 : Int32) (c2 : Int32) (cps : Int32) (h0 : Heap) (n0 : Nat) (Z0 : n0 ≤ h0.size) (F0_sa : Exa Z h0 sa "java/lang/String") (F1_sa_value : Fld Z h0 sa "java/lang/String" "value" "[B" u1) (F2_sa_coder : Fld Z h0 sa "java/lang/String" "coder" "B" u2) (F3_ca : Arv Z h0 ca ck .char (3 : Int32) [(.int c0), (.int c1), (.int c2)] (.int (0 : Int32))) (F4_java_lang_String : Sta Z Z.heap "java/lang/String" "COMPACT_STRINGS" "Z" (.int cps)) (F5_ : Old Z n0 h0) (hc0 : ¬ ((255 : Int32) < c0)) (hc1 : ¬ ((255 : Int32) < c1)) (hc2 : ¬ ((255 : Int32) < c2)) (hcps : ¬ (cps = (0 : Int32))) (hp4 : n0 ≤ sa) (hp5 : sa ≠ ca) :
    MetFree l (⟨"java/lang/String", "<init>", "([CIILjava/lang/Void;)V"⟩ : MethodName) (head1 (Jvm.Cond.code (⟨"java/lang/String", "<init>", "([CIILjava/lang/Void;)V"⟩ : MethodName) jdk_42_method_149_code 6 none :: ws) ({ frames := 2, cells := 1, slots := 3, locals := 35 } : Room)) (fun a U => a = #[(.ref sa), (.ref ca), (.int (0 : Int32)), (.int (3 : Int32)), .null] ∧ Z.Warmed39 U.vm ∧ U.heap = h0 ∧ CHv Z own_EL U.vm h0 ∧ ∀ x ∈ ([sa] : List Addr), Safe Z own_EL U.vm h0 x) (fun _ _ _ _ _ => True) (fun _ U o U' => ∃ v L, o = .returned v ∧ Q_si4_3 Z sa u1 u2 ca ck c0 c1 c2 cps h0 n0 v U'.heap L ∧ CHr Z own_EL U.vm U.heap U'.vm U'.heap ∧ ReturnedEndW U o U' L ({ frames := 2, cells := 1, slots := 3, locals := 35 } : Room).cells ({ frames := 2, cells := 1, slots := 3, locals := 35 } : Room).slots) := by
  refine MetFree.of_bodySF (plainFor_of_name pn_0) hisR ?_
  intro p e s m args below meth c s₁ Bd hml0 hP hK
  obtain ⟨rfl, hZ, hh, hCH, hSF⟩ := hP
  have hx := Bd.exec
  have hby := Bd.bytes
  have hml : c.maxLocals = 6 := hml0
  have hown : s.vm.findClass "java/lang/String" = some m.cls := findClass_of_methodNamed Bd.named
  have hnm := (name_of_methodNamed Bd.named Bd.method).1
  have X0 : Stand p l e ({ frames := 2, cells := 1, slots := 3, locals := 35 } : Room) (s.setVm s.vm) m #[(.ref sa), (.ref ca), (.int (0 : Int32)), (.int (3 : Int32)), .null] below meth c s₁ [] 0 0 := Stand.of_body Bd
  have e0 : s₁.heap = h0 := by rw [← hh, Bd.state]; rfl
  have N0 := Fr.nil n0
  have hS0 : s.Since s.vm 0 := (State.WarmedH.refl s).since 0
  have hk0 : 0 ≤ h0.size := Nat.zero_le _
  have hEL := own_ew hw
  have CR0 : CHr Z own_EL s.vm h0 s.vm h0 := CHr.refl hCH
  obtain ⟨G, hG⟩ : ∃ G : State → Prop, G = (fun U' => ∃ o, U'.status = .running ∧ Ended U' below o ∧ ∃ v L, o = .returned v ∧ Q_si4_3 Z sa u1 u2 ca ck c0 c1 c2 cps h0 n0 v U'.heap L ∧ CHr Z own_EL s.vm s.heap U'.vm U'.heap ∧ ReturnedEndW s o U' L ({ frames := 2, cells := 1, slots := 3, locals := 35 } : Room).cells ({ frames := 2, cells := 1, slots := 3, locals := 35 } : Room).slots) := ⟨_, rfl⟩
  suffices key : Gl p.tables e below s₁ (mkF m 0 #[.val (.ref sa), .val (.ref ca), .val (.int (0 : Int32)), .val (.int (3 : Int32)), .val .null, .unset] []) G by
    obtain ⟨s₂, k1, k2⟩ := key
    rw [hG] at k2
    obtain ⟨o, k3, k4, k5⟩ := k2
    exact ⟨s₂, o, castTop (ef_si4_3 m sa ca (0 : Int32) (3 : Int32)) k1, k3, k4, k5⟩
  show Gl p.tables e below s₁ (mkF m 0 #[.val (.ref sa), .val (.ref ca), .val (.int (0 : Int32)), .val (.int (3 : Int32)), .val .null, .unset] []) G
  refine Gl.via (fun _ k => XS.aloadN X0.here hx rfl (hb hby d3_0) rfl rfl k) ?_
  show Gl p.tables e below s₁ (mkF m 1 #[.val (.ref sa), .val (.ref ca), .val (.int (0 : Int32)), .val (.int (3 : Int32)), .val .null, .unset] [(.ref sa)]) G
  obtain ⟨T1, X1, e1, st1⟩ := initO X0 hx hZ hown (hw _ (List.mem_of_getElem? (i := 15) rfl)) (hw _ (List.mem_of_getElem? (i := 16) rfl)) (hw _ (List.mem_of_getElem? (i := 17) rfl)) e0 (g := (mkF m 1 #[.val (.ref sa), .val (.ref ca), .val (.int (0 : Int32)), .val (.int (3 : Int32)), .val .null, .unset] [(.ref sa)])) rfl (by rw [hml]; rfl) rfl (hb hby d3_1) (by decide) (W := 0) (by show 2 * 0 + _ ≤ _; exact Nat.le_of_eq rfl) (by decide)
  refine Gl.via st1 ?_
  show Gl p.tables e below T1 (mkF m 4 #[.val (.ref sa), .val (.ref ca), .val (.int (0 : Int32)), .val (.int (3 : Int32)), .val .null, .unset] []) G
  refine Gl.via (fun _ k => XS.iloadN X1.here hx rfl (hb hby d3_4) rfl k) ?_
  show Gl p.tables e below T1 (mkF m 5 #[.val (.ref sa), .val (.ref ca), .val (.int (0 : Int32)), .val (.int (3 : Int32)), .val .null, .unset] [(.int (3 : Int32))]) G
  refine Gl.via (fun _ k => XS.ifYes X1.here hx rfl (pc0 := 5) (pc' := 27) rfl (hb hby d3_5) rfl ((if0 _ _).trans (feq (by decide)).2) (by decide) (by decide) k) ?_
  show Gl p.tables e below T1 (mkF m 27 #[.val (.ref sa), .val (.ref ca), .val (.int (0 : Int32)), .val (.int (3 : Int32)), .val .null, .unset] []) G
  have G2 : Sta Z h0 "java/lang/String" "COMPACT_STRINGS" "Z" (.int cps) := F4_java_lang_String.ext F5_.2
  obtain ⟨T3, X3, e3, st3⟩ := getS2 X1 hx hZ hown (host := "") (Or.inl (hw _ (List.mem_of_getElem? (i := 26) rfl))) Via.refl e1 G2 (g := (mkF m 27 #[.val (.ref sa), .val (.ref ca), .val (.int (0 : Int32)), .val (.int (3 : Int32)), .val .null, .unset] [])) rfl (hb hby d3_27)
  refine Gl.via st3 ?_
  show Gl p.tables e below T3 (mkF m 30 #[.val (.ref sa), .val (.ref ca), .val (.int (0 : Int32)), .val (.int (3 : Int32)), .val .null, .unset] [(.int cps)]) G
  refine Gl.via (fun _ k => XS.ifNo X3.here hx rfl (hb hby d3_30) rfl ((if0 _ _).trans (feq hcps).1) k) ?_
  show Gl p.tables e below T3 (mkF m 33 #[.val (.ref sa), .val (.ref ca), .val (.int (0 : Int32)), .val (.int (3 : Int32)), .val .null, .unset] []) G
  refine Gl.via (fun _ k => XS.aloadN X3.here hx rfl (hb hby d3_33) rfl rfl k) ?_
  show Gl p.tables e below T3 (mkF m 34 #[.val (.ref sa), .val (.ref ca), .val (.int (0 : Int32)), .val (.int (3 : Int32)), .val .null, .unset] [(.ref ca)]) G
  refine Gl.via (fun _ k => XS.iloadN X3.here hx rfl (hb hby d3_34) rfl k) ?_
  show Gl p.tables e below T3 (mkF m 35 #[.val (.ref sa), .val (.ref ca), .val (.int (0 : Int32)), .val (.int (3 : Int32)), .val .null, .unset] [(.int (0 : Int32)), (.ref ca)]) G
  refine Gl.via (fun _ k => XS.iloadN X3.here hx rfl (hb hby d3_35) rfl k) ?_
  show Gl p.tables e below T3 (mkF m 36 #[.val (.ref sa), .val (.ref ca), .val (.int (0 : Int32)), .val (.int (3 : Int32)), .val .null, .unset] [(.int (3 : Int32)), (.int (0 : Int32)), (.ref ca)]) G
  obtain ⟨_, _, ⟨T4, L4, k4, n4⟩, -, X4, ⟨Lc4, hQ4, l4, y4, z4⟩, st4⟩ := Jvm.LawKit.callS X3 hx (y := (⟨"java/lang/StringUTF16", "compress", "([CII)[B"⟩ : MethodName)) hown (mvT hZ (hw _ (List.mem_of_getElem? (i := 27) rfl))) (mvT hZ (hw _ (List.mem_of_getElem? (i := 28) rfl))) (mvT hZ (hw _ (List.mem_of_getElem? (i := 29) rfl))) (mvT hZ (hw _ (List.mem_of_getElem? (i := 30) rfl))) (by decide) (backOf (W := 0) (u3_3 l Z a0 hw [] ca ck c0 c1 c2 h0 n0 Z0 F3_ca hc0 hc1 hc2) hZ (hw _ (List.mem_of_getElem? (i := 30) rfl)) (hw _ (List.mem_of_getElem? (i := 29) rfl)) (by decide) (by decide)) (g := (mkF m 36 #[.val (.ref sa), .val (.ref ca), .val (.int (0 : Int32)), .val (.int (3 : Int32)), .val .null, .unset] [(.int (3 : Int32)), (.int (0 : Int32)), (.ref ca)])) rfl (by rw [hml]; rfl) (argsL := [(.ref ca), (.int (0 : Int32)), (.int (3 : Int32))]) (rest := []) (lenOf pd_18 rfl) rfl (by show 2 * 0 + _ ≤ _; exact Nat.le_of_eq rfl) (hb hby d3_36) (fun _ _ => ⟨rfl, e3, (by decide : 0 + 1 ≤ _), (by decide : 0 + 3 ≤ _)⟩)
  dsimp only [Pt.U, Pt.locs, Pt.cells, Pt.slots] at X4 l4 y4 z4 st4 hQ4
  subst l4 y4 z4
  obtain ⟨b_4, k_4, rfl, N4q, K4, P5, R6⟩ := hQ4
  have N4_ := Fr.app N0 N4q
  refine Gl.via (fun _ k => st4 _ k) ?_
  have ne7 : sa ≠ b_4 := Nat.ne_of_lt (Nat.lt_of_lt_of_le F0_sa.lt R6)
  have ne8 : ca ≠ b_4 := Nat.ne_of_lt (Nat.lt_of_lt_of_le F3_ca.lt R6)
  have ge9 : n0 ≤ b_4 := Nat.le_trans Z0 R6
  have gz10 : h0.size ≤ b_4 := Nat.le_trans (Nat.le_refl h0.size) R6
  have CR11 : CHr Z own_EL s.vm h0 s.vm T4.heap := CHr.trans CR0 (CHr.keep K4 sf0 CR0.1)
  have SF12 : Safe Z own_EL s.vm T4.heap sa := Safe.keep K4 sf0 CR0.1 (hSF sa (List.mem_of_getElem? (i := 0) rfl))
  have SF13 : Safe Z own_EL s.vm T4.heap b_4 := Safe.keep K4 sf0 CR0.1 (Safe.new R6)
  have Z14 : n0 ≤ T4.heap.size := Nat.le_trans Z0 K4.1
  have Y15 : h0.size ≤ T4.heap.size := Nat.le_trans (Nat.le_refl h0.size) K4.1
  have hl16 := Nat.le_trans hk0 K4.1
  show Gl p.tables e below T4 (mkF m 39 #[.val (.ref sa), .val (.ref ca), .val (.int (0 : Int32)), .val (.int (3 : Int32)), .val .null, .unset] [(.ref b_4)]) G
  refine Gl.via (fun _ k => XS.astore X4.here hx rfl (hb hby d3_39) rfl rfl (l' := #[.val (.ref sa), .val (.ref ca), .val (.int (0 : Int32)), .val (.int (3 : Int32)), .val .null, .val (.ref b_4)]) rfl k) ?_
  show Gl p.tables e below T4 (mkF m 41 #[.val (.ref sa), .val (.ref ca), .val (.int (0 : Int32)), .val (.int (3 : Int32)), .val .null, .val (.ref b_4)] []) G
  refine Gl.via (fun _ k => XS.aloadN X4.here hx rfl (hb hby d3_41) rfl rfl k) ?_
  show Gl p.tables e below T4 (mkF m 42 #[.val (.ref sa), .val (.ref ca), .val (.int (0 : Int32)), .val (.int (3 : Int32)), .val .null, .val (.ref b_4)] [(.ref sa)]) G
  refine Gl.via (fun _ k => XS.aload X4.here hx rfl (hb hby d3_42) rfl rfl k) ?_
  show Gl p.tables e below T4 (mkF m 44 #[.val (.ref sa), .val (.ref ca), .val (.int (0 : Int32)), .val (.int (3 : Int32)), .val .null, .val (.ref b_4)] [(.ref b_4), (.ref sa)]) G
  refine Gl.via (fun _ k => XS.iloadN X4.here hx rfl (hb hby d3_44) rfl k) ?_
  show Gl p.tables e below T4 (mkF m 45 #[.val (.ref sa), .val (.ref ca), .val (.int (0 : Int32)), .val (.int (3 : Int32)), .val .null, .val (.ref b_4)] [(.int (3 : Int32)), (.ref b_4), (.ref sa)]) G
  obtain ⟨_, _, ⟨T17, L17, k17, n17⟩, -, X17, ⟨Lc17, hQ17, l17, y17, z17⟩, st17⟩ := Jvm.LawKit.callS X4 hx (y := (⟨"java/lang/StringUTF16", "coderFromArrayLen", "([BI)B"⟩ : MethodName)) hown (mvT hZ (hw _ (List.mem_of_getElem? (i := 34) rfl))) (mvT hZ (hw _ (List.mem_of_getElem? (i := 35) rfl))) (mvT hZ (hw _ (List.mem_of_getElem? (i := 29) rfl))) (mvT hZ (hw _ (List.mem_of_getElem? (i := 36) rfl))) (by decide) (backOf (W := 1) (u_cl_3 l Z a0 hw [] b_4 k_4 (c0.toInt8.toInt32) (c1.toInt8.toInt32) (c2.toInt8.toInt32) T4.heap n0 Z14 P5) hZ (hw _ (List.mem_of_getElem? (i := 36) rfl)) (hw _ (List.mem_of_getElem? (i := 29) rfl)) (by decide) (by decide)) (g := (mkF m 45 #[.val (.ref sa), .val (.ref ca), .val (.int (0 : Int32)), .val (.int (3 : Int32)), .val .null, .val (.ref b_4)] [(.int (3 : Int32)), (.ref b_4), (.ref sa)])) rfl (by rw [hml]; rfl) (argsL := [(.ref b_4), (.int (3 : Int32))]) (rest := [(.ref sa)]) (lenOf pd_19 rfl) rfl (by show 2 * 0 + _ ≤ _; exact Nat.le_of_eq rfl) (hb hby d3_45) (fun _ _ => ⟨rfl, rfl, (by decide : 1 + 0 ≤ _), (by decide : 3 + 0 ≤ _)⟩)
  dsimp only [Pt.U, Pt.locs, Pt.cells, Pt.slots] at X17 l17 y17 z17 st17 hQ17
  subst l17 y17 z17
  obtain ⟨rfl, N17q, eh17⟩ := hQ17
  have N17_ := Fr.app N4_ N17q
  refine Gl.via (fun _ k => st17 _ k) ?_
  show Gl p.tables e below T17 (mkF m 48 #[.val (.ref sa), .val (.ref ca), .val (.int (0 : Int32)), .val (.int (3 : Int32)), .val .null, .val (.ref b_4)] [(.int (0 : Int32)), (.ref sa)]) G
  have G18 : Fld Z T4.heap sa "java/lang/String" "coder" "B" u2 := (F2_sa_coder.keep K4 nin0)
  have G19 : Exa Z T4.heap sa "java/lang/String" := (F0_sa.keep K4)
  obtain ⟨T20, h20, X20, e20, W20, st20⟩ := putFN X17 hx hZ hown (hw _ (List.mem_of_getElem? (i := 25) rfl)) Via.refl eh17 G18 G19 (Or.inr ⟨(hw _ (List.mem_of_getElem? (i := 21) rfl)), rfl, hnm⟩) (hw _ (List.mem_of_getElem? (i := 5) rfl)) (ty := .byte) (v' := (.int (0 : Int32))) (by decide) rfl (by decide) (g := (mkF m 48 #[.val (.ref sa), .val (.ref ca), .val (.int (0 : Int32)), .val (.int (3 : Int32)), .val .null, .val (.ref b_4)] [(.int (0 : Int32)), (.ref sa)])) rfl rfl (hb hby d3_48)
  have CR21 : CHr Z own_EL s.vm h0 s.vm h20 := CHr.trans CR11 (CHr.wr W20 SF12 CR11.1)
  have SF22 : Safe Z own_EL s.vm h20 sa := Safe.wr W20 SF12 CR11.1 SF12
  have SF23 : Safe Z own_EL s.vm h20 b_4 := Safe.wr W20 SF12 CR11.1 SF13
  refine Gl.via st20 ?_
  have N20_ := Fr.snoc X20 N17_ hp4
  have Z24 : n0 ≤ h20.size := Nat.le_trans Z14 (Keep.of_wr W20).1
  have Y25 : h0.size ≤ h20.size := Nat.le_trans Y15 (Keep.of_wr W20).1
  have hl26 := Nat.le_trans hl16 (Keep.of_wr W20).1
  show Gl p.tables e below T20 (mkF m 51 #[.val (.ref sa), .val (.ref ca), .val (.int (0 : Int32)), .val (.int (3 : Int32)), .val .null, .val (.ref b_4)] []) G
  refine Gl.via (fun _ k => XS.aloadN X20.here hx rfl (hb hby d3_51) rfl rfl k) ?_
  show Gl p.tables e below T20 (mkF m 52 #[.val (.ref sa), .val (.ref ca), .val (.int (0 : Int32)), .val (.int (3 : Int32)), .val .null, .val (.ref b_4)] [(.ref sa)]) G
  refine Gl.via (fun _ k => XS.aload X20.here hx rfl (hb hby d3_52) rfl rfl k) ?_
  show Gl p.tables e below T20 (mkF m 54 #[.val (.ref sa), .val (.ref ca), .val (.int (0 : Int32)), .val (.int (3 : Int32)), .val .null, .val (.ref b_4)] [(.ref b_4), (.ref sa)]) G
  have G27 : Fld Z h20 sa "java/lang/String" "value" "[B" u1 := ((F1_sa_value.keep K4 nin0).other W20 (Or.inr (slot_ne (Or.inr (hw _ (List.mem_of_getElem? (i := 20) rfl))) (Or.inr (hw _ (List.mem_of_getElem? (i := 21) rfl))) (by decide) (t := (.array .byte)) (t' := .byte) (by decide) (by decide))))
  have G28 : Exa Z h20 sa "java/lang/String" := (G19.wr W20)
  obtain ⟨T29, h29, X29, e29, W29, st29⟩ := putF X20 hx hZ hown (host := "") (Or.inl (hw _ (List.mem_of_getElem? (i := 24) rfl))) Via.refl e20 G27 G28 (Or.inr ⟨(hw _ (List.mem_of_getElem? (i := 20) rfl)), rfl, hnm⟩) (hw _ (List.mem_of_getElem? (i := 5) rfl)) (ty := (.array .byte)) (by decide) rfl rfl (g := (mkF m 54 #[.val (.ref sa), .val (.ref ca), .val (.int (0 : Int32)), .val (.int (3 : Int32)), .val .null, .val (.ref b_4)] [(.ref b_4), (.ref sa)])) rfl rfl (hb hby d3_54)
  have CR30 : CHr Z own_EL s.vm h0 s.vm h29 := CHr.trans CR21 (CHr.wr W29 SF22 CR21.1)
  have SF31 : Safe Z own_EL s.vm h29 sa := Safe.wr W29 SF22 CR21.1 SF22
  have SF32 : Safe Z own_EL s.vm h29 b_4 := Safe.wr W29 SF22 CR21.1 SF23
  refine Gl.via st29 ?_
  have N29_ := Fr.snoc X29 N20_ hp4
  have Z33 : n0 ≤ h29.size := Nat.le_trans Z24 (Keep.of_wr W29).1
  have Y34 : h0.size ≤ h29.size := Nat.le_trans Y25 (Keep.of_wr W29).1
  have hl35 := Nat.le_trans hl26 (Keep.of_wr W29).1
  show Gl p.tables e below T29 (mkF m 57 #[.val (.ref sa), .val (.ref ca), .val (.int (0 : Int32)), .val (.int (3 : Int32)), .val .null, .val (.ref b_4)] []) G
  obtain ⟨fs, hr, hrun, hended, hRW⟩ := X29.leaveW hS0 (by rw [e29]; exact hl35) (v := none) (fun _ => rfl)
  have G36 : Exa Z h29 sa "java/lang/String" := (G28.wr W29)
  have G37 : Fld Z h29 sa "java/lang/String" "coder" "B" (.int (0 : Int32)) := ((Fld.same W20 G18).other W29 (Or.inr (slot_ne (Or.inr (hw _ (List.mem_of_getElem? (i := 21) rfl))) (Or.inr (hw _ (List.mem_of_getElem? (i := 20) rfl))) (by decide) (t := .byte) (t' := (.array .byte)) (by decide) (by decide))))
  have G38 : Arv Z h29 b_4 k_4 .byte (3 : Int32) [(.int (c0.toInt8.toInt32)), (.int (c1.toInt8.toInt32)), (.int (c2.toInt8.toInt32))] (.int (0 : Int32)) := ((P5.other W20 (Ne.symm ne7)).other W29 (Ne.symm ne7))
  have hq : ∀ L, Fr n0 L → Q_si4_3 Z sa u1 u2 ca ck c0 c1 c2 cps h0 n0 (none) T29.heap L := by
    intro L hN
    rw [e29]
    exact ⟨b_4, k_4, rfl, hN, ((((Keep.refl h0 [sa]).trans K4 all0).wr W20 (Or.inl (List.mem_of_getElem? (i := 0) rfl))).wr W29 (Or.inl (List.mem_of_getElem? (i := 0) rfl))), G36, G37, (Fld.same W29 G27), G38⟩
  have hc : CHr Z own_EL s.vm s.heap T29.vm T29.heap := by
    rw [hh, e29]
    exact CHr.trans CR30 (CHv.at X29 hZ hEL CR30.1)
  rw [hG]
  exact Gl.fin (X29.returnOut hx Bd.returns (hb hby d3_57) hr) ⟨_, hrun, hended, _, _, rfl, hq _ N29_, hc, ⟨hRW.1, hRW.2.1, hRW.2.2.1, hRW.2.2.2.mono (by decide) (by decide)⟩⟩
theorem ef_si1_3 (m : MethodId) (x0 : Addr) (x1 : Addr) : entryFrame m #[(.ref x0), (.ref x1)] 2 = mkF m 0 #[.val (.ref x0), .val (.ref x1)] [] := by first | (simp [entryFrame, mkF, argsToLocals, Value.category]; done) | rfl | (simp [entryFrame, mkF, argsToLocals, own_catI, own_catR, *]; done)
def Q_si1_3 (Z : State) (sa : Addr) (u1 : Value) (u2 : Value) (ca : Addr) (ck : ClassId) (c0 : Int32) (c1 : Int32) (c2 : Int32) (cps : Int32) (h0 : Heap) (n0 : Nat) (v : Option Value) (h : Heap) (L : List Loc) : Prop := ∃ (sb : Addr), ∃ (sk : ClassId), v = none ∧ Fr n0 L ∧ Keep h0 h [sa] ∧ Exa Z h sa "java/lang/String" ∧ Fld Z h sa "java/lang/String" "coder" "B" (.int (0 : Int32)) ∧ Fld Z h sa "java/lang/String" "value" "[B" (.ref sb) ∧ Arv Z h sb sk .byte (own_ln ([(c0.toInt8.toInt32), (c1.toInt8.toInt32), (c2.toInt8.toInt32)] : List Int32)) (([(c0.toInt8.toInt32), (c1.toInt8.toInt32), (c2.toInt8.toInt32)] : List Int32).map Value.int) (.int (0 : Int32))
set_option maxRecDepth 65536 in
set_option maxHeartbeats 40000000 in
theorem si1_3 (l : Launch) (Z : State) (a0 : Array Value) (hw : ∀ d ∈ tables_1, d.before a0 Z = true) (ws : List Jvm.Cond) (sa : Addr) (u1 : Value) (u2 : Value) (ca : Addr) (ck : ClassId) (c0 : Int32) (c1 : Int32) (c2 : Int32) (cps : Int32) (h0 : Heap) (n0 : Nat) (Z0 : n0 ≤ h0.size) (F0_sa : Exa Z h0 sa "java/lang/String") (F1_sa_value : Fld Z h0 sa "java/lang/String" "value" "[B" u1) (F2_sa_coder : Fld Z h0 sa "java/lang/String" "coder" "B" u2) (F3_ca : Arv Z h0 ca ck .char (3 : Int32) [(.int c0), (.int c1), (.int c2)] (.int (0 : Int32))) (F4_java_lang_String : Sta Z Z.heap "java/lang/String" "COMPACT_STRINGS" "Z" (.int cps)) (F5_ : Old Z n0 h0) (hc0 : ¬ ((255 : Int32) < c0)) (hc1 : ¬ ((255 : Int32) < c1)) (hc2 : ¬ ((255 : Int32) < c2)) (hcps : ¬ (cps = (0 : Int32))) (hp4 : n0 ≤ sa) (hp5 : sa ≠ ca) :
    MetFree l (⟨"java/lang/String", "<init>", "([C)V"⟩ : MethodName) (head1 (Jvm.Cond.code (⟨"java/lang/String", "<init>", "([C)V"⟩ : MethodName) jdk_42_method_3_code 2 none :: ws) ({ frames := 3, cells := 1, slots := 3, locals := 52 } : Room)) (fun a U => a = #[(.ref sa), (.ref ca)] ∧ Z.Warmed39 U.vm ∧ U.heap = h0 ∧ CHv Z own_EL U.vm h0 ∧ ∀ x ∈ ([sa] : List Addr), Safe Z own_EL U.vm h0 x) (fun _ _ _ _ _ => True) (fun _ U o U' => ∃ v L, o = .returned v ∧ Q_si1_3 Z sa u1 u2 ca ck c0 c1 c2 cps h0 n0 v U'.heap L ∧ CHr Z own_EL U.vm U.heap U'.vm U'.heap ∧ ReturnedEndW U o U' L ({ frames := 3, cells := 1, slots := 3, locals := 52 } : Room).cells ({ frames := 3, cells := 1, slots := 3, locals := 52 } : Room).slots) := by
  refine MetFree.of_bodySF (plainFor_of_name pn_0) hisR ?_
  intro p e s m args below meth c s₁ Bd hml0 hP hK
  obtain ⟨rfl, hZ, hh, hCH, hSF⟩ := hP
  have hx := Bd.exec
  have hby := Bd.bytes
  have hml : c.maxLocals = 2 := hml0
  have hown : s.vm.findClass "java/lang/String" = some m.cls := findClass_of_methodNamed Bd.named
  have hnm := (name_of_methodNamed Bd.named Bd.method).1
  have X0 : Stand p l e ({ frames := 3, cells := 1, slots := 3, locals := 52 } : Room) (s.setVm s.vm) m #[(.ref sa), (.ref ca)] below meth c s₁ [] 0 0 := Stand.of_body Bd
  have e0 : s₁.heap = h0 := by rw [← hh, Bd.state]; rfl
  have N0 := Fr.nil n0
  have hS0 : s.Since s.vm 0 := (State.WarmedH.refl s).since 0
  have hk0 : 0 ≤ h0.size := Nat.zero_le _
  have hEL := own_ew hw
  have CR0 : CHr Z own_EL s.vm h0 s.vm h0 := CHr.refl hCH
  obtain ⟨G, hG⟩ : ∃ G : State → Prop, G = (fun U' => ∃ o, U'.status = .running ∧ Ended U' below o ∧ ∃ v L, o = .returned v ∧ Q_si1_3 Z sa u1 u2 ca ck c0 c1 c2 cps h0 n0 v U'.heap L ∧ CHr Z own_EL s.vm s.heap U'.vm U'.heap ∧ ReturnedEndW s o U' L ({ frames := 3, cells := 1, slots := 3, locals := 52 } : Room).cells ({ frames := 3, cells := 1, slots := 3, locals := 52 } : Room).slots) := ⟨_, rfl⟩
  suffices key : Gl p.tables e below s₁ (mkF m 0 #[.val (.ref sa), .val (.ref ca)] []) G by
    obtain ⟨s₂, k1, k2⟩ := key
    rw [hG] at k2
    obtain ⟨o, k3, k4, k5⟩ := k2
    exact ⟨s₂, o, castTop (ef_si1_3 m sa ca) k1, k3, k4, k5⟩
  show Gl p.tables e below s₁ (mkF m 0 #[.val (.ref sa), .val (.ref ca)] []) G
  refine Gl.via (fun _ k => XS.aloadN X0.here hx rfl (hb hby d2_0) rfl rfl k) ?_
  show Gl p.tables e below s₁ (mkF m 1 #[.val (.ref sa), .val (.ref ca)] [(.ref sa)]) G
  refine Gl.via (fun _ k => XS.aloadN X0.here hx rfl (hb hby d2_1) rfl rfl k) ?_
  show Gl p.tables e below s₁ (mkF m 2 #[.val (.ref sa), .val (.ref ca)] [(.ref ca), (.ref sa)]) G
  refine Gl.via (fun _ k => XS.iconst X0.here hx rfl (hb hby d2_2) k) ?_
  show Gl p.tables e below s₁ (mkF m 3 #[.val (.ref sa), .val (.ref ca)] [(.int (0 : Int32)), (.ref ca), (.ref sa)]) G
  refine Gl.via (fun _ k => XS.aloadN X0.here hx rfl (hb hby d2_3) rfl rfl k) ?_
  show Gl p.tables e below s₁ (mkF m 4 #[.val (.ref sa), .val (.ref ca)] [(.ref ca), (.int (0 : Int32)), (.ref ca), (.ref sa)]) G
  obtain ⟨cl1, Ar1, -, S1, N1, -, -⟩ := id F3_ca
  refine Gl.via (fun _ k => X0.arraylength hx (by rw [e0]; exact Ar1.1) (State.isArrayOf_alike hZ.alike Ar1.2.1) (g := (mkF m 4 #[.val (.ref sa), .val (.ref ca)] [(.ref ca), (.int (0 : Int32)), (.ref ca), (.ref sa)])) rfl rfl (hb hby d2_4) _ k) ?_
  rw [len_of S1 N1]
  show Gl p.tables e below s₁ (mkF m 5 #[.val (.ref sa), .val (.ref ca)] [(.int (3 : Int32)), (.int (0 : Int32)), (.ref ca), (.ref sa)]) G
  refine Gl.via (fun _ k => XS.aconstNull X0.here hx rfl (hb hby d2_5) k) ?_
  show Gl p.tables e below s₁ (mkF m 6 #[.val (.ref sa), .val (.ref ca)] [.null, (.int (3 : Int32)), (.int (0 : Int32)), (.ref ca), (.ref sa)]) G
  obtain ⟨_, _, ⟨T2, L2, k2, n2⟩, -, Xb2, hSb2, hgb2, ⟨Lc2, hQ2, l2, y2, z2, hC2⟩, st2⟩ := X0.specialBackS hx (y := (⟨"java/lang/String", "<init>", "([CIILjava/lang/Void;)V"⟩ : MethodName)) rfl hown (mvT hZ (hw _ (List.mem_of_getElem? (i := 11) rfl))) (mvT hZ (hw _ (List.mem_of_getElem? (i := 12) rfl))) (mvT hZ (hw _ (List.mem_of_getElem? (i := 14) rfl))) (by decide) (own_back (W := 0) (si4_3 l Z a0 hw [] sa u1 u2 ca ck c0 c1 c2 cps h0 n0 Z0 F0_sa F1_sa_value F2_sa_coder F3_ca F4_java_lang_String F5_ hc0 hc1 hc2 hcps hp4 hp5) hZ (hw _ (List.mem_of_getElem? (i := 14) rfl)) (hw _ (List.mem_of_getElem? (i := 6) rfl)) (by decide) (by decide) hEL CR0.1 (own_xs ⟨(hSF sa (List.mem_of_getElem? (i := 0) rfl)), F0_sa.lt⟩ (fun _ z => nomatch z))) (g := (mkF m 6 #[.val (.ref sa), .val (.ref ca)] [.null, (.int (3 : Int32)), (.int (0 : Int32)), (.ref ca), (.ref sa)])) rfl (by rw [hml]; rfl) (Steps.refl _) (a := sa) (argsL := [(.ref ca), (.int (0 : Int32)), (.int (3 : Int32)), .null]) (rest := []) (lenOf pd_16 rfl) rfl (by show 2 * 0 + _ ≤ _; exact Nat.le_of_eq rfl) (hb hby d2_6) (fun _ _ => ⟨rfl, e0, (by decide : 0 + 1 ≤ _), (by decide : 0 + 3 ≤ _)⟩)
  dsimp only [Pt.U, Pt.locs, Pt.cells, Pt.slots] at Xb2 hSb2 hgb2 l2 y2 z2 st2 hQ2 hC2
  subst l2 y2 z2
  obtain ⟨X2, hS2, hZ2, hown2⟩ := rebS hS0 (by rw [e0]; exact hk0) Xb2 hSb2 hgb2 hZ hown
  have hk2 : T2.heap.size ≤ T2.heap.size := Nat.le_refl _
  obtain ⟨sb_2, sk_2, rfl, N2q, K2, P3, P4, P5, P6⟩ := hQ2
  have N2_ := Fr.app N0 N2q
  refine Gl.via (fun _ k => st2.trans k) ?_
  have CR7 : CHr Z own_EL s.vm h0 T2.vm T2.heap := CHr.trans CR0 hC2
  have SF8 : Safe Z own_EL T2.vm T2.heap sa := hC2.safe (by have q := F0_sa.lt; exact q) (hSF sa (List.mem_of_getElem? (i := 0) rfl))
  have Z9 : n0 ≤ T2.heap.size := Nat.le_trans Z0 K2.1
  have Y10 : h0.size ≤ T2.heap.size := Nat.le_trans (Nat.le_refl h0.size) K2.1
  have hl11 := Nat.le_trans hk0 K2.1
  show Gl p.tables e below T2 (mkF m 9 #[.val (.ref sa), .val (.ref ca)] []) G
  obtain ⟨fs, hr, hrun, hended, hRW⟩ := X2.leaveW hS2 hk2 (v := none) (fun _ => rfl)
  have hq : ∀ L, Fr n0 L → Q_si1_3 Z sa u1 u2 ca ck c0 c1 c2 cps h0 n0 (none) T2.heap L := by
    intro L hN
    exact ⟨sb_2, sk_2, rfl, hN, ((Keep.refl h0 [sa]).trans K2 (allS (Or.inl (List.mem_of_getElem? (i := 0) rfl)) all0)), P3, P4, P5, P6⟩
  have hc : CHr Z own_EL s.vm s.heap T2.vm T2.heap := by
    rw [hh]
    exact CHr.trans CR7 (CHv.at X2 hZ2 hEL CR7.1)
  rw [hG]
  exact Gl.fin (X2.returnOut hx Bd.returns (hb hby d2_9) hr) ⟨_, hrun, hended, _, _, rfl, hq _ N2_, hc, ⟨hRW.1, hRW.2.1, hRW.2.2.1, hRW.2.2.2.mono (by decide) (by decide)⟩⟩
def own_mk (n c0 c1 c2 : Int32) : List Int32 := if n = 0 then [] else if n = 1 then [c0.toInt8.toInt32] else if n = 2 then [c0.toInt8.toInt32, c1.toInt8.toInt32] else [c0.toInt8.toInt32, c1.toInt8.toInt32, c2.toInt8.toInt32]
theorem own_mk0 {n c0 c1 c2 : Int32} (h : n = 0) : own_mk n c0 c1 c2 = [] := if_pos h
theorem own_mk1 {n c0 c1 c2 : Int32} (h0 : ¬ n = 0) (h : n = 1) : own_mk n c0 c1 c2 = [c0.toInt8.toInt32] := (if_neg h0).trans (if_pos h)
theorem own_mk2 {n c0 c1 c2 : Int32} (h0 : ¬ n = 0) (h1 : ¬ n = 1) (h : n = 2) : own_mk n c0 c1 c2 = [c0.toInt8.toInt32, c1.toInt8.toInt32] := (if_neg h0).trans ((if_neg h1).trans (if_pos h))
theorem own_mk3 {n c0 c1 c2 : Int32} (h0 : ¬ n = 0) (h1 : ¬ n = 1) (h : ¬ n = 2) : own_mk n c0 c1 c2 = [c0.toInt8.toInt32, c1.toInt8.toInt32, c2.toInt8.toInt32] := (if_neg h0).trans ((if_neg h1).trans (if_neg h))
def own_scat (sep n c0 c1 c2 m d0 d1 d2 : Int32) : List Int32 := ((([] : List Int32) ++ own_mk n c0 c1 c2) ++ ([sep] : List Int32)) ++ own_mk m d0 d1 d2
def own_sm (n : Int32) : Prop := n = 0 ∨ n = 1 ∨ n = 2 ∨ n = 3
theorem own_and3 (x : Int32) : own_sm (x &&& 3) := by
  have e : (x &&& 3).toBitVec = x.toBitVec &&& 3#32 := rfl
  have h : ∀ b : BitVec 32, b &&& 3#32 = 0#32 ∨ b &&& 3#32 = 1#32 ∨ b &&& 3#32 = 2#32 ∨ b &&& 3#32 = 3#32 := fun b => by
    have q : (b &&& 3#32).toNat = b.toNat % 4 := by rw [BitVec.toNat_and]; exact Nat.and_two_pow_sub_one_eq_mod b.toNat 2
    have r : b.toNat % 4 < 4 := Nat.mod_lt _ (by decide)
    have r2 : b.toNat % 4 = 0 ∨ b.toNat % 4 = 1 ∨ b.toNat % 4 = 2 ∨ b.toNat % 4 = 3 := by omega
    rcases r2 with r2 | r2 | r2 | r2 <;> rw [r2] at q
    · exact Or.inl (BitVec.eq_of_toNat_eq q)
    · exact Or.inr (Or.inl (BitVec.eq_of_toNat_eq q))
    · exact Or.inr (Or.inr (Or.inl (BitVec.eq_of_toNat_eq q)))
    · exact Or.inr (Or.inr (Or.inr (BitVec.eq_of_toNat_eq q)))
  rcases h x.toBitVec with h | h | h | h <;> rw [← e] at h
  · exact Or.inl (Int32.toBitVec_inj.mp h)
  · exact Or.inr (Or.inl (Int32.toBitVec_inj.mp h))
  · exact Or.inr (Or.inr (Or.inl (Int32.toBitVec_inj.mp h)))
  · exact Or.inr (Or.inr (Or.inr (Int32.toBitVec_inj.mp h)))
theorem own_scln {sep n c0 c1 c2 m d0 d1 d2 : Int32} (hn : own_sm n) (hm : own_sm m) : own_ln (own_scat sep n c0 c1 c2 m d0 d1 d2) = n + 1 + m := by
  rcases hn with rfl | rfl | rfl | rfl <;> rcases hm with rfl | rfl | rfl | rfl <;> rfl
theorem own_mklen {n c0 c1 c2 : Int32} : (own_mk n c0 c1 c2).length ≤ 3 := by
  by_cases h0 : n = 0
  · rw [own_mk0 h0]; exact Nat.zero_le _
  · by_cases h1 : n = 1
    · rw [own_mk1 h0 h1]; exact Nat.le_of_ble_eq_true rfl
    · by_cases h2 : n = 2
      · rw [own_mk2 h0 h1 h2]; exact Nat.le_of_ble_eq_true rfl
      · rw [own_mk3 h0 h1 h2]; exact Nat.le_refl _
theorem own_l1 {n c0 c1 c2 : Int32} {k : Nat} (h : 3 ≤ k) : (([] : List Int32)).length + (own_mk n c0 c1 c2).length ≤ k := by
  have q := own_mklen (n := n) (c0 := c0) (c1 := c1) (c2 := c2)
  show 0 + _ ≤ k
  omega
theorem own_l2 {n c0 c1 c2 : Int32} : (([] : List Int32) ++ own_mk n c0 c1 c2).length + 1 ≤ 16 := by
  have q := own_mklen (n := n) (c0 := c0) (c1 := c1) (c2 := c2)
  show (own_mk n c0 c1 c2).length + 1 ≤ 16
  omega
theorem own_l3 {sep n c0 c1 c2 m d0 d1 d2 : Int32} : ((([] : List Int32) ++ own_mk n c0 c1 c2) ++ ([sep] : List Int32)).length + (own_mk m d0 d1 d2).length ≤ 16 := by
  have q := own_mklen (n := n) (c0 := c0) (c1 := c1) (c2 := c2)
  have r := own_mklen (n := m) (c0 := d0) (c1 := d1) (c2 := d2)
  rw [List.length_append, List.length_append, List.length_singleton, List.length_nil]
  omega
theorem own_l4 {sep n c0 c1 c2 m d0 d1 d2 : Int32} : (own_scat sep n c0 c1 c2 m d0 d1 d2).length ≤ 15 := by
  have q := own_mklen (n := n) (c0 := c0) (c1 := c1) (c2 := c2)
  have r := own_mklen (n := m) (c0 := d0) (c1 := d1) (c2 := d2)
  unfold own_scat
  rw [List.length_append, List.length_append, List.length_append, List.length_singleton, List.length_nil]
  omega
theorem own_msk (c : Int32) (h0 : 0 ≤ c.toInt) (h : ¬ ((255 : Int32) < c)) : c.toInt8.toInt32 &&& (255 : Int32) = c := by
  rw [Int32.lt_iff_toInt_lt] at h
  have h2 : c.toInt ≤ 255 := by
    have q : ¬ (255 : Int) < c.toInt := h
    omega
  have key : ∀ n : Fin 256, ((Int32.ofNat n.val).toInt8.toInt32 &&& (255 : Int32)) = Int32.ofNat n.val := by decide +kernel
  have e : c = Int32.ofNat c.toInt.toNat := Int32.toInt_inj.mp (by rw [Int32.toInt_ofNat_of_lt (by omega)]; omega)
  have k := key ⟨c.toInt.toNat, by omega⟩
  rw [e]
  exact k
theorem d9_0 : decode jdk_43_method_3_code 0 = .ok (.iload_n 0, 1) := by decide +kernel
theorem d9_1 : decode jdk_43_method_3_code 1 = .ok (.sipush 255, 3) := by decide +kernel
theorem d9_4 : decode jdk_43_method_3_code 4 = .ok (.if_icmp .gt 7, 3) := by decide +kernel
theorem d9_7 : decode jdk_43_method_3_code 7 = .ok (.iconst 1, 1) := by decide +kernel
theorem d9_8 : decode jdk_43_method_3_code 8 = .ok (.goto 4, 3) := by decide +kernel
theorem d9_12 : decode jdk_43_method_3_code 12 = .ok (.ireturn, 1) := by decide +kernel
theorem ef_canenc (m : MethodId) (x0 : Int32) : entryFrame m #[(.int x0)] 1 = mkF m 0 #[.val (.int x0)] [] := by first | (simp [entryFrame, mkF, argsToLocals, Value.category]; done) | rfl | (simp [entryFrame, mkF, argsToLocals, own_catI, own_catR, *]; done)
def Q_canenc (Z : State) (ec : Int32) (h0 : Heap) (n0 : Nat) (v : Option Value) (h : Heap) (L : List Loc) : Prop := v = some (.int (1 : Int32)) ∧ Fr n0 L ∧ h = h0
set_option maxRecDepth 65536 in
set_option maxHeartbeats 40000000 in
theorem canenc (l : Launch) (Z : State) (a0 : Array Value) (hw : ∀ d ∈ tables_1, d.before a0 Z = true) (ws : List Jvm.Cond) (ec : Int32) (h0 : Heap) (n0 : Nat) (Z0 : n0 ≤ h0.size) (he : ¬ ((255 : Int32) < ec)) :
    MetFree l (⟨"java/lang/StringLatin1", "canEncode", "(C)Z"⟩ : MethodName) (head1 (Jvm.Cond.code (⟨"java/lang/StringLatin1", "canEncode", "(C)Z"⟩ : MethodName) jdk_43_method_3_code 1 (some .boolean) :: ws) ({ frames := 0, cells := 0, slots := 0, locals := 0 } : Room)) (fun a U => a = #[(.int ec)] ∧ Z.Warmed39 U.vm ∧ U.heap = h0) (fun _ _ _ _ _ => True) (fun _ U o U' => ∃ v L, o = .returned v ∧ Q_canenc Z ec h0 n0 v U'.heap L ∧ FrameEnd U o U' L ({ frames := 0, cells := 0, slots := 0, locals := 0 } : Room).cells ({ frames := 0, cells := 0, slots := 0, locals := 0 } : Room).slots) := by
  refine MetFree.of_bodySF (plainFor_of_name pn_2) hisR ?_
  intro p e s m args below meth c s₁ Bd hml0 hP hK
  obtain ⟨rfl, hZ, hh⟩ := hP
  have hx := Bd.exec
  have hby := Bd.bytes
  have hml : c.maxLocals = 1 := hml0
  have hown : s.vm.findClass "java/lang/StringLatin1" = some m.cls := findClass_of_methodNamed Bd.named
  have hnm := (name_of_methodNamed Bd.named Bd.method).1
  have X0 : Stand p l e ({ frames := 0, cells := 0, slots := 0, locals := 0 } : Room) s m #[(.int ec)] below meth c s₁ [] 0 0 := Stand.of_body Bd
  have e0 : s₁.heap = h0 := by rw [← hh, Bd.state]; rfl
  have N0 := Fr.nil n0
  obtain ⟨G, hG⟩ : ∃ G : State → Prop, G = (fun U' => ∃ o, U'.status = .running ∧ Ended U' below o ∧ ∃ v L, o = .returned v ∧ Q_canenc Z ec h0 n0 v U'.heap L ∧ FrameEnd s o U' L ({ frames := 0, cells := 0, slots := 0, locals := 0 } : Room).cells ({ frames := 0, cells := 0, slots := 0, locals := 0 } : Room).slots) := ⟨_, rfl⟩
  suffices key : Gl p.tables e below s₁ (mkF m 0 #[.val (.int ec)] []) G by
    obtain ⟨s₂, k1, k2⟩ := key
    rw [hG] at k2
    obtain ⟨o, k3, k4, k5⟩ := k2
    exact ⟨s₂, o, castTop (ef_canenc m ec) k1, k3, k4, k5⟩
  show Gl p.tables e below s₁ (mkF m 0 #[.val (.int ec)] []) G
  refine Gl.via (fun _ k => XS.iloadN X0.here hx rfl (hb hby d9_0) rfl k) ?_
  show Gl p.tables e below s₁ (mkF m 1 #[.val (.int ec)] [(.int ec)]) G
  refine Gl.via (fun _ k => XS.sipush X0.here hx rfl (hb hby d9_1) k) ?_
  show Gl p.tables e below s₁ (mkF m 4 #[.val (.int ec)] [(.int (255 : Int32)), (.int ec)]) G
  refine Gl.via (fun _ k => XS.icmpNo X0.here hx rfl (hb hby d9_4) rfl (flt he).2.2.1 k) ?_
  show Gl p.tables e below s₁ (mkF m 7 #[.val (.int ec)] []) G
  refine Gl.via (fun _ k => XS.iconst X0.here hx rfl (hb hby d9_7) k) ?_
  show Gl p.tables e below s₁ (mkF m 8 #[.val (.int ec)] [(.int (1 : Int32))]) G
  refine Gl.via (fun _ k => XS.goto X0.here hx rfl (pc0 := 8) (pc' := 12) rfl (hb hby d9_8) (by decide) (by decide) k) ?_
  show Gl p.tables e below s₁ (mkF m 12 #[.val (.int ec)] [(.int (1 : Int32))]) G
  obtain ⟨fs, hr, hrun, hended, hW, hsame⟩ := X0.leave (v := some (.int (1 : Int32))) (fun h => by rw [Bd.returns] at h; cases h)
  have hq : ∀ L, Fr n0 L → Q_canenc Z ec h0 n0 (some (.int (1 : Int32))) s₁.heap L := by
    intro L hN
    rw [e0]
    exact ⟨rfl, hN, rfl⟩
  rw [hG]
  exact Gl.fin (retN X0 hx (t := .boolean) Bd.returns (by simp) (hb hby d9_12) hr) ⟨_, hrun, hended, _, _, rfl, hq _ N0, ⟨_, rfl⟩, hW, hsame.mono (by decide) (by decide)⟩
theorem d10_0 : decode jdk_43_method_46_code 0 = .ok (.iconst 1, 1) := by decide +kernel
theorem d10_1 : decode jdk_43_method_46_code 1 = .ok (.newarray .byte, 2) := by decide +kernel
theorem d10_3 : decode jdk_43_method_46_code 3 = .ok (.dup, 1) := by decide +kernel
theorem d10_4 : decode jdk_43_method_46_code 4 = .ok (.iconst 0, 1) := by decide +kernel
theorem d10_5 : decode jdk_43_method_46_code 5 = .ok (.iload_n 0, 1) := by decide +kernel
theorem d10_6 : decode jdk_43_method_46_code 6 = .ok (.i2b, 1) := by decide +kernel
theorem d10_7 : decode jdk_43_method_46_code 7 = .ok (.bastore, 1) := by decide +kernel
theorem d10_8 : decode jdk_43_method_46_code 8 = .ok (.areturn, 1) := by decide +kernel
theorem ef_l1_tb (m : MethodId) (x0 : Int32) : entryFrame m #[(.int x0)] 1 = mkF m 0 #[.val (.int x0)] [] := by first | (simp [entryFrame, mkF, argsToLocals, Value.category]; done) | rfl | (simp [entryFrame, mkF, argsToLocals, own_catI, own_catR, *]; done)
def Q_l1_tb (Z : State) (vc : Int32) (h0 : Heap) (n0 : Nat) (v : Option Value) (h : Heap) (L : List Loc) : Prop := ∃ (b : Addr), ∃ (k : ClassId), v = some (.ref b) ∧ Fr n0 L ∧ Keep h0 h [] ∧ Arv Z h b k .byte (1 : Int32) [(.int (vc.toInt8.toInt32))] (.int (0 : Int32)) ∧ (h0.size ≤ b)
set_option maxRecDepth 65536 in
set_option maxHeartbeats 40000000 in
theorem l1_tb (l : Launch) (Z : State) (a0 : Array Value) (hw : ∀ d ∈ tables_1, d.before a0 Z = true) (ws : List Jvm.Cond) (vc : Int32) (h0 : Heap) (n0 : Nat) (Z0 : n0 ≤ h0.size) :
    MetFree l (⟨"java/lang/StringLatin1", "toBytes", "(C)[B"⟩ : MethodName) (head1 (Jvm.Cond.code (⟨"java/lang/StringLatin1", "toBytes", "(C)[B"⟩ : MethodName) jdk_43_method_46_code 1 (some (.array .byte)) :: ws) ({ frames := 0, cells := 1, slots := 1, locals := 0 } : Room)) (fun a U => a = #[(.int vc)] ∧ Z.Warmed39 U.vm ∧ U.heap = h0) (fun _ _ _ _ _ => True) (fun _ U o U' => ∃ v L, o = .returned v ∧ Q_l1_tb Z vc h0 n0 v U'.heap L ∧ FrameEnd U o U' L ({ frames := 0, cells := 1, slots := 1, locals := 0 } : Room).cells ({ frames := 0, cells := 1, slots := 1, locals := 0 } : Room).slots) := by
  refine MetFree.of_bodySF (plainFor_of_name pn_2) hisR ?_
  intro p e s m args below meth c s₁ Bd hml0 hP hK
  obtain ⟨rfl, hZ, hh⟩ := hP
  have hx := Bd.exec
  have hby := Bd.bytes
  have hml : c.maxLocals = 1 := hml0
  have hown : s.vm.findClass "java/lang/StringLatin1" = some m.cls := findClass_of_methodNamed Bd.named
  have hnm := (name_of_methodNamed Bd.named Bd.method).1
  have X0 : Stand p l e ({ frames := 0, cells := 1, slots := 1, locals := 0 } : Room) s m #[(.int vc)] below meth c s₁ [] 0 0 := Stand.of_body Bd
  have e0 : s₁.heap = h0 := by rw [← hh, Bd.state]; rfl
  have N0 := Fr.nil n0
  obtain ⟨G, hG⟩ : ∃ G : State → Prop, G = (fun U' => ∃ o, U'.status = .running ∧ Ended U' below o ∧ ∃ v L, o = .returned v ∧ Q_l1_tb Z vc h0 n0 v U'.heap L ∧ FrameEnd s o U' L ({ frames := 0, cells := 1, slots := 1, locals := 0 } : Room).cells ({ frames := 0, cells := 1, slots := 1, locals := 0 } : Room).slots) := ⟨_, rfl⟩
  suffices key : Gl p.tables e below s₁ (mkF m 0 #[.val (.int vc)] []) G by
    obtain ⟨s₂, k1, k2⟩ := key
    rw [hG] at k2
    obtain ⟨o, k3, k4, k5⟩ := k2
    exact ⟨s₂, o, castTop (ef_l1_tb m vc) k1, k3, k4, k5⟩
  show Gl p.tables e below s₁ (mkF m 0 #[.val (.int vc)] []) G
  refine Gl.via (fun _ k => XS.iconst X0.here hx rfl (hb hby d10_0) k) ?_
  show Gl p.tables e below s₁ (mkF m 1 #[.val (.int vc)] [(.int (1 : Int32))]) G
  obtain ⟨T1, h1, k1, X1, e1, E1, A1, st1⟩ := newP X0 hx hZ (hw _ (List.mem_of_getElem? (i := 19) rfl)) e0 (g := (mkF m 1 #[.val (.int vc)] [(.int (1 : Int32))])) rfl (hb hby d10_1) rfl (by decide) (cap := 1) (by decide) (by decide) (by decide) (by decide)
  obtain ⟨b1, g1⟩ : ∃ z, z = h0.size := ⟨_, rfl⟩
  rw [← g1] at A1 st1
  have ge2 : n0 ≤ b1 := Nat.le_trans Z0 (Nat.le_of_eq g1.symm)
  have gz3 : h0.size ≤ b1 := Nat.le_trans (Nat.le_refl h0.size) (Nat.le_of_eq g1.symm)
  refine Gl.via st1 ?_
  have Z4 : n0 ≤ h1.size := Nat.le_trans Z0 E1.1
  have Y5 : h0.size ≤ h1.size := Nat.le_trans (Nat.le_refl h0.size) E1.1
  have V6 : Arv Z h1 b1 k1 .byte (1 : Int32) [(.int (0 : Int32))] (.int (0 : Int32)) := (Arv.new A1 (by decide)).pad (pad_rep [] (.int (0 : Int32)) 1)
  show Gl p.tables e below T1 (mkF m 3 #[.val (.int vc)] [(.ref b1)]) G
  refine Gl.via (fun _ k => XS.dup X1.here hx rfl (hb hby d10_3) rfl rfl k) ?_
  show Gl p.tables e below T1 (mkF m 4 #[.val (.int vc)] [(.ref b1), (.ref b1)]) G
  refine Gl.via (fun _ k => XS.iconst X1.here hx rfl (hb hby d10_4) k) ?_
  show Gl p.tables e below T1 (mkF m 5 #[.val (.int vc)] [(.int (0 : Int32)), (.ref b1), (.ref b1)]) G
  refine Gl.via (fun _ k => XS.iloadN X1.here hx rfl (hb hby d10_5) rfl k) ?_
  show Gl p.tables e below T1 (mkF m 6 #[.val (.int vc)] [(.int vc), (.int (0 : Int32)), (.ref b1), (.ref b1)]) G
  refine Gl.via (fun _ k => XS.i2b X1.here hx rfl (hb hby d10_6) rfl k) ?_
  show Gl p.tables e below T1 (mkF m 7 #[.val (.int vc)] [(.int (vc.toInt8.toInt32)), (.int (0 : Int32)), (.ref b1), (.ref b1)]) G
  obtain ⟨cl7, Ar7, q7, S7, N7, H7, G7⟩ := id V6
  have hin7 : ¬ ((0 : Int32) < 0 ∨ cl7.slots.size ≤ ((0 : Int32)).toNatClampNeg) := inb_of S7 ⟨by decide, by decide⟩
  obtain ⟨T7, h7, X7, e7, W7, st7⟩ := stB X1 hx hZ e1 Ar7 (j := (0 : Int32)) hin7 (g := (mkF m 7 #[.val (.int vc)] [(.int (vc.toInt8.toInt32)), (.int (0 : Int32)), (.ref b1), (.ref b1)])) rfl rfl (hb hby d10_7)
  refine Gl.via st7 ?_
  have N7_ := Fr.snoc X7 N0 ge2
  have Z8 : n0 ≤ h7.size := Nat.le_trans Z4 (Keep.of_wr W7).1
  have Y9 : h0.size ≤ h7.size := Nat.le_trans Y5 (Keep.of_wr W7).1
  have V10 : Arv Z h7 b1 k1 .byte (1 : Int32) [(.int (nar .byte (vc.toInt8.toInt32)))] (.int (0 : Int32)) := Arv.set Ar7 q7 S7 N7 H7 G7 (fits_nar_byte _) W7 0 rfl (Nat.le_of_ble_eq_true rfl)
  have V11 : Arv Z h7 b1 k1 .byte (1 : Int32) [(.int (vc.toInt8.toInt32))] (.int (0 : Int32)) := by rw [show ((.int (nar .byte (vc.toInt8.toInt32))) : Value) = (.int (vc.toInt8.toInt32)) from (congrArg Value.int (own_bb _))] at V10; exact V10
  show Gl p.tables e below T7 (mkF m 8 #[.val (.int vc)] [(.ref b1)]) G
  obtain ⟨fs, hr, hrun, hended, hW, hsame⟩ := X7.leave (v := some (.ref b1)) (fun h => by rw [Bd.returns] at h; cases h)
  have hq : ∀ L, Fr n0 L → Q_l1_tb Z vc h0 n0 (some (.ref b1)) T7.heap L := by
    intro L hN
    rw [e7]
    exact ⟨b1, k1, rfl, hN, (((Keep.refl h0 []).ext E1).wr W7 (Or.inr gz3)), V11, gz3⟩
  rw [hG]
  exact Gl.fin (retOut X7 hx Bd.returns rfl (Or.inr (Or.inr (Or.inr (Or.inr ⟨rfl, rfl, rfl⟩)))) (hb hby d10_8) hr) ⟨_, hrun, hended, _, _, rfl, hq _ N7_, ⟨_, rfl⟩, hW, hsame.mono (by decide) (by decide)⟩
theorem d11_0 : decode jdk_42_method_151_code 0 = .ok (.aload_n 0, 1) := by decide +kernel
theorem d11_1 : decode jdk_42_method_151_code 1 = .ok (.invokespecial 1, 3) := by decide +kernel
theorem d11_4 : decode jdk_42_method_151_code 4 = .ok (.aload_n 0, 1) := by decide +kernel
theorem d11_5 : decode jdk_42_method_151_code 5 = .ok (.aload_n 1, 1) := by decide +kernel
theorem d11_6 : decode jdk_42_method_151_code 6 = .ok (.putfield 9, 3) := by decide +kernel
theorem d11_9 : decode jdk_42_method_151_code 9 = .ok (.aload_n 0, 1) := by decide +kernel
theorem d11_10 : decode jdk_42_method_151_code 10 = .ok (.iload_n 2, 1) := by decide +kernel
theorem d11_11 : decode jdk_42_method_151_code 11 = .ok (.putfield 15, 3) := by decide +kernel
theorem d11_14 : decode jdk_42_method_151_code 14 = .ok (.return_, 1) := by decide +kernel
theorem ef_s_inibb (m : MethodId) (x0 : Addr) (x1 : Addr) (x2 : Int32) : entryFrame m #[(.ref x0), (.ref x1), (.int x2)] 3 = mkF m 0 #[.val (.ref x0), .val (.ref x1), .val (.int x2)] [] := by first | (simp [entryFrame, mkF, argsToLocals, Value.category]; done) | rfl | (simp [entryFrame, mkF, argsToLocals, own_catI, own_catR, *]; done)
def Q_s_inibb (Z : State) (sa : Addr) (b : Addr) (u1 : Value) (u2 : Value) (h0 : Heap) (n0 : Nat) (v : Option Value) (h : Heap) (L : List Loc) : Prop := v = none ∧ Fr n0 L ∧ Keep h0 h [sa] ∧ Exa Z h sa "java/lang/String" ∧ Fld Z h sa "java/lang/String" "coder" "B" (.int (0 : Int32)) ∧ Fld Z h sa "java/lang/String" "value" "[B" (.ref b)
set_option maxRecDepth 65536 in
set_option maxHeartbeats 40000000 in
theorem s_inibb (l : Launch) (Z : State) (a0 : Array Value) (hw : ∀ d ∈ tables_1, d.before a0 Z = true) (ws : List Jvm.Cond) (sa : Addr) (b : Addr) (u1 : Value) (u2 : Value) (h0 : Heap) (n0 : Nat) (Z0 : n0 ≤ h0.size) (F0_sa : Exa Z h0 sa "java/lang/String") (F1_sa_value : Fld Z h0 sa "java/lang/String" "value" "[B" u1) (F2_sa_coder : Fld Z h0 sa "java/lang/String" "coder" "B" u2) (hp0 : n0 ≤ sa) :
    MetFree l (⟨"java/lang/String", "<init>", "([BB)V"⟩ : MethodName) (head1 (Jvm.Cond.code (⟨"java/lang/String", "<init>", "([BB)V"⟩ : MethodName) jdk_42_method_151_code 3 none :: ws) ({ frames := 1, cells := 0, slots := 0, locals := 12 } : Room)) (fun a U => a = #[(.ref sa), (.ref b), (.int (0 : Int32))] ∧ Z.Warmed39 U.vm ∧ U.heap = h0) (fun _ _ _ _ _ => True) (fun _ U o U' => ∃ v L, o = .returned v ∧ Q_s_inibb Z sa b u1 u2 h0 n0 v U'.heap L ∧ FrameEnd U o U' L ({ frames := 1, cells := 0, slots := 0, locals := 12 } : Room).cells ({ frames := 1, cells := 0, slots := 0, locals := 12 } : Room).slots) := by
  refine MetFree.of_bodySF (plainFor_of_name pn_0) hisR ?_
  intro p e s m args below meth c s₁ Bd hml0 hP hK
  obtain ⟨rfl, hZ, hh⟩ := hP
  have hx := Bd.exec
  have hby := Bd.bytes
  have hml : c.maxLocals = 3 := hml0
  have hown : s.vm.findClass "java/lang/String" = some m.cls := findClass_of_methodNamed Bd.named
  have hnm := (name_of_methodNamed Bd.named Bd.method).1
  have X0 : Stand p l e ({ frames := 1, cells := 0, slots := 0, locals := 12 } : Room) s m #[(.ref sa), (.ref b), (.int (0 : Int32))] below meth c s₁ [] 0 0 := Stand.of_body Bd
  have e0 : s₁.heap = h0 := by rw [← hh, Bd.state]; rfl
  have N0 := Fr.nil n0
  obtain ⟨G, hG⟩ : ∃ G : State → Prop, G = (fun U' => ∃ o, U'.status = .running ∧ Ended U' below o ∧ ∃ v L, o = .returned v ∧ Q_s_inibb Z sa b u1 u2 h0 n0 v U'.heap L ∧ FrameEnd s o U' L ({ frames := 1, cells := 0, slots := 0, locals := 12 } : Room).cells ({ frames := 1, cells := 0, slots := 0, locals := 12 } : Room).slots) := ⟨_, rfl⟩
  suffices key : Gl p.tables e below s₁ (mkF m 0 #[.val (.ref sa), .val (.ref b), .val (.int (0 : Int32))] []) G by
    obtain ⟨s₂, k1, k2⟩ := key
    rw [hG] at k2
    obtain ⟨o, k3, k4, k5⟩ := k2
    exact ⟨s₂, o, castTop (ef_s_inibb m sa b (0 : Int32)) k1, k3, k4, k5⟩
  show Gl p.tables e below s₁ (mkF m 0 #[.val (.ref sa), .val (.ref b), .val (.int (0 : Int32))] []) G
  refine Gl.via (fun _ k => XS.aloadN X0.here hx rfl (hb hby d11_0) rfl rfl k) ?_
  show Gl p.tables e below s₁ (mkF m 1 #[.val (.ref sa), .val (.ref b), .val (.int (0 : Int32))] [(.ref sa)]) G
  obtain ⟨T1, X1, e1, st1⟩ := initO X0 hx hZ hown (hw _ (List.mem_of_getElem? (i := 15) rfl)) (hw _ (List.mem_of_getElem? (i := 16) rfl)) (hw _ (List.mem_of_getElem? (i := 17) rfl)) e0 (g := (mkF m 1 #[.val (.ref sa), .val (.ref b), .val (.int (0 : Int32))] [(.ref sa)])) rfl (by rw [hml]; rfl) rfl (hb hby d11_1) (by decide) (W := 0) (by show 2 * 0 + _ ≤ _; exact Nat.le_of_eq rfl) (by decide)
  refine Gl.via st1 ?_
  show Gl p.tables e below T1 (mkF m 4 #[.val (.ref sa), .val (.ref b), .val (.int (0 : Int32))] []) G
  refine Gl.via (fun _ k => XS.aloadN X1.here hx rfl (hb hby d11_4) rfl rfl k) ?_
  show Gl p.tables e below T1 (mkF m 5 #[.val (.ref sa), .val (.ref b), .val (.int (0 : Int32))] [(.ref sa)]) G
  refine Gl.via (fun _ k => XS.aloadN X1.here hx rfl (hb hby d11_5) rfl rfl k) ?_
  show Gl p.tables e below T1 (mkF m 6 #[.val (.ref sa), .val (.ref b), .val (.int (0 : Int32))] [(.ref b), (.ref sa)]) G
  obtain ⟨T2, h2, X2, e2, W2, st2⟩ := putF X1 hx hZ hown (host := "") (Or.inl (hw _ (List.mem_of_getElem? (i := 24) rfl))) Via.refl e1 F1_sa_value F0_sa (Or.inr ⟨(hw _ (List.mem_of_getElem? (i := 20) rfl)), rfl, hnm⟩) (hw _ (List.mem_of_getElem? (i := 5) rfl)) (ty := (.array .byte)) (by decide) rfl rfl (g := (mkF m 6 #[.val (.ref sa), .val (.ref b), .val (.int (0 : Int32))] [(.ref b), (.ref sa)])) rfl rfl (hb hby d11_6)
  refine Gl.via st2 ?_
  have N2_ := Fr.snoc X2 N0 hp0
  have Z3 : n0 ≤ h2.size := Nat.le_trans Z0 (Keep.of_wr W2).1
  have Y4 : h0.size ≤ h2.size := Nat.le_trans (Nat.le_refl h0.size) (Keep.of_wr W2).1
  show Gl p.tables e below T2 (mkF m 9 #[.val (.ref sa), .val (.ref b), .val (.int (0 : Int32))] []) G
  refine Gl.via (fun _ k => XS.aloadN X2.here hx rfl (hb hby d11_9) rfl rfl k) ?_
  show Gl p.tables e below T2 (mkF m 10 #[.val (.ref sa), .val (.ref b), .val (.int (0 : Int32))] [(.ref sa)]) G
  refine Gl.via (fun _ k => XS.iloadN X2.here hx rfl (hb hby d11_10) rfl k) ?_
  show Gl p.tables e below T2 (mkF m 11 #[.val (.ref sa), .val (.ref b), .val (.int (0 : Int32))] [(.int (0 : Int32)), (.ref sa)]) G
  have G5 : Fld Z h2 sa "java/lang/String" "coder" "B" u2 := (F2_sa_coder.other W2 (Or.inr (slot_ne (Or.inr (hw _ (List.mem_of_getElem? (i := 21) rfl))) (Or.inr (hw _ (List.mem_of_getElem? (i := 20) rfl))) (by decide) (t := .byte) (t' := (.array .byte)) (by decide) (by decide))))
  have G6 : Exa Z h2 sa "java/lang/String" := (F0_sa.wr W2)
  obtain ⟨T7, h7, X7, e7, W7, st7⟩ := putFN X2 hx hZ hown (hw _ (List.mem_of_getElem? (i := 25) rfl)) Via.refl e2 G5 G6 (Or.inr ⟨(hw _ (List.mem_of_getElem? (i := 21) rfl)), rfl, hnm⟩) (hw _ (List.mem_of_getElem? (i := 5) rfl)) (ty := .byte) (v' := (.int (0 : Int32))) (by decide) rfl (by decide) (g := (mkF m 11 #[.val (.ref sa), .val (.ref b), .val (.int (0 : Int32))] [(.int (0 : Int32)), (.ref sa)])) rfl rfl (hb hby d11_11)
  refine Gl.via st7 ?_
  have N7_ := Fr.snoc X7 N2_ hp0
  have Z8 : n0 ≤ h7.size := Nat.le_trans Z3 (Keep.of_wr W7).1
  have Y9 : h0.size ≤ h7.size := Nat.le_trans Y4 (Keep.of_wr W7).1
  show Gl p.tables e below T7 (mkF m 14 #[.val (.ref sa), .val (.ref b), .val (.int (0 : Int32))] []) G
  obtain ⟨fs, hr, hrun, hended, hW, hsame⟩ := X7.leave (v := none) (fun _ => rfl)
  have G10 : Exa Z h7 sa "java/lang/String" := (G6.wr W7)
  have G11 : Fld Z h7 sa "java/lang/String" "value" "[B" (.ref b) := ((Fld.same W2 F1_sa_value).other W7 (Or.inr (slot_ne (Or.inr (hw _ (List.mem_of_getElem? (i := 20) rfl))) (Or.inr (hw _ (List.mem_of_getElem? (i := 21) rfl))) (by decide) (t := (.array .byte)) (t' := .byte) (by decide) (by decide))))
  have hq : ∀ L, Fr n0 L → Q_s_inibb Z sa b u1 u2 h0 n0 (none) T7.heap L := by
    intro L hN
    rw [e7]
    exact ⟨rfl, hN, (((Keep.refl h0 [sa]).wr W2 (Or.inl (List.mem_of_getElem? (i := 0) rfl))).wr W7 (Or.inl (List.mem_of_getElem? (i := 0) rfl))), G10, (Fld.same W7 G5), G11⟩
  rw [hG]
  exact Gl.fin (X7.returnOut hx Bd.returns (hb hby d11_14) hr) ⟨_, hrun, hended, _, _, rfl, hq _ N7_, ⟨_, rfl⟩, hW, hsame.mono (by decide) (by decide)⟩
theorem d8_0 : decode jdk_42_method_139_code 0 = .ok (.getstatic 38, 3) := by decide +kernel
theorem d8_3 : decode jdk_42_method_139_code 3 = .ok (.ifCond .eq 23, 3) := by decide +kernel
theorem d8_6 : decode jdk_42_method_139_code 6 = .ok (.iload_n 0, 1) := by decide +kernel
theorem d8_7 : decode jdk_42_method_139_code 7 = .ok (.invokestatic 1015, 3) := by decide +kernel
theorem pd_20 : parseMethodDescriptor "(C)Z" = some ⟨[.char], some .boolean⟩ := by decide +kernel
theorem d8_10 : decode jdk_42_method_139_code 10 = .ok (.ifCond .eq 16, 3) := by decide +kernel
theorem d8_13 : decode jdk_42_method_139_code 13 = .ok (.new 10, 3) := by decide +kernel
theorem d8_16 : decode jdk_42_method_139_code 16 = .ok (.dup, 1) := by decide +kernel
theorem d8_17 : decode jdk_42_method_139_code 17 = .ok (.iload_n 0, 1) := by decide +kernel
theorem d8_18 : decode jdk_42_method_139_code 18 = .ok (.invokestatic 1018, 3) := by decide +kernel
theorem pd_21 : parseMethodDescriptor "(C)[B" = some ⟨[.char], some (.array .byte)⟩ := by decide +kernel
theorem d8_21 : decode jdk_42_method_139_code 21 = .ok (.iconst 0, 1) := by decide +kernel
theorem d8_22 : decode jdk_42_method_139_code 22 = .ok (.invokespecial 209, 3) := by decide +kernel
theorem pd_22 : parseMethodDescriptor "([BB)V" = some ⟨[(.array .byte), .byte], none⟩ := by decide +kernel
theorem d8_25 : decode jdk_42_method_139_code 25 = .ok (.areturn, 1) := by decide +kernel
theorem ef_s_vo (m : MethodId) (x0 : Int32) : entryFrame m #[(.int x0)] 1 = mkF m 0 #[.val (.int x0)] [] := by first | (simp [entryFrame, mkF, argsToLocals, Value.category]; done) | rfl | (simp [entryFrame, mkF, argsToLocals, own_catI, own_catR, *]; done)
def Q_s_vo (Z : State) (vc : Int32) (cps : Int32) (h0 : Heap) (n0 : Nat) (v : Option Value) (h : Heap) (L : List Loc) : Prop := ∃ (sa : Addr), ∃ (sb : Addr), ∃ (sk : ClassId), v = some (.ref sa) ∧ Fr n0 L ∧ Keep h0 h [] ∧ Exa Z h sa "java/lang/String" ∧ Fld Z h sa "java/lang/String" "coder" "B" (.int (0 : Int32)) ∧ Fld Z h sa "java/lang/String" "value" "[B" (.ref sb) ∧ Arv Z h sb sk .byte (own_ln ([(vc.toInt8.toInt32)] : List Int32)) (([(vc.toInt8.toInt32)] : List Int32).map Value.int) (.int (0 : Int32)) ∧ (h0.size ≤ sa)
set_option maxRecDepth 65536 in
set_option maxHeartbeats 40000000 in
theorem s_vo (l : Launch) (Z : State) (a0 : Array Value) (hw : ∀ d ∈ tables_1, d.before a0 Z = true) (ws : List Jvm.Cond) (vc : Int32) (cps : Int32) (h0 : Heap) (n0 : Nat) (Z0 : n0 ≤ h0.size) (F0_java_lang_String : Sta Z Z.heap "java/lang/String" "COMPACT_STRINGS" "Z" (.int cps)) (F1_ : Old Z n0 h0) (hcps : ¬ (cps = (0 : Int32))) (hvc : ¬ ((255 : Int32) < vc)) :
    MetFree l (⟨"java/lang/String", "valueOf", "(C)Ljava/lang/String;"⟩ : MethodName) (head1 (Jvm.Cond.code (⟨"java/lang/String", "valueOf", "(C)Ljava/lang/String;"⟩ : MethodName) jdk_42_method_139_code 1 (some (.object "java/lang/String")) :: ws) ({ frames := 2, cells := 2, slots := 5, locals := 27 } : Room)) (fun a U => a = #[(.int vc)] ∧ Z.Warmed39 U.vm ∧ U.heap = h0) (fun _ _ _ _ _ => True) (fun _ U o U' => ∃ v L, o = .returned v ∧ Q_s_vo Z vc cps h0 n0 v U'.heap L ∧ FrameEnd U o U' L ({ frames := 2, cells := 2, slots := 5, locals := 27 } : Room).cells ({ frames := 2, cells := 2, slots := 5, locals := 27 } : Room).slots) := by
  refine MetFree.of_bodySF (plainFor_of_name pn_0) hisR ?_
  intro p e s m args below meth c s₁ Bd hml0 hP hK
  obtain ⟨rfl, hZ, hh⟩ := hP
  have hx := Bd.exec
  have hby := Bd.bytes
  have hml : c.maxLocals = 1 := hml0
  have hown : s.vm.findClass "java/lang/String" = some m.cls := findClass_of_methodNamed Bd.named
  have hnm := (name_of_methodNamed Bd.named Bd.method).1
  have X0 : Stand p l e ({ frames := 2, cells := 2, slots := 5, locals := 27 } : Room) s m #[(.int vc)] below meth c s₁ [] 0 0 := Stand.of_body Bd
  have e0 : s₁.heap = h0 := by rw [← hh, Bd.state]; rfl
  have N0 := Fr.nil n0
  obtain ⟨G, hG⟩ : ∃ G : State → Prop, G = (fun U' => ∃ o, U'.status = .running ∧ Ended U' below o ∧ ∃ v L, o = .returned v ∧ Q_s_vo Z vc cps h0 n0 v U'.heap L ∧ FrameEnd s o U' L ({ frames := 2, cells := 2, slots := 5, locals := 27 } : Room).cells ({ frames := 2, cells := 2, slots := 5, locals := 27 } : Room).slots) := ⟨_, rfl⟩
  suffices key : Gl p.tables e below s₁ (mkF m 0 #[.val (.int vc)] []) G by
    obtain ⟨s₂, k1, k2⟩ := key
    rw [hG] at k2
    obtain ⟨o, k3, k4, k5⟩ := k2
    exact ⟨s₂, o, castTop (ef_s_vo m vc) k1, k3, k4, k5⟩
  show Gl p.tables e below s₁ (mkF m 0 #[.val (.int vc)] []) G
  have G1 : Sta Z h0 "java/lang/String" "COMPACT_STRINGS" "Z" (.int cps) := F0_java_lang_String.ext F1_.2
  obtain ⟨T2, X2, e2, st2⟩ := getS2 X0 hx hZ hown (host := "") (Or.inl (hw _ (List.mem_of_getElem? (i := 26) rfl))) Via.refl e0 G1 (g := (mkF m 0 #[.val (.int vc)] [])) rfl (hb hby d8_0)
  refine Gl.via st2 ?_
  show Gl p.tables e below T2 (mkF m 3 #[.val (.int vc)] [(.int cps)]) G
  refine Gl.via (fun _ k => XS.ifNo X2.here hx rfl (hb hby d8_3) rfl ((if0 _ _).trans (feq hcps).1) k) ?_
  show Gl p.tables e below T2 (mkF m 6 #[.val (.int vc)] []) G
  refine Gl.via (fun _ k => XS.iloadN X2.here hx rfl (hb hby d8_6) rfl k) ?_
  show Gl p.tables e below T2 (mkF m 7 #[.val (.int vc)] [(.int vc)]) G
  obtain ⟨_, _, ⟨T3, L3, k3, n3⟩, -, X3, ⟨Lc3, hQ3, l3, y3, z3⟩, st3⟩ := Jvm.LawKit.callS X2 hx (y := (⟨"java/lang/StringLatin1", "canEncode", "(C)Z"⟩ : MethodName)) hown (mvT hZ (hw _ (List.mem_of_getElem? (i := 40) rfl))) (mvT hZ (hw _ (List.mem_of_getElem? (i := 41) rfl))) (mvT hZ (hw _ (List.mem_of_getElem? (i := 42) rfl))) (mvT hZ (hw _ (List.mem_of_getElem? (i := 43) rfl))) (by decide) (backOf (W := 0) (canenc l Z a0 hw [] vc h0 n0 Z0 hvc) hZ (hw _ (List.mem_of_getElem? (i := 43) rfl)) (hw _ (List.mem_of_getElem? (i := 42) rfl)) (by decide) (by decide)) (g := (mkF m 7 #[.val (.int vc)] [(.int vc)])) rfl (by rw [hml]; rfl) (argsL := [(.int vc)]) (rest := []) (lenOf pd_20 rfl) rfl (by show 2 * 0 + _ ≤ _; exact Nat.le_of_eq rfl) (hb hby d8_7) (fun _ _ => ⟨rfl, e2, (by decide : 0 + 0 ≤ _), (by decide : 0 + 0 ≤ _)⟩)
  dsimp only [Pt.U, Pt.locs, Pt.cells, Pt.slots] at X3 l3 y3 z3 st3 hQ3
  subst l3 y3 z3
  obtain ⟨rfl, N3q, eh3⟩ := hQ3
  have N3_ := Fr.app N0 N3q
  refine Gl.via (fun _ k => st3 _ k) ?_
  show Gl p.tables e below T3 (mkF m 10 #[.val (.int vc)] [(.int (1 : Int32))]) G
  refine Gl.via (fun _ k => XS.ifNo X3.here hx rfl (hb hby d8_10) rfl ((if0 _ _).trans (feq (by decide)).1) k) ?_
  show Gl p.tables e below T3 (mkF m 13 #[.val (.int vc)] []) G
  obtain ⟨T4, h4, X4, e4, E4, A4, D4, -, st4⟩ := newO X3 hx hZ hown (hw _ (List.mem_of_getElem? (i := 44) rfl)) (hw _ (List.mem_of_getElem? (i := 5) rfl)) (hw _ (List.mem_of_getElem? (i := 6) rfl)) eh3 (g := (mkF m 13 #[.val (.int vc)] [])) rfl (hb hby d8_13) (by decide) (by decide)
  obtain ⟨b4, g4⟩ : ∃ z, z = h0.size := ⟨_, rfl⟩
  rw [← g4] at A4 D4 st4
  have ge5 : n0 ≤ b4 := Nat.le_trans Z0 (Nat.le_of_eq g4.symm)
  have gz6 : h0.size ≤ b4 := Nat.le_trans (Nat.le_refl h0.size) (Nat.le_of_eq g4.symm)
  refine Gl.via st4 ?_
  have Z7 : n0 ≤ h4.size := Nat.le_trans Z0 E4.1
  have Y8 : h0.size ≤ h4.size := Nat.le_trans (Nat.le_refl h0.size) E4.1
  have F9 : Fld Z h4 b4 "java/lang/String" "value" "[B" .null := D4 (Or.inr (hw _ (List.mem_of_getElem? (i := 20) rfl))) (ty := (.array .byte)) (by decide)
  have F10 : Fld Z h4 b4 "java/lang/String" "coder" "B" (.int (0 : Int32)) := D4 (Or.inr (hw _ (List.mem_of_getElem? (i := 21) rfl))) (ty := .byte) (by decide)
  show Gl p.tables e below T4 (mkF m 16 #[.val (.int vc)] [(.ref b4)]) G
  refine Gl.via (fun _ k => XS.dup X4.here hx rfl (hb hby d8_16) rfl rfl k) ?_
  show Gl p.tables e below T4 (mkF m 17 #[.val (.int vc)] [(.ref b4), (.ref b4)]) G
  refine Gl.via (fun _ k => XS.iloadN X4.here hx rfl (hb hby d8_17) rfl k) ?_
  show Gl p.tables e below T4 (mkF m 18 #[.val (.int vc)] [(.int vc), (.ref b4), (.ref b4)]) G
  obtain ⟨_, _, ⟨T11, L11, k11, n11⟩, -, X11, ⟨Lc11, hQ11, l11, y11, z11⟩, st11⟩ := Jvm.LawKit.callS X4 hx (y := (⟨"java/lang/StringLatin1", "toBytes", "(C)[B"⟩ : MethodName)) hown (mvT hZ (hw _ (List.mem_of_getElem? (i := 45) rfl))) (mvT hZ (hw _ (List.mem_of_getElem? (i := 46) rfl))) (mvT hZ (hw _ (List.mem_of_getElem? (i := 42) rfl))) (mvT hZ (hw _ (List.mem_of_getElem? (i := 47) rfl))) (by decide) (backOf (W := 2) (l1_tb l Z a0 hw [] vc h4 n0 Z7 ) hZ (hw _ (List.mem_of_getElem? (i := 47) rfl)) (hw _ (List.mem_of_getElem? (i := 42) rfl)) (by decide) (by decide)) (g := (mkF m 18 #[.val (.int vc)] [(.int vc), (.ref b4), (.ref b4)])) rfl (by rw [hml]; rfl) (argsL := [(.int vc)]) (rest := [(.ref b4), (.ref b4)]) (lenOf pd_21 rfl) rfl (by show 2 * 0 + _ ≤ _; exact Nat.le_of_eq rfl) (hb hby d8_18) (fun _ _ => ⟨rfl, e4, (by decide : 1 + 1 ≤ _), (by decide : 4 + 1 ≤ _)⟩)
  dsimp only [Pt.U, Pt.locs, Pt.cells, Pt.slots] at X11 l11 y11 z11 st11 hQ11
  subst l11 y11 z11
  obtain ⟨b_11, k_11, rfl, N11q, K11, P12, R13⟩ := hQ11
  have N11_ := Fr.app N3_ N11q
  refine Gl.via (fun _ k => st11 _ k) ?_
  have ne14 : b4 ≠ b_11 := Nat.ne_of_lt (Nat.lt_of_lt_of_le A4.lt R13)
  have ge15 : n0 ≤ b_11 := Nat.le_trans Z7 R13
  have gz16 : h0.size ≤ b_11 := Nat.le_trans Y8 R13
  have Z17 : n0 ≤ T11.heap.size := Nat.le_trans Z7 K11.1
  have Y18 : h0.size ≤ T11.heap.size := Nat.le_trans Y8 K11.1
  show Gl p.tables e below T11 (mkF m 21 #[.val (.int vc)] [(.ref b_11), (.ref b4), (.ref b4)]) G
  refine Gl.via (fun _ k => XS.iconst X11.here hx rfl (hb hby d8_21) k) ?_
  show Gl p.tables e below T11 (mkF m 22 #[.val (.int vc)] [(.int (0 : Int32)), (.ref b_11), (.ref b4), (.ref b4)]) G
  have G20 : Exa Z T11.heap b4 "java/lang/String" := (A4.keep K11)
  have G21 : Fld Z T11.heap b4 "java/lang/String" "value" "[B" .null := (F9.keep K11 nin0)
  have G22 : Fld Z T11.heap b4 "java/lang/String" "coder" "B" (.int (0 : Int32)) := (F10.keep K11 nin0)
  obtain ⟨_, _, ⟨T19, L19, k19, n19⟩, -, X19, ⟨Lc19, hQ19, l19, y19, z19⟩, st19⟩ := X11.specialBack hx (y := (⟨"java/lang/String", "<init>", "([BB)V"⟩ : MethodName)) rfl hown (mvT hZ (hw _ (List.mem_of_getElem? (i := 48) rfl))) (mvT hZ (hw _ (List.mem_of_getElem? (i := 49) rfl))) (mvT hZ (hw _ (List.mem_of_getElem? (i := 50) rfl))) (by decide) (backOf (W := 1) (s_inibb l Z a0 hw [] b4 b_11 .null (.int (0 : Int32)) T11.heap n0 Z17 G20 G21 G22 ge5) hZ (hw _ (List.mem_of_getElem? (i := 50) rfl)) (hw _ (List.mem_of_getElem? (i := 6) rfl)) (by decide) (by decide)) (g := (mkF m 22 #[.val (.int vc)] [(.int (0 : Int32)), (.ref b_11), (.ref b4), (.ref b4)])) rfl (by rw [hml]; rfl) (Steps.refl _) (a := b4) (argsL := [(.ref b_11), (.int (0 : Int32))]) (rest := [(.ref b4)]) (lenOf pd_22 rfl) rfl (by show 2 * 0 + _ ≤ _; exact Nat.le_of_eq rfl) (hb hby d8_22) (fun _ _ => ⟨rfl, rfl, (by decide : 2 + 0 ≤ _), (by decide : 5 + 0 ≤ _)⟩)
  dsimp only [Pt.U, Pt.locs, Pt.cells, Pt.slots] at X19 l19 y19 z19 st19 hQ19
  subst l19 y19 z19
  obtain ⟨rfl, N19q, K19, P23, P24, P25⟩ := hQ19
  have N19_ := Fr.app N11_ N19q
  refine Gl.via (fun _ k => st19.trans k) ?_
  have Z26 : n0 ≤ T19.heap.size := Nat.le_trans Z17 K19.1
  have Y27 : h0.size ≤ T19.heap.size := Nat.le_trans Y18 K19.1
  show Gl p.tables e below T19 (mkF m 25 #[.val (.int vc)] [(.ref b4)]) G
  obtain ⟨fs, hr, hrun, hended, hW, hsame⟩ := X19.leave (v := some (.ref b4)) (fun h => by rw [Bd.returns] at h; cases h)
  have G28 : Arv Z T19.heap b_11 k_11 .byte (1 : Int32) [(.int (vc.toInt8.toInt32))] (.int (0 : Int32)) := (P12.keep K19 (ninS (Ne.symm ne14) nin0))
  have hq : ∀ L, Fr n0 L → Q_s_vo Z vc cps h0 n0 (some (.ref b4)) T19.heap L := by
    intro L hN
    exact ⟨b4, b_11, k_11, rfl, hN, ((((Keep.refl h0 []).ext E4).trans K11 all0).trans K19 (allS (Or.inr gz6) all0)), P23, P24, P25, G28, gz6⟩
  rw [hG]
  exact Gl.fin (retOut X19 hx Bd.returns rfl (Or.inr (Or.inr (Or.inr (Or.inr ⟨rfl, rfl, rfl⟩)))) (hb hby d8_25) hr) ⟨_, hrun, hended, _, _, rfl, hq _ N19_, ⟨_, rfl⟩, hW, hsame.mono (by decide) (by decide)⟩
theorem pn_7 : plainName "java/lang/Record" = true := by first | (simp [plainName, overriddenIn]; done) | decide +kernel
theorem d13_0 : decode jdk_30_method_1_code 0 = .ok (.aload_n 0, 1) := by decide +kernel
theorem d13_1 : decode jdk_30_method_1_code 1 = .ok (.invokespecial 1, 3) := by decide +kernel
theorem d13_4 : decode jdk_30_method_1_code 4 = .ok (.return_, 1) := by decide +kernel
theorem ef_rec_init (m : MethodId) (x0 : Addr) : entryFrame m #[(.ref x0)] 1 = mkF m 0 #[.val (.ref x0)] [] := by first | (simp [entryFrame, mkF, argsToLocals, Value.category]; done) | rfl | (simp [entryFrame, mkF, argsToLocals, own_catI, own_catR, *]; done)
def Q_rec_init (Z : State) (ra : Addr) (h0 : Heap) (n0 : Nat) (v : Option Value) (h : Heap) (L : List Loc) : Prop := v = none ∧ Fr n0 L ∧ h = h0
set_option maxRecDepth 65536 in
set_option maxHeartbeats 40000000 in
theorem rec_init (l : Launch) (Z : State) (a0 : Array Value) (hw : ∀ d ∈ tables_1, d.before a0 Z = true) (ws : List Jvm.Cond) (ra : Addr) (h0 : Heap) (n0 : Nat) (Z0 : n0 ≤ h0.size) :
    MetFree l (⟨"java/lang/Record", "<init>", "()V"⟩ : MethodName) (head1 (Jvm.Cond.code (⟨"java/lang/Record", "<init>", "()V"⟩ : MethodName) jdk_30_method_1_code 1 none :: ws) ({ frames := 1, cells := 0, slots := 0, locals := 12 } : Room)) (fun a U => a = #[(.ref ra)] ∧ Z.Warmed39 U.vm ∧ U.heap = h0) (fun _ _ _ _ _ => True) (fun _ U o U' => ∃ v L, o = .returned v ∧ Q_rec_init Z ra h0 n0 v U'.heap L ∧ FrameEnd U o U' L ({ frames := 1, cells := 0, slots := 0, locals := 12 } : Room).cells ({ frames := 1, cells := 0, slots := 0, locals := 12 } : Room).slots) := by
  refine MetFree.of_bodySF (plainFor_of_name pn_7) hisR ?_
  intro p e s m args below meth c s₁ Bd hml0 hP hK
  obtain ⟨rfl, hZ, hh⟩ := hP
  have hx := Bd.exec
  have hby := Bd.bytes
  have hml : c.maxLocals = 1 := hml0
  have hown : s.vm.findClass "java/lang/Record" = some m.cls := findClass_of_methodNamed Bd.named
  have hnm := (name_of_methodNamed Bd.named Bd.method).1
  have X0 : Stand p l e ({ frames := 1, cells := 0, slots := 0, locals := 12 } : Room) s m #[(.ref ra)] below meth c s₁ [] 0 0 := Stand.of_body Bd
  have e0 : s₁.heap = h0 := by rw [← hh, Bd.state]; rfl
  have N0 := Fr.nil n0
  obtain ⟨G, hG⟩ : ∃ G : State → Prop, G = (fun U' => ∃ o, U'.status = .running ∧ Ended U' below o ∧ ∃ v L, o = .returned v ∧ Q_rec_init Z ra h0 n0 v U'.heap L ∧ FrameEnd s o U' L ({ frames := 1, cells := 0, slots := 0, locals := 12 } : Room).cells ({ frames := 1, cells := 0, slots := 0, locals := 12 } : Room).slots) := ⟨_, rfl⟩
  suffices key : Gl p.tables e below s₁ (mkF m 0 #[.val (.ref ra)] []) G by
    obtain ⟨s₂, k1, k2⟩ := key
    rw [hG] at k2
    obtain ⟨o, k3, k4, k5⟩ := k2
    exact ⟨s₂, o, castTop (ef_rec_init m ra) k1, k3, k4, k5⟩
  show Gl p.tables e below s₁ (mkF m 0 #[.val (.ref ra)] []) G
  refine Gl.via (fun _ k => XS.aloadN X0.here hx rfl (hb hby d13_0) rfl rfl k) ?_
  show Gl p.tables e below s₁ (mkF m 1 #[.val (.ref ra)] [(.ref ra)]) G
  obtain ⟨T1, X1, e1, st1⟩ := initO X0 hx hZ hown (hw _ (List.mem_of_getElem? (i := 62) rfl)) (hw _ (List.mem_of_getElem? (i := 16) rfl)) (hw _ (List.mem_of_getElem? (i := 17) rfl)) e0 (g := (mkF m 1 #[.val (.ref ra)] [(.ref ra)])) rfl (by rw [hml]; rfl) rfl (hb hby d13_1) (by decide) (W := 0) (by show 2 * 0 + _ ≤ _; exact Nat.le_of_eq rfl) (by decide)
  refine Gl.via st1 ?_
  show Gl p.tables e below T1 (mkF m 4 #[.val (.ref ra)] []) G
  obtain ⟨fs, hr, hrun, hended, hW, hsame⟩ := X1.leave (v := none) (fun _ => rfl)
  have hq : ∀ L, Fr n0 L → Q_rec_init Z ra h0 n0 (none) T1.heap L := by
    intro L hN
    rw [e1]
    exact ⟨rfl, hN, rfl⟩
  rw [hG]
  exact Gl.fin (X1.returnOut hx Bd.returns (hb hby d13_4) hr) ⟨_, hrun, hended, _, _, rfl, hq _ N0, ⟨_, rfl⟩, hW, hsame.mono (by decide) (by decide)⟩
theorem own_mb (x : Int32) : 0 ≤ (x &&& (255 : Int32)).toInt ∧ ¬ ((255 : Int32) < x &&& (255 : Int32)) := by
  have e : (x &&& (255 : Int32)).toBitVec.toNat = x.toBitVec.toNat % 256 := by
    show (x.toBitVec &&& 255#32).toNat = _
    rw [BitVec.toNat_and]; exact Nat.and_two_pow_sub_one_eq_mod _ 8
  have r : x.toBitVec.toNat % 256 < 256 := Nat.mod_lt _ (by decide)
  have t : (x &&& (255 : Int32)).toInt = (x.toBitVec.toNat % 256 : Nat) := by
    show (x &&& (255 : Int32)).toBitVec.toInt = _
    rw [BitVec.toInt_eq_toNat_of_lt (by omega), e]
  refine ⟨by omega, ?_⟩
  rw [Int32.lt_iff_toInt_lt]
  show ¬ (255 : Int) < _
  omega
theorem own_and255 (c : Int32) (h0 : 0 ≤ c.toInt) (h : ¬ ((255 : Int32) < c)) : c &&& (255 : Int32) = c := by
  rw [Int32.lt_iff_toInt_lt] at h
  have h2 : c.toInt ≤ 255 := by
    have q : ¬ (255 : Int) < c.toInt := h
    omega
  have key : ∀ n : Fin 256, (Int32.ofNat n.val &&& (255 : Int32)) = Int32.ofNat n.val := by decide +kernel
  have e : c = Int32.ofNat c.toInt.toNat := Int32.toInt_inj.mp (by rw [Int32.toInt_ofNat_of_lt (by omega)]; omega)
  have k := key ⟨c.toInt.toNat, by omega⟩
  rw [e]
  exact k
theorem own_chr {c : Int32} (h0 : 0 ≤ c.toInt) (h : ¬ ((255 : Int32) < c)) : nar .char c = c := by
  have e := own_and255 c h0 h
  show c.toUInt32.toUInt16.toUInt32.toInt32 = c
  rw [← e]
  exact i2c_mask _
theorem pn_8 : plainName "candorpay/OptionSynopsisPinLaw" = true := by first | (simp [plainName, overriddenIn]; done) | decide +kernel
theorem d1_0 : decode method_3_code 0 = .ok (.iload_n 0, 1) := by decide +kernel
theorem d1_1 : decode method_3_code 1 = .ok (.ifCond .ne 14, 3) := by decide +kernel
theorem d1_4 : decode method_3_code 4 = .ok (.new 14, 3) := by decide +kernel
theorem d1_7 : decode method_3_code 7 = .ok (.dup, 1) := by decide +kernel
theorem d1_8 : decode method_3_code 8 = .ok (.iconst 0, 1) := by decide +kernel
theorem d1_9 : decode method_3_code 9 = .ok (.newarray .char, 2) := by decide +kernel
theorem d1_11 : decode method_3_code 11 = .ok (.invokespecial 36, 3) := by decide +kernel
theorem pd_23 : parseMethodDescriptor "([C)V" = some ⟨[(.array .char)], none⟩ := by decide +kernel
theorem d1_14 : decode method_3_code 14 = .ok (.areturn, 1) := by decide +kernel
theorem d1_15 : decode method_3_code 15 = .ok (.iload_n 0, 1) := by decide +kernel
theorem d1_16 : decode method_3_code 16 = .ok (.iconst 1, 1) := by decide +kernel
theorem d1_17 : decode method_3_code 17 = .ok (.if_icmp .ne 8, 3) := by decide +kernel
theorem d1_20 : decode method_3_code 20 = .ok (.iload_n 1, 1) := by decide +kernel
theorem d1_21 : decode method_3_code 21 = .ok (.invokestatic 13, 3) := by decide +kernel
theorem pd_24 : parseMethodDescriptor "(C)Ljava/lang/String;" = some ⟨[.char], some (.object "java/lang/String")⟩ := by decide +kernel
theorem d1_24 : decode method_3_code 24 = .ok (.areturn, 1) := by decide +kernel
theorem d1_25 : decode method_3_code 25 = .ok (.iload_n 0, 1) := by decide +kernel
theorem d1_26 : decode method_3_code 26 = .ok (.iconst 2, 1) := by decide +kernel
theorem d1_27 : decode method_3_code 27 = .ok (.if_icmp .ne 22, 3) := by decide +kernel
theorem d1_30 : decode method_3_code 30 = .ok (.new 14, 3) := by decide +kernel
theorem d1_33 : decode method_3_code 33 = .ok (.dup, 1) := by decide +kernel
theorem d1_34 : decode method_3_code 34 = .ok (.iconst 2, 1) := by decide +kernel
theorem d1_35 : decode method_3_code 35 = .ok (.newarray .char, 2) := by decide +kernel
theorem d1_37 : decode method_3_code 37 = .ok (.dup, 1) := by decide +kernel
theorem d1_38 : decode method_3_code 38 = .ok (.iconst 0, 1) := by decide +kernel
theorem d1_39 : decode method_3_code 39 = .ok (.iload_n 1, 1) := by decide +kernel
theorem d1_40 : decode method_3_code 40 = .ok (.castore, 1) := by decide +kernel
theorem d1_41 : decode method_3_code 41 = .ok (.dup, 1) := by decide +kernel
theorem d1_42 : decode method_3_code 42 = .ok (.iconst 1, 1) := by decide +kernel
theorem d1_43 : decode method_3_code 43 = .ok (.iload_n 2, 1) := by decide +kernel
theorem d1_44 : decode method_3_code 44 = .ok (.castore, 1) := by decide +kernel
theorem d1_45 : decode method_3_code 45 = .ok (.invokespecial 36, 3) := by decide +kernel
theorem d1_48 : decode method_3_code 48 = .ok (.areturn, 1) := by decide +kernel
theorem d1_49 : decode method_3_code 49 = .ok (.new 14, 3) := by decide +kernel
theorem d1_52 : decode method_3_code 52 = .ok (.dup, 1) := by decide +kernel
theorem d1_53 : decode method_3_code 53 = .ok (.iconst 3, 1) := by decide +kernel
theorem d1_54 : decode method_3_code 54 = .ok (.newarray .char, 2) := by decide +kernel
theorem d1_56 : decode method_3_code 56 = .ok (.dup, 1) := by decide +kernel
theorem d1_57 : decode method_3_code 57 = .ok (.iconst 0, 1) := by decide +kernel
theorem d1_58 : decode method_3_code 58 = .ok (.iload_n 1, 1) := by decide +kernel
theorem d1_59 : decode method_3_code 59 = .ok (.castore, 1) := by decide +kernel
theorem d1_60 : decode method_3_code 60 = .ok (.dup, 1) := by decide +kernel
theorem d1_61 : decode method_3_code 61 = .ok (.iconst 1, 1) := by decide +kernel
theorem d1_62 : decode method_3_code 62 = .ok (.iload_n 2, 1) := by decide +kernel
theorem d1_63 : decode method_3_code 63 = .ok (.castore, 1) := by decide +kernel
theorem d1_64 : decode method_3_code 64 = .ok (.dup, 1) := by decide +kernel
theorem d1_65 : decode method_3_code 65 = .ok (.iconst 2, 1) := by decide +kernel
theorem d1_66 : decode method_3_code 66 = .ok (.iload_n 3, 1) := by decide +kernel
theorem d1_67 : decode method_3_code 67 = .ok (.castore, 1) := by decide +kernel
theorem d1_68 : decode method_3_code 68 = .ok (.invokespecial 36, 3) := by decide +kernel
theorem d1_71 : decode method_3_code 71 = .ok (.areturn, 1) := by decide +kernel
theorem ef_mkstr (m : MethodId) (x0 : Int32) (x1 : Int32) (x2 : Int32) (x3 : Int32) : entryFrame m #[(.int x0), (.int x1), (.int x2), (.int x3)] 4 = mkF m 0 #[.val (.int x0), .val (.int x1), .val (.int x2), .val (.int x3)] [] := by first | (simp [entryFrame, mkF, argsToLocals, Value.category]; done) | rfl | (simp [entryFrame, mkF, argsToLocals, own_catI, own_catR, *]; done)
def Q_mkstr (Z : State) (n : Int32) (c0 : Int32) (c1 : Int32) (c2 : Int32) (cps : Int32) (h0 : Heap) (n0 : Nat) (v : Option Value) (h : Heap) (L : List Loc) : Prop := ∃ (sa : Addr), ∃ (sb : Addr), ∃ (sk : ClassId), v = some (.ref sa) ∧ Fr n0 L ∧ Keep h0 h [] ∧ Exa Z h sa "java/lang/String" ∧ Fld Z h sa "java/lang/String" "coder" "B" (.int (0 : Int32)) ∧ Fld Z h sa "java/lang/String" "value" "[B" (.ref sb) ∧ Arv Z h sb sk .byte (own_ln (own_mk n c0 c1 c2)) ((own_mk n c0 c1 c2).map Value.int) (.int (0 : Int32)) ∧ (h0.size ≤ sa)
set_option maxRecDepth 65536 in
set_option maxHeartbeats 40000000 in
theorem mkstr (l : Launch) (Z : State) (a0 : Array Value) (hw : ∀ d ∈ tables_1, d.before a0 Z = true) (ws : List Jvm.Cond) (n : Int32) (c0 : Int32) (c1 : Int32) (c2 : Int32) (cps : Int32) (h0 : Heap) (n0 : Nat) (Z0 : n0 ≤ h0.size) (F0_java_lang_String : Sta Z Z.heap "java/lang/String" "COMPACT_STRINGS" "Z" (.int cps)) (F1_ : Old Z n0 h0) (hcps : ¬ (cps = (0 : Int32))) (hc0 : ¬ ((255 : Int32) < c0)) (hc1 : ¬ ((255 : Int32) < c1)) (hc2 : ¬ ((255 : Int32) < c2)) (hz0 : 0 ≤ c0.toInt) (hz1 : 0 ≤ c1.toInt) (hz2 : 0 ≤ c2.toInt) :
    MetFree l (⟨"candorpay/OptionSynopsisPinLaw", "make", "(ICCC)Ljava/lang/String;"⟩ : MethodName) (head1 (Jvm.Cond.code (⟨"candorpay/OptionSynopsisPinLaw", "make", "(ICCC)Ljava/lang/String;"⟩ : MethodName) method_3_code 4 (some (.object "java/lang/String")) :: ws) ({ frames := 4, cells := 6, slots := 12, locals := 66 } : Room)) (fun a U => a = #[(.int n), (.int c0), (.int c1), (.int c2)] ∧ Z.Warmed39 U.vm ∧ U.heap = h0 ∧ CHv Z own_EL U.vm h0 ∧ ∀ x ∈ ([] : List Addr), Safe Z own_EL U.vm h0 x) (fun _ _ _ _ _ => True) (fun _ U o U' => ∃ v L, o = .returned v ∧ Q_mkstr Z n c0 c1 c2 cps h0 n0 v U'.heap L ∧ CHr Z own_EL U.vm U.heap U'.vm U'.heap ∧ ReturnedEndW U o U' L ({ frames := 4, cells := 6, slots := 12, locals := 66 } : Room).cells ({ frames := 4, cells := 6, slots := 12, locals := 66 } : Room).slots) := by
  refine MetFree.of_bodySF (plainFor_of_name pn_8) hisR ?_
  intro p e s m args below meth c s₁ Bd hml0 hP hK
  obtain ⟨rfl, hZ, hh, hCH, hSF⟩ := hP
  have hx := Bd.exec
  have hby := Bd.bytes
  have hml : c.maxLocals = 4 := hml0
  have hown : s.vm.findClass "candorpay/OptionSynopsisPinLaw" = some m.cls := findClass_of_methodNamed Bd.named
  have hnm := (name_of_methodNamed Bd.named Bd.method).1
  have X0 : Stand p l e ({ frames := 4, cells := 6, slots := 12, locals := 66 } : Room) (s.setVm s.vm) m #[(.int n), (.int c0), (.int c1), (.int c2)] below meth c s₁ [] 0 0 := Stand.of_body Bd
  have e0 : s₁.heap = h0 := by rw [← hh, Bd.state]; rfl
  have N0 := Fr.nil n0
  have hS0 : s.Since s.vm 0 := (State.WarmedH.refl s).since 0
  have hk0 : 0 ≤ h0.size := Nat.zero_le _
  have hEL := own_ew hw
  have CR0 : CHr Z own_EL s.vm h0 s.vm h0 := CHr.refl hCH
  obtain ⟨G, hG⟩ : ∃ G : State → Prop, G = (fun U' => ∃ o, U'.status = .running ∧ Ended U' below o ∧ ∃ v L, o = .returned v ∧ Q_mkstr Z n c0 c1 c2 cps h0 n0 v U'.heap L ∧ CHr Z own_EL s.vm s.heap U'.vm U'.heap ∧ ReturnedEndW s o U' L ({ frames := 4, cells := 6, slots := 12, locals := 66 } : Room).cells ({ frames := 4, cells := 6, slots := 12, locals := 66 } : Room).slots) := ⟨_, rfl⟩
  suffices key : Gl p.tables e below s₁ (mkF m 0 #[.val (.int n), .val (.int c0), .val (.int c1), .val (.int c2)] []) G by
    obtain ⟨s₂, k1, k2⟩ := key
    rw [hG] at k2
    obtain ⟨o, k3, k4, k5⟩ := k2
    exact ⟨s₂, o, castTop (ef_mkstr m n c0 c1 c2) k1, k3, k4, k5⟩
  show Gl p.tables e below s₁ (mkF m 0 #[.val (.int n), .val (.int c0), .val (.int c1), .val (.int c2)] []) G
  refine Gl.via (fun _ k => XS.iloadN X0.here hx rfl (hb hby d1_0) rfl k) ?_
  show Gl p.tables e below s₁ (mkF m 1 #[.val (.int n), .val (.int c0), .val (.int c1), .val (.int c2)] [(.int n)]) G
  by_cases hn0 : n = (0 : Int32)
  · refine Gl.via (fun _ k => XS.ifNo X0.here hx rfl (hb hby d1_1) rfl ((if0 _ _).trans (teq hn0).2) k) ?_
    show Gl p.tables e below s₁ (mkF m 4 #[.val (.int n), .val (.int c0), .val (.int c1), .val (.int c2)] []) G
    obtain ⟨T1, h1, X1, e1, E1, A1, D1, -, st1⟩ := newO X0 hx hZ hown (hw _ (List.mem_of_getElem? (i := 4) rfl)) (hw _ (List.mem_of_getElem? (i := 5) rfl)) (hw _ (List.mem_of_getElem? (i := 6) rfl)) e0 (g := (mkF m 4 #[.val (.int n), .val (.int c0), .val (.int c1), .val (.int c2)] [])) rfl (hb hby d1_4) (by decide) (by decide)
    obtain ⟨b1, g1⟩ : ∃ z, z = h0.size := ⟨_, rfl⟩
    rw [← g1] at A1 D1 st1
    have ge2 : n0 ≤ b1 := Nat.le_trans Z0 (Nat.le_of_eq g1.symm)
    have gz3 : h0.size ≤ b1 := Nat.le_trans (Nat.le_refl h0.size) (Nat.le_of_eq g1.symm)
    have CR4 : CHr Z own_EL s.vm h0 s.vm h1 := CHr.trans CR0 (CHr.ext E1 CR0.1)
    have SF5 : Safe Z own_EL s.vm h1 b1 := Safe.ext E1 CR0.1 (Safe.new (Nat.le_of_eq g1.symm))
    refine Gl.via st1 ?_
    have Z6 : n0 ≤ h1.size := Nat.le_trans Z0 E1.1
    have Y7 : h0.size ≤ h1.size := Nat.le_trans (Nat.le_refl h0.size) E1.1
    have hl8 := Nat.le_trans hk0 E1.1
    have F9 : Fld Z h1 b1 "java/lang/String" "value" "[B" .null := D1 (Or.inr (hw _ (List.mem_of_getElem? (i := 20) rfl))) (ty := (.array .byte)) (by decide)
    have F10 : Fld Z h1 b1 "java/lang/String" "coder" "B" (.int (0 : Int32)) := D1 (Or.inr (hw _ (List.mem_of_getElem? (i := 21) rfl))) (ty := .byte) (by decide)
    show Gl p.tables e below T1 (mkF m 7 #[.val (.int n), .val (.int c0), .val (.int c1), .val (.int c2)] [(.ref b1)]) G
    refine Gl.via (fun _ k => XS.dup X1.here hx rfl (hb hby d1_7) rfl rfl k) ?_
    show Gl p.tables e below T1 (mkF m 8 #[.val (.int n), .val (.int c0), .val (.int c1), .val (.int c2)] [(.ref b1), (.ref b1)]) G
    refine Gl.via (fun _ k => XS.iconst X1.here hx rfl (hb hby d1_8) k) ?_
    show Gl p.tables e below T1 (mkF m 9 #[.val (.int n), .val (.int c0), .val (.int c1), .val (.int c2)] [(.int (0 : Int32)), (.ref b1), (.ref b1)]) G
    obtain ⟨T11, h11, k11, X11, e11, E11, A11, st11⟩ := newP X1 hx hZ (hw _ (List.mem_of_getElem? (i := 7) rfl)) e1 (g := (mkF m 9 #[.val (.int n), .val (.int c0), .val (.int c1), .val (.int c2)] [(.int (0 : Int32)), (.ref b1), (.ref b1)])) rfl (hb hby d1_9) rfl (by decide) (cap := 0) (by decide) (by decide) (by decide) (by decide)
    obtain ⟨b11, g11⟩ : ∃ z, z = h1.size := ⟨_, rfl⟩
    rw [← g11] at A11 st11
    have ne12 : b1 ≠ b11 := Nat.ne_of_lt (Nat.lt_of_lt_of_le A1.lt (Nat.le_of_eq g11.symm))
    have ge13 : n0 ≤ b11 := Nat.le_trans Z6 (Nat.le_of_eq g11.symm)
    have gz14 : h0.size ≤ b11 := Nat.le_trans Y7 (Nat.le_of_eq g11.symm)
    have CR15 : CHr Z own_EL s.vm h0 s.vm h11 := CHr.trans CR4 (CHr.ext E11 CR4.1)
    have SF16 : Safe Z own_EL s.vm h11 b1 := Safe.ext E11 CR4.1 SF5
    have SF17 : Safe Z own_EL s.vm h11 b11 := Safe.ext E11 CR4.1 (Safe.new (Nat.le_of_eq g11.symm))
    refine Gl.via st11 ?_
    have Z18 : n0 ≤ h11.size := Nat.le_trans Z6 E11.1
    have Y19 : h0.size ≤ h11.size := Nat.le_trans Y7 E11.1
    have hl20 := Nat.le_trans hl8 E11.1
    have V21 : Arv Z h11 b11 k11 .char (0 : Int32) [] (.int (0 : Int32)) := (Arv.new A11 (by decide)).pad (pad_rep [] (.int (0 : Int32)) 0)
    show Gl p.tables e below T11 (mkF m 11 #[.val (.int n), .val (.int c0), .val (.int c1), .val (.int c2)] [(.ref b11), (.ref b1), (.ref b1)]) G
    have G23 : Exa Z h11 b1 "java/lang/String" := (A1.ext E11)
    have G24 : Fld Z h11 b1 "java/lang/String" "value" "[B" .null := (F9.ext E11)
    have G25 : Fld Z h11 b1 "java/lang/String" "coder" "B" (.int (0 : Int32)) := (F10.ext E11)
    have G26 : Old Z n0 h11 := ((F1_.ext E1).ext E11)
    obtain ⟨_, _, ⟨T22, L22, k22, n22⟩, -, Xb22, hSb22, hgb22, ⟨Lc22, hQ22, l22, y22, z22, hC22⟩, st22⟩ := X11.specialBackS hx (y := (⟨"java/lang/String", "<init>", "([C)V"⟩ : MethodName)) rfl hown (mvT hZ (hw _ (List.mem_of_getElem? (i := 8) rfl))) (mvT hZ (hw _ (List.mem_of_getElem? (i := 9) rfl))) (mvT hZ (hw _ (List.mem_of_getElem? (i := 10) rfl))) (by decide) (own_back (W := 1) (si1_0 l Z a0 hw [] b1 .null (.int (0 : Int32)) b11 k11 cps h11 n0 Z18 G23 G24 G25 V21 F0_java_lang_String G26 hcps ge2 ne12) hZ (hw _ (List.mem_of_getElem? (i := 10) rfl)) (hw _ (List.mem_of_getElem? (i := 6) rfl)) (by decide) (by decide) hEL CR15.1 (own_xs ⟨SF16, G23.lt⟩ (fun _ z => nomatch z))) (g := (mkF m 11 #[.val (.int n), .val (.int c0), .val (.int c1), .val (.int c2)] [(.ref b11), (.ref b1), (.ref b1)])) rfl (by rw [hml]; rfl) (Steps.refl _) (a := b1) (argsL := [(.ref b11)]) (rest := [(.ref b1)]) (lenOf pd_23 rfl) rfl (by show 2 * 0 + _ ≤ _; exact Nat.le_of_eq rfl) (hb hby d1_11) (fun _ _ => ⟨rfl, e11, (by decide : 2 + 4 ≤ _), (by decide : 4 + 8 ≤ _)⟩)
    dsimp only [Pt.U, Pt.locs, Pt.cells, Pt.slots] at Xb22 hSb22 hgb22 l22 y22 z22 st22 hQ22 hC22
    subst l22 y22 z22
    obtain ⟨X22, hS22, hZ22, hown22⟩ := rebS hS0 (by rw [e11]; exact hl20) Xb22 hSb22 hgb22 hZ hown
    have hk22 : T22.heap.size ≤ T22.heap.size := Nat.le_refl _
    obtain ⟨sb_22, sk_22, rfl, N22q, K22, P27, P28, P29, P30⟩ := hQ22
    have N22_ := Fr.app N0 N22q
    refine Gl.via (fun _ k => st22.trans k) ?_
    have CR31 : CHr Z own_EL s.vm h0 T22.vm T22.heap := CHr.trans CR15 hC22
    have SF32 : Safe Z own_EL T22.vm T22.heap b1 := hC22.safe (by have q := G23.lt; exact q) SF16
    have SF33 : Safe Z own_EL T22.vm T22.heap b11 := hC22.safe (by have q := V21.lt; exact q) SF17
    have Z34 : n0 ≤ T22.heap.size := Nat.le_trans Z18 K22.1
    have Y35 : h0.size ≤ T22.heap.size := Nat.le_trans Y19 K22.1
    have hl36 := Nat.le_trans hl20 K22.1
    show Gl p.tables e below T22 (mkF m 14 #[.val (.int n), .val (.int c0), .val (.int c1), .val (.int c2)] [(.ref b1)]) G
    have V37 : Arv Z T22.heap sb_22 sk_22 .byte (own_ln (own_mk n c0 c1 c2)) ((own_mk n c0 c1 c2).map Value.int) (.int (0 : Int32)) := by rw [own_mk0 hn0]; exact P30
    obtain ⟨fs, hr, hrun, hended, hRW⟩ := X22.leaveW hS22 hk22 (v := some (.ref b1)) (fun h => by rw [Bd.returns] at h; cases h)
    have hq : ∀ L, Fr n0 L → Q_mkstr Z n c0 c1 c2 cps h0 n0 (some (.ref b1)) T22.heap L := by
      intro L hN
      exact ⟨b1, sb_22, sk_22, rfl, hN, ((((Keep.refl h0 []).ext E1).ext E11).trans K22 (allS (Or.inr gz3) all0)), P27, P28, P29, V37, gz3⟩
    have hc : CHr Z own_EL s.vm s.heap T22.vm T22.heap := by
      rw [hh]
      exact CHr.trans CR31 (CHv.at X22 hZ22 hEL CR31.1)
    rw [hG]
    exact Gl.fin (retOut X22 hx Bd.returns rfl (Or.inr (Or.inr (Or.inr (Or.inr ⟨rfl, rfl, rfl⟩)))) (hb hby d1_14) hr) ⟨_, hrun, hended, _, _, rfl, hq _ N22_, hc, ⟨hRW.1, hRW.2.1, hRW.2.2.1, hRW.2.2.2.mono (by decide) (by decide)⟩⟩
  · refine Gl.via (fun _ k => XS.ifYes X0.here hx rfl (pc0 := 1) (pc' := 15) rfl (hb hby d1_1) rfl ((if0 _ _).trans (feq hn0).2) (by decide) (by decide) k) ?_
    show Gl p.tables e below s₁ (mkF m 15 #[.val (.int n), .val (.int c0), .val (.int c1), .val (.int c2)] []) G
    refine Gl.via (fun _ k => XS.iloadN X0.here hx rfl (hb hby d1_15) rfl k) ?_
    show Gl p.tables e below s₁ (mkF m 16 #[.val (.int n), .val (.int c0), .val (.int c1), .val (.int c2)] [(.int n)]) G
    refine Gl.via (fun _ k => XS.iconst X0.here hx rfl (hb hby d1_16) k) ?_
    show Gl p.tables e below s₁ (mkF m 17 #[.val (.int n), .val (.int c0), .val (.int c1), .val (.int c2)] [(.int (1 : Int32)), (.int n)]) G
    by_cases hn1 : n = (1 : Int32)
    · refine Gl.via (fun _ k => XS.icmpNo X0.here hx rfl (hb hby d1_17) rfl (teq hn1).2 k) ?_
      show Gl p.tables e below s₁ (mkF m 20 #[.val (.int n), .val (.int c0), .val (.int c1), .val (.int c2)] []) G
      refine Gl.via (fun _ k => XS.iloadN X0.here hx rfl (hb hby d1_20) rfl k) ?_
      show Gl p.tables e below s₁ (mkF m 21 #[.val (.int n), .val (.int c0), .val (.int c1), .val (.int c2)] [(.int c0)]) G
      obtain ⟨_, _, ⟨T38, L38, k38, n38⟩, -, X38, ⟨Lc38, hQ38, l38, y38, z38⟩, st38⟩ := Jvm.LawKit.callS X0 hx (y := (⟨"java/lang/String", "valueOf", "(C)Ljava/lang/String;"⟩ : MethodName)) hown (mvT hZ (hw _ (List.mem_of_getElem? (i := 37) rfl))) (mvT hZ (hw _ (List.mem_of_getElem? (i := 38) rfl))) (mvT hZ (hw _ (List.mem_of_getElem? (i := 6) rfl))) (mvT hZ (hw _ (List.mem_of_getElem? (i := 39) rfl))) (by decide) (backOf (W := 0) (s_vo l Z a0 hw [] c0 cps h0 n0 Z0 F0_java_lang_String F1_ hcps hc0) hZ (hw _ (List.mem_of_getElem? (i := 39) rfl)) (hw _ (List.mem_of_getElem? (i := 6) rfl)) (by decide) (by decide)) (g := (mkF m 21 #[.val (.int n), .val (.int c0), .val (.int c1), .val (.int c2)] [(.int c0)])) rfl (by rw [hml]; rfl) (argsL := [(.int c0)]) (rest := []) (lenOf pd_24 rfl) rfl (by show 2 * 0 + _ ≤ _; exact Nat.le_of_eq rfl) (hb hby d1_21) (fun _ _ => ⟨rfl, e0, (by decide : 0 + 2 ≤ _), (by decide : 0 + 5 ≤ _)⟩)
      dsimp only [Pt.U, Pt.locs, Pt.cells, Pt.slots] at X38 l38 y38 z38 st38 hQ38
      subst l38 y38 z38
      obtain ⟨sa_38, sb_38, sk_38, rfl, N38q, K38, P39, P40, P41, P42, R43⟩ := hQ38
      have N38_ := Fr.app N0 N38q
      refine Gl.via (fun _ k => st38 _ k) ?_
      have ge44 : n0 ≤ sa_38 := Nat.le_trans Z0 R43
      have gz45 : h0.size ≤ sa_38 := Nat.le_trans (Nat.le_refl h0.size) R43
      have CR46 : CHr Z own_EL s.vm h0 s.vm T38.heap := CHr.trans CR0 (CHr.keep K38 sf0 CR0.1)
      have SF47 : Safe Z own_EL s.vm T38.heap sa_38 := Safe.keep K38 sf0 CR0.1 (Safe.new R43)
      have Z48 : n0 ≤ T38.heap.size := Nat.le_trans Z0 K38.1
      have Y49 : h0.size ≤ T38.heap.size := Nat.le_trans (Nat.le_refl h0.size) K38.1
      have hl50 := Nat.le_trans hk0 K38.1
      show Gl p.tables e below T38 (mkF m 24 #[.val (.int n), .val (.int c0), .val (.int c1), .val (.int c2)] [(.ref sa_38)]) G
      have V51 : Arv Z T38.heap sb_38 sk_38 .byte (own_ln (own_mk n c0 c1 c2)) ((own_mk n c0 c1 c2).map Value.int) (.int (0 : Int32)) := by rw [own_mk1 hn0 hn1]; exact P42
      obtain ⟨fs, hr, hrun, hended, hRW⟩ := X38.leaveW hS0 hl50 (v := some (.ref sa_38)) (fun h => by rw [Bd.returns] at h; cases h)
      have hq : ∀ L, Fr n0 L → Q_mkstr Z n c0 c1 c2 cps h0 n0 (some (.ref sa_38)) T38.heap L := by
        intro L hN
        exact ⟨sa_38, sb_38, sk_38, rfl, hN, ((Keep.refl h0 []).trans K38 all0), P39, P40, P41, V51, R43⟩
      have hc : CHr Z own_EL s.vm s.heap T38.vm T38.heap := by
        rw [hh]
        exact CHr.trans CR46 (CHv.at X38 hZ hEL CR46.1)
      rw [hG]
      exact Gl.fin (retOut X38 hx Bd.returns rfl (Or.inr (Or.inr (Or.inr (Or.inr ⟨rfl, rfl, rfl⟩)))) (hb hby d1_24) hr) ⟨_, hrun, hended, _, _, rfl, hq _ N38_, hc, ⟨hRW.1, hRW.2.1, hRW.2.2.1, hRW.2.2.2.mono (by decide) (by decide)⟩⟩
    · refine Gl.via (fun _ k => XS.icmpYes X0.here hx rfl (pc0 := 17) (pc' := 25) rfl (hb hby d1_17) rfl (feq hn1).2 (by decide) (by decide) k) ?_
      show Gl p.tables e below s₁ (mkF m 25 #[.val (.int n), .val (.int c0), .val (.int c1), .val (.int c2)] []) G
      refine Gl.via (fun _ k => XS.iloadN X0.here hx rfl (hb hby d1_25) rfl k) ?_
      show Gl p.tables e below s₁ (mkF m 26 #[.val (.int n), .val (.int c0), .val (.int c1), .val (.int c2)] [(.int n)]) G
      refine Gl.via (fun _ k => XS.iconst X0.here hx rfl (hb hby d1_26) k) ?_
      show Gl p.tables e below s₁ (mkF m 27 #[.val (.int n), .val (.int c0), .val (.int c1), .val (.int c2)] [(.int (2 : Int32)), (.int n)]) G
      by_cases hn2 : n = (2 : Int32)
      · refine Gl.via (fun _ k => XS.icmpNo X0.here hx rfl (hb hby d1_27) rfl (teq hn2).2 k) ?_
        show Gl p.tables e below s₁ (mkF m 30 #[.val (.int n), .val (.int c0), .val (.int c1), .val (.int c2)] []) G
        obtain ⟨T52, h52, X52, e52, E52, A52, D52, -, st52⟩ := newO X0 hx hZ hown (hw _ (List.mem_of_getElem? (i := 4) rfl)) (hw _ (List.mem_of_getElem? (i := 5) rfl)) (hw _ (List.mem_of_getElem? (i := 6) rfl)) e0 (g := (mkF m 30 #[.val (.int n), .val (.int c0), .val (.int c1), .val (.int c2)] [])) rfl (hb hby d1_30) (by decide) (by decide)
        obtain ⟨b52, g52⟩ : ∃ z, z = h0.size := ⟨_, rfl⟩
        rw [← g52] at A52 D52 st52
        have ge53 : n0 ≤ b52 := Nat.le_trans Z0 (Nat.le_of_eq g52.symm)
        have gz54 : h0.size ≤ b52 := Nat.le_trans (Nat.le_refl h0.size) (Nat.le_of_eq g52.symm)
        have CR55 : CHr Z own_EL s.vm h0 s.vm h52 := CHr.trans CR0 (CHr.ext E52 CR0.1)
        have SF56 : Safe Z own_EL s.vm h52 b52 := Safe.ext E52 CR0.1 (Safe.new (Nat.le_of_eq g52.symm))
        refine Gl.via st52 ?_
        have Z57 : n0 ≤ h52.size := Nat.le_trans Z0 E52.1
        have Y58 : h0.size ≤ h52.size := Nat.le_trans (Nat.le_refl h0.size) E52.1
        have hl59 := Nat.le_trans hk0 E52.1
        have F60 : Fld Z h52 b52 "java/lang/String" "value" "[B" .null := D52 (Or.inr (hw _ (List.mem_of_getElem? (i := 20) rfl))) (ty := (.array .byte)) (by decide)
        have F61 : Fld Z h52 b52 "java/lang/String" "coder" "B" (.int (0 : Int32)) := D52 (Or.inr (hw _ (List.mem_of_getElem? (i := 21) rfl))) (ty := .byte) (by decide)
        show Gl p.tables e below T52 (mkF m 33 #[.val (.int n), .val (.int c0), .val (.int c1), .val (.int c2)] [(.ref b52)]) G
        refine Gl.via (fun _ k => XS.dup X52.here hx rfl (hb hby d1_33) rfl rfl k) ?_
        show Gl p.tables e below T52 (mkF m 34 #[.val (.int n), .val (.int c0), .val (.int c1), .val (.int c2)] [(.ref b52), (.ref b52)]) G
        refine Gl.via (fun _ k => XS.iconst X52.here hx rfl (hb hby d1_34) k) ?_
        show Gl p.tables e below T52 (mkF m 35 #[.val (.int n), .val (.int c0), .val (.int c1), .val (.int c2)] [(.int (2 : Int32)), (.ref b52), (.ref b52)]) G
        obtain ⟨T62, h62, k62, X62, e62, E62, A62, st62⟩ := newP X52 hx hZ (hw _ (List.mem_of_getElem? (i := 7) rfl)) e52 (g := (mkF m 35 #[.val (.int n), .val (.int c0), .val (.int c1), .val (.int c2)] [(.int (2 : Int32)), (.ref b52), (.ref b52)])) rfl (hb hby d1_35) rfl (by decide) (cap := 2) (by decide) (by decide) (by decide) (by decide)
        obtain ⟨b62, g62⟩ : ∃ z, z = h52.size := ⟨_, rfl⟩
        rw [← g62] at A62 st62
        have ne63 : b52 ≠ b62 := Nat.ne_of_lt (Nat.lt_of_lt_of_le A52.lt (Nat.le_of_eq g62.symm))
        have ge64 : n0 ≤ b62 := Nat.le_trans Z57 (Nat.le_of_eq g62.symm)
        have gz65 : h0.size ≤ b62 := Nat.le_trans Y58 (Nat.le_of_eq g62.symm)
        have CR66 : CHr Z own_EL s.vm h0 s.vm h62 := CHr.trans CR55 (CHr.ext E62 CR55.1)
        have SF67 : Safe Z own_EL s.vm h62 b52 := Safe.ext E62 CR55.1 SF56
        have SF68 : Safe Z own_EL s.vm h62 b62 := Safe.ext E62 CR55.1 (Safe.new (Nat.le_of_eq g62.symm))
        refine Gl.via st62 ?_
        have Z69 : n0 ≤ h62.size := Nat.le_trans Z57 E62.1
        have Y70 : h0.size ≤ h62.size := Nat.le_trans Y58 E62.1
        have hl71 := Nat.le_trans hl59 E62.1
        have V72 : Arv Z h62 b62 k62 .char (2 : Int32) [(.int (0 : Int32)), (.int (0 : Int32))] (.int (0 : Int32)) := (Arv.new A62 (by decide)).pad (pad_rep [] (.int (0 : Int32)) 2)
        show Gl p.tables e below T62 (mkF m 37 #[.val (.int n), .val (.int c0), .val (.int c1), .val (.int c2)] [(.ref b62), (.ref b52), (.ref b52)]) G
        refine Gl.via (fun _ k => XS.dup X62.here hx rfl (hb hby d1_37) rfl rfl k) ?_
        show Gl p.tables e below T62 (mkF m 38 #[.val (.int n), .val (.int c0), .val (.int c1), .val (.int c2)] [(.ref b62), (.ref b62), (.ref b52), (.ref b52)]) G
        refine Gl.via (fun _ k => XS.iconst X62.here hx rfl (hb hby d1_38) k) ?_
        show Gl p.tables e below T62 (mkF m 39 #[.val (.int n), .val (.int c0), .val (.int c1), .val (.int c2)] [(.int (0 : Int32)), (.ref b62), (.ref b62), (.ref b52), (.ref b52)]) G
        refine Gl.via (fun _ k => XS.iloadN X62.here hx rfl (hb hby d1_39) rfl k) ?_
        show Gl p.tables e below T62 (mkF m 40 #[.val (.int n), .val (.int c0), .val (.int c1), .val (.int c2)] [(.int c0), (.int (0 : Int32)), (.ref b62), (.ref b62), (.ref b52), (.ref b52)]) G
        obtain ⟨cl73, Ar73, q73, S73, N73, H73, G73⟩ := id V72
        have hin73 : ¬ ((0 : Int32) < 0 ∨ cl73.slots.size ≤ ((0 : Int32)).toNatClampNeg) := inb_of S73 ⟨by decide, by decide⟩
        obtain ⟨T73, h73, X73, e73, W73, st73⟩ := stC X62 hx hZ e62 Ar73 (j := (0 : Int32)) hin73 (g := (mkF m 40 #[.val (.int n), .val (.int c0), .val (.int c1), .val (.int c2)] [(.int c0), (.int (0 : Int32)), (.ref b62), (.ref b62), (.ref b52), (.ref b52)])) rfl rfl (hb hby d1_40)
        have CR74 : CHr Z own_EL s.vm h0 s.vm h73 := CHr.trans CR66 (CHr.wr W73 SF68 CR66.1)
        have SF75 : Safe Z own_EL s.vm h73 b52 := Safe.wr W73 SF68 CR66.1 SF67
        have SF76 : Safe Z own_EL s.vm h73 b62 := Safe.wr W73 SF68 CR66.1 SF68
        refine Gl.via st73 ?_
        have N73_ := Fr.snoc X73 N0 ge64
        have Z77 : n0 ≤ h73.size := Nat.le_trans Z69 (Keep.of_wr W73).1
        have Y78 : h0.size ≤ h73.size := Nat.le_trans Y70 (Keep.of_wr W73).1
        have hl79 := Nat.le_trans hl71 (Keep.of_wr W73).1
        have V80 : Arv Z h73 b62 k62 .char (2 : Int32) [(.int (nar .char c0)), (.int (0 : Int32))] (.int (0 : Int32)) := Arv.set Ar73 q73 S73 N73 H73 G73 (fits_nar_char _) W73 0 rfl (Nat.le_of_ble_eq_true rfl)
        have V81 : Arv Z h73 b62 k62 .char (2 : Int32) [(.int c0), (.int (0 : Int32))] (.int (0 : Int32)) := by rw [show ((.int (nar .char c0)) : Value) = (.int c0) from (congrArg Value.int (own_chr hz0 hc0))] at V80; exact V80
        show Gl p.tables e below T73 (mkF m 41 #[.val (.int n), .val (.int c0), .val (.int c1), .val (.int c2)] [(.ref b62), (.ref b52), (.ref b52)]) G
        refine Gl.via (fun _ k => XS.dup X73.here hx rfl (hb hby d1_41) rfl rfl k) ?_
        show Gl p.tables e below T73 (mkF m 42 #[.val (.int n), .val (.int c0), .val (.int c1), .val (.int c2)] [(.ref b62), (.ref b62), (.ref b52), (.ref b52)]) G
        refine Gl.via (fun _ k => XS.iconst X73.here hx rfl (hb hby d1_42) k) ?_
        show Gl p.tables e below T73 (mkF m 43 #[.val (.int n), .val (.int c0), .val (.int c1), .val (.int c2)] [(.int (1 : Int32)), (.ref b62), (.ref b62), (.ref b52), (.ref b52)]) G
        refine Gl.via (fun _ k => XS.iloadN X73.here hx rfl (hb hby d1_43) rfl k) ?_
        show Gl p.tables e below T73 (mkF m 44 #[.val (.int n), .val (.int c0), .val (.int c1), .val (.int c2)] [(.int c1), (.int (1 : Int32)), (.ref b62), (.ref b62), (.ref b52), (.ref b52)]) G
        obtain ⟨cl82, Ar82, q82, S82, N82, H82, G82⟩ := id V81
        have hin82 : ¬ ((1 : Int32) < 0 ∨ cl82.slots.size ≤ ((1 : Int32)).toNatClampNeg) := inb_of S82 ⟨by decide, by decide⟩
        obtain ⟨T82, h82, X82, e82, W82, st82⟩ := stC X73 hx hZ e73 Ar82 (j := (1 : Int32)) hin82 (g := (mkF m 44 #[.val (.int n), .val (.int c0), .val (.int c1), .val (.int c2)] [(.int c1), (.int (1 : Int32)), (.ref b62), (.ref b62), (.ref b52), (.ref b52)])) rfl rfl (hb hby d1_44)
        have CR83 : CHr Z own_EL s.vm h0 s.vm h82 := CHr.trans CR74 (CHr.wr W82 SF76 CR74.1)
        have SF84 : Safe Z own_EL s.vm h82 b52 := Safe.wr W82 SF76 CR74.1 SF75
        have SF85 : Safe Z own_EL s.vm h82 b62 := Safe.wr W82 SF76 CR74.1 SF76
        refine Gl.via st82 ?_
        have N82_ := Fr.snoc X82 N73_ ge64
        have Z86 : n0 ≤ h82.size := Nat.le_trans Z77 (Keep.of_wr W82).1
        have Y87 : h0.size ≤ h82.size := Nat.le_trans Y78 (Keep.of_wr W82).1
        have hl88 := Nat.le_trans hl79 (Keep.of_wr W82).1
        have V89 : Arv Z h82 b62 k62 .char (2 : Int32) [(.int c0), (.int (nar .char c1))] (.int (0 : Int32)) := Arv.set Ar82 q82 S82 N82 H82 G82 (fits_nar_char _) W82 1 rfl (Nat.le_of_ble_eq_true rfl)
        have V90 : Arv Z h82 b62 k62 .char (2 : Int32) [(.int c0), (.int c1)] (.int (0 : Int32)) := by rw [show ((.int (nar .char c1)) : Value) = (.int c1) from (congrArg Value.int (own_chr hz1 hc1))] at V89; exact V89
        show Gl p.tables e below T82 (mkF m 45 #[.val (.int n), .val (.int c0), .val (.int c1), .val (.int c2)] [(.ref b62), (.ref b52), (.ref b52)]) G
        have G92 : Exa Z h82 b52 "java/lang/String" := (((A52.ext E62).wr W73).wr W82)
        have G93 : Fld Z h82 b52 "java/lang/String" "value" "[B" .null := (((F60.ext E62).other W73 (Or.inl ne63)).other W82 (Or.inl ne63))
        have G94 : Fld Z h82 b52 "java/lang/String" "coder" "B" (.int (0 : Int32)) := (((F61.ext E62).other W73 (Or.inl ne63)).other W82 (Or.inl ne63))
        have G95 : Old Z n0 h82 := ((((F1_.ext E52).ext E62).wr W73 ge64).wr W82 ge64)
        obtain ⟨_, _, ⟨T91, L91, k91, n91⟩, -, Xb91, hSb91, hgb91, ⟨Lc91, hQ91, l91, y91, z91, hC91⟩, st91⟩ := X82.specialBackS hx (y := (⟨"java/lang/String", "<init>", "([C)V"⟩ : MethodName)) rfl hown (mvT hZ (hw _ (List.mem_of_getElem? (i := 8) rfl))) (mvT hZ (hw _ (List.mem_of_getElem? (i := 9) rfl))) (mvT hZ (hw _ (List.mem_of_getElem? (i := 10) rfl))) (by decide) (own_back (W := 1) (si1_2 l Z a0 hw [] b52 .null (.int (0 : Int32)) b62 k62 c0 c1 cps h82 n0 Z86 G92 G93 G94 V90 F0_java_lang_String G95 hc0 hc1 hcps ge53 ne63) hZ (hw _ (List.mem_of_getElem? (i := 10) rfl)) (hw _ (List.mem_of_getElem? (i := 6) rfl)) (by decide) (by decide) hEL CR83.1 (own_xs ⟨SF84, G92.lt⟩ (fun _ z => nomatch z))) (g := (mkF m 45 #[.val (.int n), .val (.int c0), .val (.int c1), .val (.int c2)] [(.ref b62), (.ref b52), (.ref b52)])) rfl (by rw [hml]; rfl) (Steps.refl _) (a := b52) (argsL := [(.ref b62)]) (rest := [(.ref b52)]) (lenOf pd_23 rfl) rfl (by show 2 * 0 + _ ≤ _; exact Nat.le_of_eq rfl) (hb hby d1_45) (fun _ _ => ⟨rfl, e82, (by decide : 2 + 1 ≤ _), (by decide : 6 + 2 ≤ _)⟩)
        dsimp only [Pt.U, Pt.locs, Pt.cells, Pt.slots] at Xb91 hSb91 hgb91 l91 y91 z91 st91 hQ91 hC91
        subst l91 y91 z91
        obtain ⟨X91, hS91, hZ91, hown91⟩ := rebS hS0 (by rw [e82]; exact hl88) Xb91 hSb91 hgb91 hZ hown
        have hk91 : T91.heap.size ≤ T91.heap.size := Nat.le_refl _
        obtain ⟨sb_91, sk_91, rfl, N91q, K91, P96, P97, P98, P99⟩ := hQ91
        have N91_ := Fr.app N82_ N91q
        refine Gl.via (fun _ k => st91.trans k) ?_
        have CR100 : CHr Z own_EL s.vm h0 T91.vm T91.heap := CHr.trans CR83 hC91
        have SF101 : Safe Z own_EL T91.vm T91.heap b52 := hC91.safe (by have q := G92.lt; exact q) SF84
        have SF102 : Safe Z own_EL T91.vm T91.heap b62 := hC91.safe (by have q := V90.lt; exact q) SF85
        have Z103 : n0 ≤ T91.heap.size := Nat.le_trans Z86 K91.1
        have Y104 : h0.size ≤ T91.heap.size := Nat.le_trans Y87 K91.1
        have hl105 := Nat.le_trans hl88 K91.1
        show Gl p.tables e below T91 (mkF m 48 #[.val (.int n), .val (.int c0), .val (.int c1), .val (.int c2)] [(.ref b52)]) G
        have V106 : Arv Z T91.heap sb_91 sk_91 .byte (own_ln (own_mk n c0 c1 c2)) ((own_mk n c0 c1 c2).map Value.int) (.int (0 : Int32)) := by rw [own_mk2 hn0 hn1 hn2]; exact P99
        obtain ⟨fs, hr, hrun, hended, hRW⟩ := X91.leaveW hS91 hk91 (v := some (.ref b52)) (fun h => by rw [Bd.returns] at h; cases h)
        have hq : ∀ L, Fr n0 L → Q_mkstr Z n c0 c1 c2 cps h0 n0 (some (.ref b52)) T91.heap L := by
          intro L hN
          exact ⟨b52, sb_91, sk_91, rfl, hN, ((((((Keep.refl h0 []).ext E52).ext E62).wr W73 (Or.inr gz65)).wr W82 (Or.inr gz65)).trans K91 (allS (Or.inr gz54) all0)), P96, P97, P98, V106, gz54⟩
        have hc : CHr Z own_EL s.vm s.heap T91.vm T91.heap := by
          rw [hh]
          exact CHr.trans CR100 (CHv.at X91 hZ91 hEL CR100.1)
        rw [hG]
        exact Gl.fin (retOut X91 hx Bd.returns rfl (Or.inr (Or.inr (Or.inr (Or.inr ⟨rfl, rfl, rfl⟩)))) (hb hby d1_48) hr) ⟨_, hrun, hended, _, _, rfl, hq _ N91_, hc, ⟨hRW.1, hRW.2.1, hRW.2.2.1, hRW.2.2.2.mono (by decide) (by decide)⟩⟩
      · refine Gl.via (fun _ k => XS.icmpYes X0.here hx rfl (pc0 := 27) (pc' := 49) rfl (hb hby d1_27) rfl (feq hn2).2 (by decide) (by decide) k) ?_
        show Gl p.tables e below s₁ (mkF m 49 #[.val (.int n), .val (.int c0), .val (.int c1), .val (.int c2)] []) G
        obtain ⟨T107, h107, X107, e107, E107, A107, D107, -, st107⟩ := newO X0 hx hZ hown (hw _ (List.mem_of_getElem? (i := 4) rfl)) (hw _ (List.mem_of_getElem? (i := 5) rfl)) (hw _ (List.mem_of_getElem? (i := 6) rfl)) e0 (g := (mkF m 49 #[.val (.int n), .val (.int c0), .val (.int c1), .val (.int c2)] [])) rfl (hb hby d1_49) (by decide) (by decide)
        obtain ⟨b107, g107⟩ : ∃ z, z = h0.size := ⟨_, rfl⟩
        rw [← g107] at A107 D107 st107
        have ge108 : n0 ≤ b107 := Nat.le_trans Z0 (Nat.le_of_eq g107.symm)
        have gz109 : h0.size ≤ b107 := Nat.le_trans (Nat.le_refl h0.size) (Nat.le_of_eq g107.symm)
        have CR110 : CHr Z own_EL s.vm h0 s.vm h107 := CHr.trans CR0 (CHr.ext E107 CR0.1)
        have SF111 : Safe Z own_EL s.vm h107 b107 := Safe.ext E107 CR0.1 (Safe.new (Nat.le_of_eq g107.symm))
        refine Gl.via st107 ?_
        have Z112 : n0 ≤ h107.size := Nat.le_trans Z0 E107.1
        have Y113 : h0.size ≤ h107.size := Nat.le_trans (Nat.le_refl h0.size) E107.1
        have hl114 := Nat.le_trans hk0 E107.1
        have F115 : Fld Z h107 b107 "java/lang/String" "value" "[B" .null := D107 (Or.inr (hw _ (List.mem_of_getElem? (i := 20) rfl))) (ty := (.array .byte)) (by decide)
        have F116 : Fld Z h107 b107 "java/lang/String" "coder" "B" (.int (0 : Int32)) := D107 (Or.inr (hw _ (List.mem_of_getElem? (i := 21) rfl))) (ty := .byte) (by decide)
        show Gl p.tables e below T107 (mkF m 52 #[.val (.int n), .val (.int c0), .val (.int c1), .val (.int c2)] [(.ref b107)]) G
        refine Gl.via (fun _ k => XS.dup X107.here hx rfl (hb hby d1_52) rfl rfl k) ?_
        show Gl p.tables e below T107 (mkF m 53 #[.val (.int n), .val (.int c0), .val (.int c1), .val (.int c2)] [(.ref b107), (.ref b107)]) G
        refine Gl.via (fun _ k => XS.iconst X107.here hx rfl (hb hby d1_53) k) ?_
        show Gl p.tables e below T107 (mkF m 54 #[.val (.int n), .val (.int c0), .val (.int c1), .val (.int c2)] [(.int (3 : Int32)), (.ref b107), (.ref b107)]) G
        obtain ⟨T117, h117, k117, X117, e117, E117, A117, st117⟩ := newP X107 hx hZ (hw _ (List.mem_of_getElem? (i := 7) rfl)) e107 (g := (mkF m 54 #[.val (.int n), .val (.int c0), .val (.int c1), .val (.int c2)] [(.int (3 : Int32)), (.ref b107), (.ref b107)])) rfl (hb hby d1_54) rfl (by decide) (cap := 3) (by decide) (by decide) (by decide) (by decide)
        obtain ⟨b117, g117⟩ : ∃ z, z = h107.size := ⟨_, rfl⟩
        rw [← g117] at A117 st117
        have ne118 : b107 ≠ b117 := Nat.ne_of_lt (Nat.lt_of_lt_of_le A107.lt (Nat.le_of_eq g117.symm))
        have ge119 : n0 ≤ b117 := Nat.le_trans Z112 (Nat.le_of_eq g117.symm)
        have gz120 : h0.size ≤ b117 := Nat.le_trans Y113 (Nat.le_of_eq g117.symm)
        have CR121 : CHr Z own_EL s.vm h0 s.vm h117 := CHr.trans CR110 (CHr.ext E117 CR110.1)
        have SF122 : Safe Z own_EL s.vm h117 b107 := Safe.ext E117 CR110.1 SF111
        have SF123 : Safe Z own_EL s.vm h117 b117 := Safe.ext E117 CR110.1 (Safe.new (Nat.le_of_eq g117.symm))
        refine Gl.via st117 ?_
        have Z124 : n0 ≤ h117.size := Nat.le_trans Z112 E117.1
        have Y125 : h0.size ≤ h117.size := Nat.le_trans Y113 E117.1
        have hl126 := Nat.le_trans hl114 E117.1
        have V127 : Arv Z h117 b117 k117 .char (3 : Int32) [(.int (0 : Int32)), (.int (0 : Int32)), (.int (0 : Int32))] (.int (0 : Int32)) := (Arv.new A117 (by decide)).pad (pad_rep [] (.int (0 : Int32)) 3)
        show Gl p.tables e below T117 (mkF m 56 #[.val (.int n), .val (.int c0), .val (.int c1), .val (.int c2)] [(.ref b117), (.ref b107), (.ref b107)]) G
        refine Gl.via (fun _ k => XS.dup X117.here hx rfl (hb hby d1_56) rfl rfl k) ?_
        show Gl p.tables e below T117 (mkF m 57 #[.val (.int n), .val (.int c0), .val (.int c1), .val (.int c2)] [(.ref b117), (.ref b117), (.ref b107), (.ref b107)]) G
        refine Gl.via (fun _ k => XS.iconst X117.here hx rfl (hb hby d1_57) k) ?_
        show Gl p.tables e below T117 (mkF m 58 #[.val (.int n), .val (.int c0), .val (.int c1), .val (.int c2)] [(.int (0 : Int32)), (.ref b117), (.ref b117), (.ref b107), (.ref b107)]) G
        refine Gl.via (fun _ k => XS.iloadN X117.here hx rfl (hb hby d1_58) rfl k) ?_
        show Gl p.tables e below T117 (mkF m 59 #[.val (.int n), .val (.int c0), .val (.int c1), .val (.int c2)] [(.int c0), (.int (0 : Int32)), (.ref b117), (.ref b117), (.ref b107), (.ref b107)]) G
        obtain ⟨cl128, Ar128, q128, S128, N128, H128, G128⟩ := id V127
        have hin128 : ¬ ((0 : Int32) < 0 ∨ cl128.slots.size ≤ ((0 : Int32)).toNatClampNeg) := inb_of S128 ⟨by decide, by decide⟩
        obtain ⟨T128, h128, X128, e128, W128, st128⟩ := stC X117 hx hZ e117 Ar128 (j := (0 : Int32)) hin128 (g := (mkF m 59 #[.val (.int n), .val (.int c0), .val (.int c1), .val (.int c2)] [(.int c0), (.int (0 : Int32)), (.ref b117), (.ref b117), (.ref b107), (.ref b107)])) rfl rfl (hb hby d1_59)
        have CR129 : CHr Z own_EL s.vm h0 s.vm h128 := CHr.trans CR121 (CHr.wr W128 SF123 CR121.1)
        have SF130 : Safe Z own_EL s.vm h128 b107 := Safe.wr W128 SF123 CR121.1 SF122
        have SF131 : Safe Z own_EL s.vm h128 b117 := Safe.wr W128 SF123 CR121.1 SF123
        refine Gl.via st128 ?_
        have N128_ := Fr.snoc X128 N0 ge119
        have Z132 : n0 ≤ h128.size := Nat.le_trans Z124 (Keep.of_wr W128).1
        have Y133 : h0.size ≤ h128.size := Nat.le_trans Y125 (Keep.of_wr W128).1
        have hl134 := Nat.le_trans hl126 (Keep.of_wr W128).1
        have V135 : Arv Z h128 b117 k117 .char (3 : Int32) [(.int (nar .char c0)), (.int (0 : Int32)), (.int (0 : Int32))] (.int (0 : Int32)) := Arv.set Ar128 q128 S128 N128 H128 G128 (fits_nar_char _) W128 0 rfl (Nat.le_of_ble_eq_true rfl)
        have V136 : Arv Z h128 b117 k117 .char (3 : Int32) [(.int c0), (.int (0 : Int32)), (.int (0 : Int32))] (.int (0 : Int32)) := by rw [show ((.int (nar .char c0)) : Value) = (.int c0) from (congrArg Value.int (own_chr hz0 hc0))] at V135; exact V135
        show Gl p.tables e below T128 (mkF m 60 #[.val (.int n), .val (.int c0), .val (.int c1), .val (.int c2)] [(.ref b117), (.ref b107), (.ref b107)]) G
        refine Gl.via (fun _ k => XS.dup X128.here hx rfl (hb hby d1_60) rfl rfl k) ?_
        show Gl p.tables e below T128 (mkF m 61 #[.val (.int n), .val (.int c0), .val (.int c1), .val (.int c2)] [(.ref b117), (.ref b117), (.ref b107), (.ref b107)]) G
        refine Gl.via (fun _ k => XS.iconst X128.here hx rfl (hb hby d1_61) k) ?_
        show Gl p.tables e below T128 (mkF m 62 #[.val (.int n), .val (.int c0), .val (.int c1), .val (.int c2)] [(.int (1 : Int32)), (.ref b117), (.ref b117), (.ref b107), (.ref b107)]) G
        refine Gl.via (fun _ k => XS.iloadN X128.here hx rfl (hb hby d1_62) rfl k) ?_
        show Gl p.tables e below T128 (mkF m 63 #[.val (.int n), .val (.int c0), .val (.int c1), .val (.int c2)] [(.int c1), (.int (1 : Int32)), (.ref b117), (.ref b117), (.ref b107), (.ref b107)]) G
        obtain ⟨cl137, Ar137, q137, S137, N137, H137, G137⟩ := id V136
        have hin137 : ¬ ((1 : Int32) < 0 ∨ cl137.slots.size ≤ ((1 : Int32)).toNatClampNeg) := inb_of S137 ⟨by decide, by decide⟩
        obtain ⟨T137, h137, X137, e137, W137, st137⟩ := stC X128 hx hZ e128 Ar137 (j := (1 : Int32)) hin137 (g := (mkF m 63 #[.val (.int n), .val (.int c0), .val (.int c1), .val (.int c2)] [(.int c1), (.int (1 : Int32)), (.ref b117), (.ref b117), (.ref b107), (.ref b107)])) rfl rfl (hb hby d1_63)
        have CR138 : CHr Z own_EL s.vm h0 s.vm h137 := CHr.trans CR129 (CHr.wr W137 SF131 CR129.1)
        have SF139 : Safe Z own_EL s.vm h137 b107 := Safe.wr W137 SF131 CR129.1 SF130
        have SF140 : Safe Z own_EL s.vm h137 b117 := Safe.wr W137 SF131 CR129.1 SF131
        refine Gl.via st137 ?_
        have N137_ := Fr.snoc X137 N128_ ge119
        have Z141 : n0 ≤ h137.size := Nat.le_trans Z132 (Keep.of_wr W137).1
        have Y142 : h0.size ≤ h137.size := Nat.le_trans Y133 (Keep.of_wr W137).1
        have hl143 := Nat.le_trans hl134 (Keep.of_wr W137).1
        have V144 : Arv Z h137 b117 k117 .char (3 : Int32) [(.int c0), (.int (nar .char c1)), (.int (0 : Int32))] (.int (0 : Int32)) := Arv.set Ar137 q137 S137 N137 H137 G137 (fits_nar_char _) W137 1 rfl (Nat.le_of_ble_eq_true rfl)
        have V145 : Arv Z h137 b117 k117 .char (3 : Int32) [(.int c0), (.int c1), (.int (0 : Int32))] (.int (0 : Int32)) := by rw [show ((.int (nar .char c1)) : Value) = (.int c1) from (congrArg Value.int (own_chr hz1 hc1))] at V144; exact V144
        show Gl p.tables e below T137 (mkF m 64 #[.val (.int n), .val (.int c0), .val (.int c1), .val (.int c2)] [(.ref b117), (.ref b107), (.ref b107)]) G
        refine Gl.via (fun _ k => XS.dup X137.here hx rfl (hb hby d1_64) rfl rfl k) ?_
        show Gl p.tables e below T137 (mkF m 65 #[.val (.int n), .val (.int c0), .val (.int c1), .val (.int c2)] [(.ref b117), (.ref b117), (.ref b107), (.ref b107)]) G
        refine Gl.via (fun _ k => XS.iconst X137.here hx rfl (hb hby d1_65) k) ?_
        show Gl p.tables e below T137 (mkF m 66 #[.val (.int n), .val (.int c0), .val (.int c1), .val (.int c2)] [(.int (2 : Int32)), (.ref b117), (.ref b117), (.ref b107), (.ref b107)]) G
        refine Gl.via (fun _ k => XS.iloadN X137.here hx rfl (hb hby d1_66) rfl k) ?_
        show Gl p.tables e below T137 (mkF m 67 #[.val (.int n), .val (.int c0), .val (.int c1), .val (.int c2)] [(.int c2), (.int (2 : Int32)), (.ref b117), (.ref b117), (.ref b107), (.ref b107)]) G
        obtain ⟨cl146, Ar146, q146, S146, N146, H146, G146⟩ := id V145
        have hin146 : ¬ ((2 : Int32) < 0 ∨ cl146.slots.size ≤ ((2 : Int32)).toNatClampNeg) := inb_of S146 ⟨by decide, by decide⟩
        obtain ⟨T146, h146, X146, e146, W146, st146⟩ := stC X137 hx hZ e137 Ar146 (j := (2 : Int32)) hin146 (g := (mkF m 67 #[.val (.int n), .val (.int c0), .val (.int c1), .val (.int c2)] [(.int c2), (.int (2 : Int32)), (.ref b117), (.ref b117), (.ref b107), (.ref b107)])) rfl rfl (hb hby d1_67)
        have CR147 : CHr Z own_EL s.vm h0 s.vm h146 := CHr.trans CR138 (CHr.wr W146 SF140 CR138.1)
        have SF148 : Safe Z own_EL s.vm h146 b107 := Safe.wr W146 SF140 CR138.1 SF139
        have SF149 : Safe Z own_EL s.vm h146 b117 := Safe.wr W146 SF140 CR138.1 SF140
        refine Gl.via st146 ?_
        have N146_ := Fr.snoc X146 N137_ ge119
        have Z150 : n0 ≤ h146.size := Nat.le_trans Z141 (Keep.of_wr W146).1
        have Y151 : h0.size ≤ h146.size := Nat.le_trans Y142 (Keep.of_wr W146).1
        have hl152 := Nat.le_trans hl143 (Keep.of_wr W146).1
        have V153 : Arv Z h146 b117 k117 .char (3 : Int32) [(.int c0), (.int c1), (.int (nar .char c2))] (.int (0 : Int32)) := Arv.set Ar146 q146 S146 N146 H146 G146 (fits_nar_char _) W146 2 rfl (Nat.le_of_ble_eq_true rfl)
        have V154 : Arv Z h146 b117 k117 .char (3 : Int32) [(.int c0), (.int c1), (.int c2)] (.int (0 : Int32)) := by rw [show ((.int (nar .char c2)) : Value) = (.int c2) from (congrArg Value.int (own_chr hz2 hc2))] at V153; exact V153
        show Gl p.tables e below T146 (mkF m 68 #[.val (.int n), .val (.int c0), .val (.int c1), .val (.int c2)] [(.ref b117), (.ref b107), (.ref b107)]) G
        have G156 : Exa Z h146 b107 "java/lang/String" := ((((A107.ext E117).wr W128).wr W137).wr W146)
        have G157 : Fld Z h146 b107 "java/lang/String" "value" "[B" .null := ((((F115.ext E117).other W128 (Or.inl ne118)).other W137 (Or.inl ne118)).other W146 (Or.inl ne118))
        have G158 : Fld Z h146 b107 "java/lang/String" "coder" "B" (.int (0 : Int32)) := ((((F116.ext E117).other W128 (Or.inl ne118)).other W137 (Or.inl ne118)).other W146 (Or.inl ne118))
        have G159 : Old Z n0 h146 := (((((F1_.ext E107).ext E117).wr W128 ge119).wr W137 ge119).wr W146 ge119)
        obtain ⟨_, _, ⟨T155, L155, k155, n155⟩, -, Xb155, hSb155, hgb155, ⟨Lc155, hQ155, l155, y155, z155, hC155⟩, st155⟩ := X146.specialBackS hx (y := (⟨"java/lang/String", "<init>", "([C)V"⟩ : MethodName)) rfl hown (mvT hZ (hw _ (List.mem_of_getElem? (i := 8) rfl))) (mvT hZ (hw _ (List.mem_of_getElem? (i := 9) rfl))) (mvT hZ (hw _ (List.mem_of_getElem? (i := 10) rfl))) (by decide) (own_back (W := 1) (si1_3 l Z a0 hw [] b107 .null (.int (0 : Int32)) b117 k117 c0 c1 c2 cps h146 n0 Z150 G156 G157 G158 V154 F0_java_lang_String G159 hc0 hc1 hc2 hcps ge108 ne118) hZ (hw _ (List.mem_of_getElem? (i := 10) rfl)) (hw _ (List.mem_of_getElem? (i := 6) rfl)) (by decide) (by decide) hEL CR147.1 (own_xs ⟨SF148, G156.lt⟩ (fun _ z => nomatch z))) (g := (mkF m 68 #[.val (.int n), .val (.int c0), .val (.int c1), .val (.int c2)] [(.ref b117), (.ref b107), (.ref b107)])) rfl (by rw [hml]; rfl) (Steps.refl _) (a := b107) (argsL := [(.ref b117)]) (rest := [(.ref b107)]) (lenOf pd_23 rfl) rfl (by show 2 * 0 + _ ≤ _; exact Nat.le_of_eq rfl) (hb hby d1_68) (fun _ _ => ⟨rfl, e146, (by decide : 2 + 1 ≤ _), (by decide : 7 + 3 ≤ _)⟩)
        dsimp only [Pt.U, Pt.locs, Pt.cells, Pt.slots] at Xb155 hSb155 hgb155 l155 y155 z155 st155 hQ155 hC155
        subst l155 y155 z155
        obtain ⟨X155, hS155, hZ155, hown155⟩ := rebS hS0 (by rw [e146]; exact hl152) Xb155 hSb155 hgb155 hZ hown
        have hk155 : T155.heap.size ≤ T155.heap.size := Nat.le_refl _
        obtain ⟨sb_155, sk_155, rfl, N155q, K155, P160, P161, P162, P163⟩ := hQ155
        have N155_ := Fr.app N146_ N155q
        refine Gl.via (fun _ k => st155.trans k) ?_
        have CR164 : CHr Z own_EL s.vm h0 T155.vm T155.heap := CHr.trans CR147 hC155
        have SF165 : Safe Z own_EL T155.vm T155.heap b107 := hC155.safe (by have q := G156.lt; exact q) SF148
        have SF166 : Safe Z own_EL T155.vm T155.heap b117 := hC155.safe (by have q := V154.lt; exact q) SF149
        have Z167 : n0 ≤ T155.heap.size := Nat.le_trans Z150 K155.1
        have Y168 : h0.size ≤ T155.heap.size := Nat.le_trans Y151 K155.1
        have hl169 := Nat.le_trans hl152 K155.1
        show Gl p.tables e below T155 (mkF m 71 #[.val (.int n), .val (.int c0), .val (.int c1), .val (.int c2)] [(.ref b107)]) G
        have V170 : Arv Z T155.heap sb_155 sk_155 .byte (own_ln (own_mk n c0 c1 c2)) ((own_mk n c0 c1 c2).map Value.int) (.int (0 : Int32)) := by rw [own_mk3 hn0 hn1 hn2]; exact P163
        obtain ⟨fs, hr, hrun, hended, hRW⟩ := X155.leaveW hS155 hk155 (v := some (.ref b107)) (fun h => by rw [Bd.returns] at h; cases h)
        have hq : ∀ L, Fr n0 L → Q_mkstr Z n c0 c1 c2 cps h0 n0 (some (.ref b107)) T155.heap L := by
          intro L hN
          exact ⟨b107, sb_155, sk_155, rfl, hN, (((((((Keep.refl h0 []).ext E107).ext E117).wr W128 (Or.inr gz120)).wr W137 (Or.inr gz120)).wr W146 (Or.inr gz120)).trans K155 (allS (Or.inr gz109) all0)), P160, P161, P162, V170, gz109⟩
        have hc : CHr Z own_EL s.vm s.heap T155.vm T155.heap := by
          rw [hh]
          exact CHr.trans CR164 (CHv.at X155 hZ155 hEL CR164.1)
        rw [hG]
        exact Gl.fin (retOut X155 hx Bd.returns rfl (Or.inr (Or.inr (Or.inr (Or.inr ⟨rfl, rfl, rfl⟩)))) (hb hby d1_71) hr) ⟨_, hrun, hended, _, _, rfl, hq _ N155_, hc, ⟨hRW.1, hRW.2.1, hRW.2.2.1, hRW.2.2.2.mono (by decide) (by decide)⟩⟩
theorem pn_9 : plainName "candorpay/Command$Option" = true := by first | (simp [plainName, overriddenIn]; done) | decide +kernel
theorem d12_0 : decode prog_5_method_2_code 0 = .ok (.aload_n 0, 1) := by decide +kernel
theorem d12_1 : decode prog_5_method_2_code 1 = .ok (.invokespecial 1, 3) := by decide +kernel
theorem pd_25 : parseMethodDescriptor "()V" = some ⟨[], none⟩ := by decide +kernel
theorem d12_4 : decode prog_5_method_2_code 4 = .ok (.aload_n 0, 1) := by decide +kernel
theorem d12_5 : decode prog_5_method_2_code 5 = .ok (.aload_n 1, 1) := by decide +kernel
theorem d12_6 : decode prog_5_method_2_code 6 = .ok (.putfield 7, 3) := by decide +kernel
theorem d12_9 : decode prog_5_method_2_code 9 = .ok (.aload_n 0, 1) := by decide +kernel
theorem d12_10 : decode prog_5_method_2_code 10 = .ok (.aload_n 2, 1) := by decide +kernel
theorem d12_11 : decode prog_5_method_2_code 11 = .ok (.putfield 13, 3) := by decide +kernel
theorem d12_14 : decode prog_5_method_2_code 14 = .ok (.aload_n 0, 1) := by decide +kernel
theorem d12_15 : decode prog_5_method_2_code 15 = .ok (.aload_n 3, 1) := by decide +kernel
theorem d12_16 : decode prog_5_method_2_code 16 = .ok (.putfield 16, 3) := by decide +kernel
theorem d12_19 : decode prog_5_method_2_code 19 = .ok (.aload_n 0, 1) := by decide +kernel
theorem d12_20 : decode prog_5_method_2_code 20 = .ok (.iload 4, 2) := by decide +kernel
theorem d12_22 : decode prog_5_method_2_code 22 = .ok (.putfield 19, 3) := by decide +kernel
theorem d12_25 : decode prog_5_method_2_code 25 = .ok (.return_, 1) := by decide +kernel
theorem ef_op_init (m : MethodId) (x0 : Addr) (x1 : Addr) (x2 : Addr) (x3 : Addr) (x4 : Int32) : entryFrame m #[(.ref x0), (.ref x1), (.ref x2), (.ref x3), (.int x4)] 5 = mkF m 0 #[.val (.ref x0), .val (.ref x1), .val (.ref x2), .val (.ref x3), .val (.int x4)] [] := by first | (simp [entryFrame, mkF, argsToLocals, Value.category]; done) | rfl | (simp [entryFrame, mkF, argsToLocals, own_catI, own_catR, *]; done)
def Q_op_init (Z : State) (ca : Addr) (a1 : Addr) (a2 : Addr) (a3 : Addr) (z : Int32) (u1 : Value) (u2 : Value) (u3 : Value) (u4 : Value) (h0 : Heap) (n0 : Nat) (v : Option Value) (h : Heap) (L : List Loc) : Prop := v = none ∧ Fr n0 L ∧ Keep h0 h [ca] ∧ Exa Z h ca "candorpay/Command$Option" ∧ Fld Z h ca "candorpay/Command$Option" "name" "Ljava/lang/String;" (.ref a1) ∧ Fld Z h ca "candorpay/Command$Option" "value" "Ljava/lang/String;" (.ref a2)
set_option maxRecDepth 65536 in
set_option maxHeartbeats 40000000 in
theorem op_init (l : Launch) (Z : State) (a0 : Array Value) (hw : ∀ d ∈ tables_1, d.before a0 Z = true) (ws : List Jvm.Cond) (ca : Addr) (a1 : Addr) (a2 : Addr) (a3 : Addr) (z : Int32) (u1 : Value) (u2 : Value) (u3 : Value) (u4 : Value) (h0 : Heap) (n0 : Nat) (Z0 : n0 ≤ h0.size) (F0_ca : Exa Z h0 ca "candorpay/Command$Option") (F1_ca_name : Fld Z h0 ca "candorpay/Command$Option" "name" "Ljava/lang/String;" u1) (F2_ca_value : Fld Z h0 ca "candorpay/Command$Option" "value" "Ljava/lang/String;" u2) (F3_ca_summary : Fld Z h0 ca "candorpay/Command$Option" "summary" "Ljava/lang/String;" u3) (F4_ca_required : Fld Z h0 ca "candorpay/Command$Option" "required" "Z" u4) (hp0 : n0 ≤ ca) (hz1 : narrow .boolean (.int z) = .int z) (hz2 : fits .boolean (.int z) = true) :
    MetFree l (⟨"candorpay/Command$Option", "<init>", "(Ljava/lang/String;Ljava/lang/String;Ljava/lang/String;Z)V"⟩ : MethodName) (head1 (Jvm.Cond.code (⟨"candorpay/Command$Option", "<init>", "(Ljava/lang/String;Ljava/lang/String;Ljava/lang/String;Z)V"⟩ : MethodName) prog_5_method_2_code 5 none :: ws) ({ frames := 2, cells := 0, slots := 0, locals := 24 } : Room)) (fun a U => a = #[(.ref ca), (.ref a1), (.ref a2), (.ref a3), (.int z)] ∧ Z.Warmed39 U.vm ∧ U.heap = h0) (fun _ _ _ _ _ => True) (fun _ U o U' => ∃ v L, o = .returned v ∧ Q_op_init Z ca a1 a2 a3 z u1 u2 u3 u4 h0 n0 v U'.heap L ∧ FrameEnd U o U' L ({ frames := 2, cells := 0, slots := 0, locals := 24 } : Room).cells ({ frames := 2, cells := 0, slots := 0, locals := 24 } : Room).slots) := by
  refine MetFree.of_bodySF (plainFor_of_name pn_9) hisR ?_
  intro p e s m args below meth c s₁ Bd hml0 hP hK
  obtain ⟨rfl, hZ, hh⟩ := hP
  have hx := Bd.exec
  have hby := Bd.bytes
  have hml : c.maxLocals = 5 := hml0
  have hown : s.vm.findClass "candorpay/Command$Option" = some m.cls := findClass_of_methodNamed Bd.named
  have hnm := (name_of_methodNamed Bd.named Bd.method).1
  have X0 : Stand p l e ({ frames := 2, cells := 0, slots := 0, locals := 24 } : Room) s m #[(.ref ca), (.ref a1), (.ref a2), (.ref a3), (.int z)] below meth c s₁ [] 0 0 := Stand.of_body Bd
  have e0 : s₁.heap = h0 := by rw [← hh, Bd.state]; rfl
  have N0 := Fr.nil n0
  obtain ⟨G, hG⟩ : ∃ G : State → Prop, G = (fun U' => ∃ o, U'.status = .running ∧ Ended U' below o ∧ ∃ v L, o = .returned v ∧ Q_op_init Z ca a1 a2 a3 z u1 u2 u3 u4 h0 n0 v U'.heap L ∧ FrameEnd s o U' L ({ frames := 2, cells := 0, slots := 0, locals := 24 } : Room).cells ({ frames := 2, cells := 0, slots := 0, locals := 24 } : Room).slots) := ⟨_, rfl⟩
  suffices key : Gl p.tables e below s₁ (mkF m 0 #[.val (.ref ca), .val (.ref a1), .val (.ref a2), .val (.ref a3), .val (.int z)] []) G by
    obtain ⟨s₂, k1, k2⟩ := key
    rw [hG] at k2
    obtain ⟨o, k3, k4, k5⟩ := k2
    exact ⟨s₂, o, castTop (ef_op_init m ca a1 a2 a3 z) k1, k3, k4, k5⟩
  show Gl p.tables e below s₁ (mkF m 0 #[.val (.ref ca), .val (.ref a1), .val (.ref a2), .val (.ref a3), .val (.int z)] []) G
  refine Gl.via (fun _ k => XS.aloadN X0.here hx rfl (hb hby d12_0) rfl rfl k) ?_
  show Gl p.tables e below s₁ (mkF m 1 #[.val (.ref ca), .val (.ref a1), .val (.ref a2), .val (.ref a3), .val (.int z)] [(.ref ca)]) G
  obtain ⟨_, _, ⟨T1, L1, k1, n1⟩, -, X1, ⟨Lc1, hQ1, l1, y1, z1⟩, st1⟩ := X0.specialBack hx (y := (⟨"java/lang/Record", "<init>", "()V"⟩ : MethodName)) rfl hown (mvT hZ (hw _ (List.mem_of_getElem? (i := 57) rfl))) (mvT hZ (hw _ (List.mem_of_getElem? (i := 58) rfl))) (mvT hZ (hw _ (List.mem_of_getElem? (i := 61) rfl))) (by decide) (backOf (W := 0) (rec_init l Z a0 hw [] ca h0 n0 Z0 ) hZ (hw _ (List.mem_of_getElem? (i := 61) rfl)) (hw _ (List.mem_of_getElem? (i := 60) rfl)) (by decide) (by decide)) (g := (mkF m 1 #[.val (.ref ca), .val (.ref a1), .val (.ref a2), .val (.ref a3), .val (.int z)] [(.ref ca)])) rfl (by rw [hml]; rfl) (Steps.refl _) (a := ca) (argsL := []) (rest := []) (lenOf pd_25 rfl) rfl (by show 2 * 0 + _ ≤ _; exact Nat.le_of_eq rfl) (hb hby d12_1) (fun _ _ => ⟨rfl, e0, (by decide : 0 + 0 ≤ _), (by decide : 0 + 0 ≤ _)⟩)
  dsimp only [Pt.U, Pt.locs, Pt.cells, Pt.slots] at X1 l1 y1 z1 st1 hQ1
  subst l1 y1 z1
  obtain ⟨rfl, N1q, eh1⟩ := hQ1
  have N1_ := Fr.app N0 N1q
  refine Gl.via (fun _ k => st1.trans k) ?_
  show Gl p.tables e below T1 (mkF m 4 #[.val (.ref ca), .val (.ref a1), .val (.ref a2), .val (.ref a3), .val (.int z)] []) G
  refine Gl.via (fun _ k => XS.aloadN X1.here hx rfl (hb hby d12_4) rfl rfl k) ?_
  show Gl p.tables e below T1 (mkF m 5 #[.val (.ref ca), .val (.ref a1), .val (.ref a2), .val (.ref a3), .val (.int z)] [(.ref ca)]) G
  refine Gl.via (fun _ k => XS.aloadN X1.here hx rfl (hb hby d12_5) rfl rfl k) ?_
  show Gl p.tables e below T1 (mkF m 6 #[.val (.ref ca), .val (.ref a1), .val (.ref a2), .val (.ref a3), .val (.int z)] [(.ref a1), (.ref ca)]) G
  obtain ⟨T2, h2, X2, e2, W2, st2⟩ := putF X1 hx hZ hown (host := "") (Or.inl (hw _ (List.mem_of_getElem? (i := 63) rfl))) Via.refl eh1 F1_ca_name F0_ca (Or.inr ⟨(hw _ (List.mem_of_getElem? (i := 64) rfl)), rfl, hnm⟩) (hw _ (List.mem_of_getElem? (i := 52) rfl)) (ty := (.object "java/lang/String")) (by decide) rfl rfl (g := (mkF m 6 #[.val (.ref ca), .val (.ref a1), .val (.ref a2), .val (.ref a3), .val (.int z)] [(.ref a1), (.ref ca)])) rfl rfl (hb hby d12_6)
  refine Gl.via st2 ?_
  have N2_ := Fr.snoc X2 N1_ hp0
  have Z3 : n0 ≤ h2.size := Nat.le_trans Z0 (Keep.of_wr W2).1
  have Y4 : h0.size ≤ h2.size := Nat.le_trans (Nat.le_refl h0.size) (Keep.of_wr W2).1
  show Gl p.tables e below T2 (mkF m 9 #[.val (.ref ca), .val (.ref a1), .val (.ref a2), .val (.ref a3), .val (.int z)] []) G
  refine Gl.via (fun _ k => XS.aloadN X2.here hx rfl (hb hby d12_9) rfl rfl k) ?_
  show Gl p.tables e below T2 (mkF m 10 #[.val (.ref ca), .val (.ref a1), .val (.ref a2), .val (.ref a3), .val (.int z)] [(.ref ca)]) G
  refine Gl.via (fun _ k => XS.aloadN X2.here hx rfl (hb hby d12_10) rfl rfl k) ?_
  show Gl p.tables e below T2 (mkF m 11 #[.val (.ref ca), .val (.ref a1), .val (.ref a2), .val (.ref a3), .val (.int z)] [(.ref a2), (.ref ca)]) G
  have G5 : Fld Z h2 ca "candorpay/Command$Option" "value" "Ljava/lang/String;" u2 := (F2_ca_value.other W2 (Or.inr (slot_ne (Or.inr (hw _ (List.mem_of_getElem? (i := 66) rfl))) (Or.inr (hw _ (List.mem_of_getElem? (i := 64) rfl))) (by decide) (t := (.object "java/lang/String")) (t' := (.object "java/lang/String")) (by decide) (by decide))))
  have G6 : Exa Z h2 ca "candorpay/Command$Option" := (F0_ca.wr W2)
  obtain ⟨T7, h7, X7, e7, W7, st7⟩ := putF X2 hx hZ hown (host := "") (Or.inl (hw _ (List.mem_of_getElem? (i := 65) rfl))) Via.refl e2 G5 G6 (Or.inr ⟨(hw _ (List.mem_of_getElem? (i := 66) rfl)), rfl, hnm⟩) (hw _ (List.mem_of_getElem? (i := 52) rfl)) (ty := (.object "java/lang/String")) (by decide) rfl rfl (g := (mkF m 11 #[.val (.ref ca), .val (.ref a1), .val (.ref a2), .val (.ref a3), .val (.int z)] [(.ref a2), (.ref ca)])) rfl rfl (hb hby d12_11)
  refine Gl.via st7 ?_
  have N7_ := Fr.snoc X7 N2_ hp0
  have Z8 : n0 ≤ h7.size := Nat.le_trans Z3 (Keep.of_wr W7).1
  have Y9 : h0.size ≤ h7.size := Nat.le_trans Y4 (Keep.of_wr W7).1
  show Gl p.tables e below T7 (mkF m 14 #[.val (.ref ca), .val (.ref a1), .val (.ref a2), .val (.ref a3), .val (.int z)] []) G
  refine Gl.via (fun _ k => XS.aloadN X7.here hx rfl (hb hby d12_14) rfl rfl k) ?_
  show Gl p.tables e below T7 (mkF m 15 #[.val (.ref ca), .val (.ref a1), .val (.ref a2), .val (.ref a3), .val (.int z)] [(.ref ca)]) G
  refine Gl.via (fun _ k => XS.aloadN X7.here hx rfl (hb hby d12_15) rfl rfl k) ?_
  show Gl p.tables e below T7 (mkF m 16 #[.val (.ref ca), .val (.ref a1), .val (.ref a2), .val (.ref a3), .val (.int z)] [(.ref a3), (.ref ca)]) G
  have G10 : Fld Z h7 ca "candorpay/Command$Option" "summary" "Ljava/lang/String;" u3 := ((F3_ca_summary.other W2 (Or.inr (slot_ne (Or.inr (hw _ (List.mem_of_getElem? (i := 68) rfl))) (Or.inr (hw _ (List.mem_of_getElem? (i := 64) rfl))) (by decide) (t := (.object "java/lang/String")) (t' := (.object "java/lang/String")) (by decide) (by decide)))).other W7 (Or.inr (slot_ne (Or.inr (hw _ (List.mem_of_getElem? (i := 68) rfl))) (Or.inr (hw _ (List.mem_of_getElem? (i := 66) rfl))) (by decide) (t := (.object "java/lang/String")) (t' := (.object "java/lang/String")) (by decide) (by decide))))
  have G11 : Exa Z h7 ca "candorpay/Command$Option" := (G6.wr W7)
  obtain ⟨T12, h12, X12, e12, W12, st12⟩ := putF X7 hx hZ hown (host := "") (Or.inl (hw _ (List.mem_of_getElem? (i := 67) rfl))) Via.refl e7 G10 G11 (Or.inr ⟨(hw _ (List.mem_of_getElem? (i := 68) rfl)), rfl, hnm⟩) (hw _ (List.mem_of_getElem? (i := 52) rfl)) (ty := (.object "java/lang/String")) (by decide) rfl rfl (g := (mkF m 16 #[.val (.ref ca), .val (.ref a1), .val (.ref a2), .val (.ref a3), .val (.int z)] [(.ref a3), (.ref ca)])) rfl rfl (hb hby d12_16)
  refine Gl.via st12 ?_
  have N12_ := Fr.snoc X12 N7_ hp0
  have Z13 : n0 ≤ h12.size := Nat.le_trans Z8 (Keep.of_wr W12).1
  have Y14 : h0.size ≤ h12.size := Nat.le_trans Y9 (Keep.of_wr W12).1
  show Gl p.tables e below T12 (mkF m 19 #[.val (.ref ca), .val (.ref a1), .val (.ref a2), .val (.ref a3), .val (.int z)] []) G
  refine Gl.via (fun _ k => XS.aloadN X12.here hx rfl (hb hby d12_19) rfl rfl k) ?_
  show Gl p.tables e below T12 (mkF m 20 #[.val (.ref ca), .val (.ref a1), .val (.ref a2), .val (.ref a3), .val (.int z)] [(.ref ca)]) G
  refine Gl.via (fun _ k => XS.iload X12.here hx rfl (hb hby d12_20) rfl k) ?_
  show Gl p.tables e below T12 (mkF m 22 #[.val (.ref ca), .val (.ref a1), .val (.ref a2), .val (.ref a3), .val (.int z)] [(.int z), (.ref ca)]) G
  have G15 : Fld Z h12 ca "candorpay/Command$Option" "required" "Z" u4 := (((F4_ca_required.other W2 (Or.inr (slot_ne (Or.inr (hw _ (List.mem_of_getElem? (i := 70) rfl))) (Or.inr (hw _ (List.mem_of_getElem? (i := 64) rfl))) (by decide) (t := .boolean) (t' := (.object "java/lang/String")) (by decide) (by decide)))).other W7 (Or.inr (slot_ne (Or.inr (hw _ (List.mem_of_getElem? (i := 70) rfl))) (Or.inr (hw _ (List.mem_of_getElem? (i := 66) rfl))) (by decide) (t := .boolean) (t' := (.object "java/lang/String")) (by decide) (by decide)))).other W12 (Or.inr (slot_ne (Or.inr (hw _ (List.mem_of_getElem? (i := 70) rfl))) (Or.inr (hw _ (List.mem_of_getElem? (i := 68) rfl))) (by decide) (t := .boolean) (t' := (.object "java/lang/String")) (by decide) (by decide))))
  have G16 : Exa Z h12 ca "candorpay/Command$Option" := (G11.wr W12)
  obtain ⟨T17, h17, X17, e17, W17, st17⟩ := putFN X12 hx hZ hown (hw _ (List.mem_of_getElem? (i := 69) rfl)) Via.refl e12 G15 G16 (Or.inr ⟨(hw _ (List.mem_of_getElem? (i := 70) rfl)), rfl, hnm⟩) (hw _ (List.mem_of_getElem? (i := 52) rfl)) (ty := .boolean) (v' := (.int z)) (by decide) hz1 hz2 (g := (mkF m 22 #[.val (.ref ca), .val (.ref a1), .val (.ref a2), .val (.ref a3), .val (.int z)] [(.int z), (.ref ca)])) rfl rfl (hb hby d12_22)
  refine Gl.via st17 ?_
  have N17_ := Fr.snoc X17 N12_ hp0
  have Z18 : n0 ≤ h17.size := Nat.le_trans Z13 (Keep.of_wr W17).1
  have Y19 : h0.size ≤ h17.size := Nat.le_trans Y14 (Keep.of_wr W17).1
  show Gl p.tables e below T17 (mkF m 25 #[.val (.ref ca), .val (.ref a1), .val (.ref a2), .val (.ref a3), .val (.int z)] []) G
  obtain ⟨fs, hr, hrun, hended, hW, hsame⟩ := X17.leave (v := none) (fun _ => rfl)
  have G20 : Exa Z h17 ca "candorpay/Command$Option" := (G16.wr W17)
  have G21 : Fld Z h17 ca "candorpay/Command$Option" "name" "Ljava/lang/String;" (.ref a1) := ((((Fld.same W2 F1_ca_name).other W7 (Or.inr (slot_ne (Or.inr (hw _ (List.mem_of_getElem? (i := 64) rfl))) (Or.inr (hw _ (List.mem_of_getElem? (i := 66) rfl))) (by decide) (t := (.object "java/lang/String")) (t' := (.object "java/lang/String")) (by decide) (by decide)))).other W12 (Or.inr (slot_ne (Or.inr (hw _ (List.mem_of_getElem? (i := 64) rfl))) (Or.inr (hw _ (List.mem_of_getElem? (i := 68) rfl))) (by decide) (t := (.object "java/lang/String")) (t' := (.object "java/lang/String")) (by decide) (by decide)))).other W17 (Or.inr (slot_ne (Or.inr (hw _ (List.mem_of_getElem? (i := 64) rfl))) (Or.inr (hw _ (List.mem_of_getElem? (i := 70) rfl))) (by decide) (t := (.object "java/lang/String")) (t' := .boolean) (by decide) (by decide))))
  have G22 : Fld Z h17 ca "candorpay/Command$Option" "value" "Ljava/lang/String;" (.ref a2) := (((Fld.same W7 G5).other W12 (Or.inr (slot_ne (Or.inr (hw _ (List.mem_of_getElem? (i := 66) rfl))) (Or.inr (hw _ (List.mem_of_getElem? (i := 68) rfl))) (by decide) (t := (.object "java/lang/String")) (t' := (.object "java/lang/String")) (by decide) (by decide)))).other W17 (Or.inr (slot_ne (Or.inr (hw _ (List.mem_of_getElem? (i := 66) rfl))) (Or.inr (hw _ (List.mem_of_getElem? (i := 70) rfl))) (by decide) (t := (.object "java/lang/String")) (t' := .boolean) (by decide) (by decide))))
  have hq : ∀ L, Fr n0 L → Q_op_init Z ca a1 a2 a3 z u1 u2 u3 u4 h0 n0 (none) T17.heap L := by
    intro L hN
    rw [e17]
    exact ⟨rfl, hN, (((((Keep.refl h0 [ca]).wr W2 (Or.inl (List.mem_of_getElem? (i := 0) rfl))).wr W7 (Or.inl (List.mem_of_getElem? (i := 0) rfl))).wr W12 (Or.inl (List.mem_of_getElem? (i := 0) rfl))).wr W17 (Or.inl (List.mem_of_getElem? (i := 0) rfl))), G20, G21, G22⟩
  rw [hG]
  exact Gl.fin (X17.returnOut hx Bd.returns (hb hby d12_25) hr) ⟨_, hrun, hended, _, _, rfl, hq _ N17_, ⟨_, rfl⟩, hW, hsame.mono (by decide) (by decide)⟩
theorem d14_0 : decode prog_5_method_3_code 0 = .ok (.new 26, 3) := by decide +kernel
theorem d14_3 : decode prog_5_method_3_code 3 = .ok (.dup, 1) := by decide +kernel
theorem d14_4 : decode prog_5_method_3_code 4 = .ok (.invokespecial 28, 3) := by decide +kernel
theorem d14_7 : decode prog_5_method_3_code 7 = .ok (.aload_n 0, 1) := by decide +kernel
theorem d14_8 : decode prog_5_method_3_code 8 = .ok (.getfield 7, 3) := by decide +kernel
theorem d14_11 : decode prog_5_method_3_code 11 = .ok (.invokevirtual 29, 3) := by decide +kernel
theorem pd_26 : parseMethodDescriptor "(Ljava/lang/String;)Ljava/lang/StringBuilder;" = some ⟨[(.object "java/lang/String")], some (.object "java/lang/StringBuilder")⟩ := by decide +kernel
theorem d14_14 : decode prog_5_method_3_code 14 = .ok (.ldc 33, 2) := by decide +kernel
theorem d14_16 : decode prog_5_method_3_code 16 = .ok (.invokevirtual 29, 3) := by decide +kernel
theorem d14_19 : decode prog_5_method_3_code 19 = .ok (.aload_n 0, 1) := by decide +kernel
theorem d14_20 : decode prog_5_method_3_code 20 = .ok (.getfield 13, 3) := by decide +kernel
theorem d14_23 : decode prog_5_method_3_code 23 = .ok (.invokevirtual 29, 3) := by decide +kernel
theorem d14_26 : decode prog_5_method_3_code 26 = .ok (.invokevirtual 35, 3) := by decide +kernel
theorem pd_27 : parseMethodDescriptor "()Ljava/lang/String;" = some ⟨[], some (.object "java/lang/String")⟩ := by decide +kernel
theorem d14_29 : decode prog_5_method_3_code 29 = .ok (.areturn, 1) := by decide +kernel
theorem ef_syn (m : MethodId) (x0 : Addr) : entryFrame m #[(.ref x0)] 1 = mkF m 0 #[.val (.ref x0)] [] := by first | (simp [entryFrame, mkF, argsToLocals, Value.category]; done) | rfl | (simp [entryFrame, mkF, argsToLocals, own_catI, own_catR, *]; done)
def Q_syn (Z : State) (ca : Addr) (sa : Addr) (sb : Addr) (sk : ClassId) (scs : List Int32) (ta : Addr) (tb_ : Addr) (tk : ClassId) (tcs : List Int32) (cps : Int32) (h0 : Heap) (n0 : Nat) (v : Option Value) (h : Heap) (L : List Loc) : Prop := ∃ (ra : Addr), ∃ (rb : Addr), ∃ (rk : ClassId), v = some (.ref ra) ∧ Fr n0 L ∧ Keep h0 h [] ∧ Exa Z h ra "java/lang/String" ∧ Fld Z h ra "java/lang/String" "coder" "B" (.int (0 : Int32)) ∧ Fld Z h ra "java/lang/String" "value" "[B" (.ref rb) ∧ Arv Z h rb rk .byte (own_ln (((([] : List Int32) ++ scs) ++ [(32 : Int32)]) ++ tcs)) ((((([] : List Int32) ++ scs) ++ [(32 : Int32)]) ++ tcs).map Value.int) (.int (0 : Int32)) ∧ (h0.size ≤ ra)
set_option maxRecDepth 65536 in
set_option maxHeartbeats 40000000 in
theorem syn (l : Launch) (Z : State) (a0 : Array Value) (hw : ∀ d ∈ tables_1, d.before a0 Z = true) (ws : List Jvm.Cond) (ca : Addr) (sa : Addr) (sb : Addr) (sk : ClassId) (scs : List Int32) (ta : Addr) (tb_ : Addr) (tk : ClassId) (tcs : List Int32) (cps : Int32) (h0 : Heap) (n0 : Nat) (Z0 : n0 ≤ h0.size) (F0_ca_name : Fld Z h0 ca "candorpay/Command$Option" "name" "Ljava/lang/String;" (.ref sa)) (F1_ca_value : Fld Z h0 ca "candorpay/Command$Option" "value" "Ljava/lang/String;" (.ref ta)) (F2_sa : Exa Z h0 sa "java/lang/String") (F3_sa_coder : Fld Z h0 sa "java/lang/String" "coder" "B" (.int (0 : Int32))) (F4_sa_value : Fld Z h0 sa "java/lang/String" "value" "[B" (.ref sb)) (F5_sb : Arv Z h0 sb sk .byte (own_ln scs) (scs.map Value.int) (.int (0 : Int32))) (F6_ta : Exa Z h0 ta "java/lang/String") (F7_ta_coder : Fld Z h0 ta "java/lang/String" "coder" "B" (.int (0 : Int32))) (F8_ta_value : Fld Z h0 ta "java/lang/String" "value" "[B" (.ref tb_)) (F9_tb_ : Arv Z h0 tb_ tk .byte (own_ln tcs) (tcs.map Value.int) (.int (0 : Int32))) (F10_java_lang_String : Sta Z Z.heap "java/lang/String" "COMPACT_STRINGS" "Z" (.int cps)) (F11_ : Old Z n0 h0) (hcps : ¬ (cps = (0 : Int32))) (hs1 : scs.length ≤ 3) (hs2 : tcs.length ≤ 3) :
    MetFree l (⟨"candorpay/Command$Option", "synopsis", "()Ljava/lang/String;"⟩ : MethodName) (head1 (Jvm.Cond.code (⟨"candorpay/Command$Option", "synopsis", "()Ljava/lang/String;"⟩ : MethodName) prog_5_method_3_code 1 (some (.object "java/lang/String")) :: ws) ({ frames := 6, cells := 6, slots := 48, locals := 113 } : Room)) (fun a U => a = #[(.ref ca)] ∧ Z.Warmed39 U.vm ∧ U.heap = h0 ∧ CHv Z own_EL U.vm h0 ∧ ∀ x ∈ ([] : List Addr), Safe Z own_EL U.vm h0 x) (fun _ _ _ _ _ => True) (fun _ U o U' => ∃ v L, o = .returned v ∧ Q_syn Z ca sa sb sk scs ta tb_ tk tcs cps h0 n0 v U'.heap L ∧ CHr Z own_EL U.vm U.heap U'.vm U'.heap ∧ ReturnedEndW U o U' L ({ frames := 6, cells := 6, slots := 48, locals := 113 } : Room).cells ({ frames := 6, cells := 6, slots := 48, locals := 113 } : Room).slots) := by
  refine MetFree.of_bodySF (plainFor_of_name pn_9) hisR ?_
  intro p e s m args below meth c s₁ Bd hml0 hP hK
  obtain ⟨rfl, hZ, hh, hCH, hSF⟩ := hP
  have hx := Bd.exec
  have hby := Bd.bytes
  have hml : c.maxLocals = 1 := hml0
  have hown : s.vm.findClass "candorpay/Command$Option" = some m.cls := findClass_of_methodNamed Bd.named
  have hnm := (name_of_methodNamed Bd.named Bd.method).1
  have X0 : Stand p l e ({ frames := 6, cells := 6, slots := 48, locals := 113 } : Room) (s.setVm s.vm) m #[(.ref ca)] below meth c s₁ [] 0 0 := Stand.of_body Bd
  have e0 : s₁.heap = h0 := by rw [← hh, Bd.state]; rfl
  have N0 := Fr.nil n0
  have hS0 : s.Since s.vm 0 := (State.WarmedH.refl s).since 0
  have hk0 : 0 ≤ h0.size := Nat.zero_le _
  have hEL := own_ew hw
  have CR0 : CHr Z own_EL s.vm h0 s.vm h0 := CHr.refl hCH
  obtain ⟨G, hG⟩ : ∃ G : State → Prop, G = (fun U' => ∃ o, U'.status = .running ∧ Ended U' below o ∧ ∃ v L, o = .returned v ∧ Q_syn Z ca sa sb sk scs ta tb_ tk tcs cps h0 n0 v U'.heap L ∧ CHr Z own_EL s.vm s.heap U'.vm U'.heap ∧ ReturnedEndW s o U' L ({ frames := 6, cells := 6, slots := 48, locals := 113 } : Room).cells ({ frames := 6, cells := 6, slots := 48, locals := 113 } : Room).slots) := ⟨_, rfl⟩
  suffices key : Gl p.tables e below s₁ (mkF m 0 #[.val (.ref ca)] []) G by
    obtain ⟨s₂, k1, k2⟩ := key
    rw [hG] at k2
    obtain ⟨o, k3, k4, k5⟩ := k2
    exact ⟨s₂, o, castTop (ef_syn m ca) k1, k3, k4, k5⟩
  show Gl p.tables e below s₁ (mkF m 0 #[.val (.ref ca)] []) G
  obtain ⟨T1, h1, X1, e1, E1, A1, D1, -, st1⟩ := newO X0 hx hZ hown (hw _ (List.mem_of_getElem? (i := 76) rfl)) (hw _ (List.mem_of_getElem? (i := 77) rfl)) (hw _ (List.mem_of_getElem? (i := 78) rfl)) e0 (g := (mkF m 0 #[.val (.ref ca)] [])) rfl (hb hby d14_0) (by decide) (by decide)
  obtain ⟨b1, g1⟩ : ∃ z, z = h0.size := ⟨_, rfl⟩
  rw [← g1] at A1 D1 st1
  have ne2 : ca ≠ b1 := Nat.ne_of_lt (Nat.lt_of_lt_of_le F0_ca_name.lt (Nat.le_of_eq g1.symm))
  have ne3 : sa ≠ b1 := Nat.ne_of_lt (Nat.lt_of_lt_of_le F2_sa.lt (Nat.le_of_eq g1.symm))
  have ne4 : sb ≠ b1 := Nat.ne_of_lt (Nat.lt_of_lt_of_le F5_sb.lt (Nat.le_of_eq g1.symm))
  have ne5 : ta ≠ b1 := Nat.ne_of_lt (Nat.lt_of_lt_of_le F6_ta.lt (Nat.le_of_eq g1.symm))
  have ne6 : tb_ ≠ b1 := Nat.ne_of_lt (Nat.lt_of_lt_of_le F9_tb_.lt (Nat.le_of_eq g1.symm))
  have ge7 : n0 ≤ b1 := Nat.le_trans Z0 (Nat.le_of_eq g1.symm)
  have gz8 : h0.size ≤ b1 := Nat.le_trans (Nat.le_refl h0.size) (Nat.le_of_eq g1.symm)
  have CR9 : CHr Z own_EL s.vm h0 s.vm h1 := CHr.trans CR0 (CHr.ext E1 CR0.1)
  have SF10 : Safe Z own_EL s.vm h1 b1 := Safe.ext E1 CR0.1 (Safe.new (Nat.le_of_eq g1.symm))
  refine Gl.via st1 ?_
  have Z11 : n0 ≤ h1.size := Nat.le_trans Z0 E1.1
  have Y12 : h0.size ≤ h1.size := Nat.le_trans (Nat.le_refl h0.size) E1.1
  have hl13 := Nat.le_trans hk0 E1.1
  have F14 : Fld Z h1 b1 "java/lang/AbstractStringBuilder" "value" "[B" .null := D1 (Or.inl (hw _ (List.mem_of_getElem? (i := 91) rfl))) (ty := (.array .byte)) (by decide)
  have F15 : Fld Z h1 b1 "java/lang/AbstractStringBuilder" "coder" "B" (.int (0 : Int32)) := D1 (Or.inl (hw _ (List.mem_of_getElem? (i := 93) rfl))) (ty := .byte) (by decide)
  have F16 : Fld Z h1 b1 "java/lang/AbstractStringBuilder" "count" "I" (.int (0 : Int32)) := D1 (Or.inl (hw _ (List.mem_of_getElem? (i := 115) rfl))) (ty := .int) (by decide)
  show Gl p.tables e below T1 (mkF m 3 #[.val (.ref ca)] [(.ref b1)]) G
  refine Gl.via (fun _ k => XS.dup X1.here hx rfl (hb hby d14_3) rfl rfl k) ?_
  show Gl p.tables e below T1 (mkF m 4 #[.val (.ref ca)] [(.ref b1), (.ref b1)]) G
  have G18 : Old Z n0 h1 := (F11_.ext E1)
  obtain ⟨_, _, ⟨T17, L17, k17, n17⟩, -, X17, ⟨Lc17, hQ17, l17, y17, z17⟩, st17⟩ := X1.specialBack hx (y := (⟨"java/lang/StringBuilder", "<init>", "()V"⟩ : MethodName)) rfl hown (mvT hZ (hw _ (List.mem_of_getElem? (i := 79) rfl))) (mvT hZ (hw _ (List.mem_of_getElem? (i := 80) rfl))) (mvT hZ (hw _ (List.mem_of_getElem? (i := 81) rfl))) (by decide) (backOf (W := 1) (sb_init l Z a0 hw [] b1 .null (.int (0 : Int32)) cps h1 n0 Z11 A1 F14 F15 F16 F10_java_lang_String G18 ge7 hcps) hZ (hw _ (List.mem_of_getElem? (i := 81) rfl)) (hw _ (List.mem_of_getElem? (i := 78) rfl)) (by decide) (by decide)) (g := (mkF m 4 #[.val (.ref ca)] [(.ref b1), (.ref b1)])) rfl (by rw [hml]; rfl) (Steps.refl _) (a := b1) (argsL := []) (rest := [(.ref b1)]) (lenOf pd_25 rfl) rfl (by show 2 * 0 + _ ≤ _; exact Nat.le_of_eq rfl) (hb hby d14_4) (fun _ _ => ⟨rfl, e1, (by decide : 1 + 1 ≤ _), (by decide : 4 + 16 ≤ _)⟩)
  dsimp only [Pt.U, Pt.locs, Pt.cells, Pt.slots] at X17 l17 y17 z17 st17 hQ17
  subst l17 y17 z17
  obtain ⟨bv_17, bk_17, rfl, N17q, K17, P19, P20, P21, P22, P23, R24⟩ := hQ17
  have N17_ := Fr.app N0 N17q
  refine Gl.via (fun _ k => st17.trans k) ?_
  have G25 : Fld Z h1 ca "candorpay/Command$Option" "name" "Ljava/lang/String;" (.ref sa) := (F0_ca_name.ext E1)
  have ne26 : ca ≠ bv_17 := Nat.ne_of_lt (Nat.lt_of_lt_of_le G25.lt R24)
  have G27 : Exa Z h1 sa "java/lang/String" := (F2_sa.ext E1)
  have ne28 : sa ≠ bv_17 := Nat.ne_of_lt (Nat.lt_of_lt_of_le G27.lt R24)
  have G29 : Arv Z h1 sb sk .byte (own_ln scs) (scs.map Value.int) (.int (0 : Int32)) := (F5_sb.ext E1)
  have ne30 : sb ≠ bv_17 := Nat.ne_of_lt (Nat.lt_of_lt_of_le G29.lt R24)
  have G31 : Exa Z h1 ta "java/lang/String" := (F6_ta.ext E1)
  have ne32 : ta ≠ bv_17 := Nat.ne_of_lt (Nat.lt_of_lt_of_le G31.lt R24)
  have G33 : Arv Z h1 tb_ tk .byte (own_ln tcs) (tcs.map Value.int) (.int (0 : Int32)) := (F9_tb_.ext E1)
  have ne34 : tb_ ≠ bv_17 := Nat.ne_of_lt (Nat.lt_of_lt_of_le G33.lt R24)
  have ne35 : b1 ≠ bv_17 := Nat.ne_of_lt (Nat.lt_of_lt_of_le A1.lt R24)
  have ge36 : n0 ≤ bv_17 := Nat.le_trans Z11 R24
  have gz37 : h0.size ≤ bv_17 := Nat.le_trans Y12 R24
  have CR38 : CHr Z own_EL s.vm h0 s.vm T17.heap := CHr.trans CR9 (CHr.keep K17 (sfS SF10 sf0) CR9.1)
  have SF39 : Safe Z own_EL s.vm T17.heap b1 := Safe.keep K17 (sfS SF10 sf0) CR9.1 SF10
  have SF40 : Safe Z own_EL s.vm T17.heap bv_17 := Safe.keep K17 (sfS SF10 sf0) CR9.1 (Safe.new R24)
  have Z41 : n0 ≤ T17.heap.size := Nat.le_trans Z11 K17.1
  have Y42 : h0.size ≤ T17.heap.size := Nat.le_trans Y12 K17.1
  have hl43 := Nat.le_trans hl13 K17.1
  show Gl p.tables e below T17 (mkF m 7 #[.val (.ref ca)] [(.ref b1)]) G
  refine Gl.via (fun _ k => XS.aloadN X17.here hx rfl (hb hby d14_7) rfl rfl k) ?_
  show Gl p.tables e below T17 (mkF m 8 #[.val (.ref ca)] [(.ref ca), (.ref b1)]) G
  have G44 : Fld Z T17.heap ca "candorpay/Command$Option" "name" "Ljava/lang/String;" (.ref sa) := (G25.keep K17 (ninS ne2 nin0))
  obtain ⟨T45, X45, e45, st45⟩ := getF X17 hx hZ hown (host := "") (Or.inl (hw _ (List.mem_of_getElem? (i := 63) rfl))) Via.refl rfl G44 (g := (mkF m 8 #[.val (.ref ca)] [(.ref ca), (.ref b1)])) rfl rfl (hb hby d14_8)
  refine Gl.via st45 ?_
  show Gl p.tables e below T45 (mkF m 11 #[.val (.ref ca)] [(.ref sa), (.ref b1)]) G
  have G47 : Exa Z T17.heap sa "java/lang/String" := (G27.keep K17)
  have G48 : Fld Z T17.heap sa "java/lang/String" "coder" "B" (.int (0 : Int32)) := ((F3_sa_coder.ext E1).keep K17 (ninS ne3 nin0))
  have G49 : Fld Z T17.heap sa "java/lang/String" "value" "[B" (.ref sb) := ((F4_sa_value.ext E1).keep K17 (ninS ne3 nin0))
  have G50 : Arv Z T17.heap sb sk .byte (own_ln scs) (scs.map Value.int) (.int (0 : Int32)) := (G29.keep K17 (ninS ne4 nin0))
  have G51 : Old Z n0 T17.heap := (G18.keep K17 (allS ge7 all0))
  obtain ⟨cq46, kq46, q46a, q46b, q46c⟩ := isOf hZ e45 P19
  obtain ⟨_, _, ⟨T46, L46, k46, n46⟩, -, X46, ⟨Lc46, hQ46, l46, y46, z46⟩, st46⟩ := X45.virtualBack hx (y := (⟨"java/lang/StringBuilder", "append", "(Ljava/lang/String;)Ljava/lang/StringBuilder;"⟩ : MethodName)) (z := (⟨"java/lang/StringBuilder", "append", "(Ljava/lang/String;)Ljava/lang/StringBuilder;"⟩ : MethodName)) hown (mvT hZ (hw _ (List.mem_of_getElem? (i := 94) rfl))) (mvT hZ (hw _ (List.mem_of_getElem? (i := 95) rfl))) (notFace_of_selects (args := #[]) (mvT hZ (hw _ (List.mem_of_getElem? (i := 97) rfl)))) (mvT hZ (hw _ (List.mem_of_getElem? (i := 97) rfl))) (mvT hZ (hw _ (List.mem_of_getElem? (i := 96) rfl))) (by decide) (backOf (W := 0) (sb_app l Z a0 hw [] b1 bv_17 bk_17 ([] : List Int32) sa sb sk scs cps T17.heap n0 Z41 P19 P20 P21 P22 P23 G47 G48 G49 G50 F10_java_lang_String G51 hcps (show 0 + scs.length ≤ 16 by omega) ne30 ge36 ge7 ne35 (Ne.symm ne4) (Ne.symm ne3)) hZ (hw _ (List.mem_of_getElem? (i := 98) rfl)) (hw _ (List.mem_of_getElem? (i := 78) rfl)) (by decide) (by decide)) q46a q46c (g := (mkF m 11 #[.val (.ref ca)] [(.ref sa), (.ref b1)])) rfl (by rw [hml]; rfl) (Steps.refl _) (argsL := [(.ref sa)]) (rest := []) (lenOf pd_26 rfl) rfl (by show 2 * 0 + _ ≤ _; exact Nat.le_of_eq rfl) (hb hby d14_11) (fun _ _ => ⟨rfl, e45, (by decide : 2 + 0 ≤ _), (by decide : 20 + 0 ≤ _)⟩)
  dsimp only [Pt.U, Pt.locs, Pt.cells, Pt.slots] at X46 l46 y46 z46 st46 hQ46
  subst l46 y46 z46
  obtain ⟨rfl, N46q, K46, P52, P53, P54, P55, P56⟩ := hQ46
  have N46_ := Fr.app N17_ N46q
  refine Gl.via (fun _ k => st46.trans k) ?_
  have CR57 : CHr Z own_EL s.vm h0 s.vm T46.heap := CHr.trans CR38 (CHr.keep K46 (sfS SF39 (sfS SF40 sf0)) CR38.1)
  have SF58 : Safe Z own_EL s.vm T46.heap b1 := Safe.keep K46 (sfS SF39 (sfS SF40 sf0)) CR38.1 SF39
  have SF59 : Safe Z own_EL s.vm T46.heap bv_17 := Safe.keep K46 (sfS SF39 (sfS SF40 sf0)) CR38.1 SF40
  have Z60 : n0 ≤ T46.heap.size := Nat.le_trans Z41 K46.1
  have Y61 : h0.size ≤ T46.heap.size := Nat.le_trans Y42 K46.1
  have hl62 := Nat.le_trans hl43 K46.1
  show Gl p.tables e below T46 (mkF m 14 #[.val (.ref ca)] [(.ref b1)]) G
  obtain ⟨a63, T63, h63, k63, b63, c63, X63, e63, E63, hS63, hk63, hZ63, hown63, P63a, P63c, P63v, P63r, la63, lb63, hC63, -, hsf63, st63⟩ := ldcCH X46 hx hZ hown (hw _ (List.mem_of_getElem? (i := 141) rfl)) (own_wS hw) rfl hS0 hl62 hEL (by decide) CR57.1 (vs := [(.int (32 : Int32))]) (z := (1 : Int32)) ⟨by decide, rfl⟩ (by decide) rfl (g := (mkF m 14 #[.val (.ref ca)] [(.ref b1)])) rfl (hb hby d14_14) (n := 4) (by decide) (by decide) (by decide) (by decide)
  have CR64 : CHr Z own_EL s.vm h0 T63.vm h63 := CHr.trans CR57 hC63
  have SF65 : Safe Z own_EL T63.vm h63 b1 := hC63.safe (by have q := P52.lt; exact q) SF58
  have SF66 : Safe Z own_EL T63.vm h63 bv_17 := hC63.safe (by have q := P56.lt; exact q) SF59
  refine Gl.via st63 ?_
  have Z67 : n0 ≤ h63.size := Nat.le_trans Z60 E63.1
  have Y68 : h0.size ≤ h63.size := Nat.le_trans Y61 E63.1
  have hl69 := Nat.le_trans hl62 E63.1
  have ne70 : b1 ≠ a63 ∧ b1 ≠ b63 := hsf63 b1 SF65
  have ne71 : bv_17 ≠ a63 ∧ bv_17 ≠ b63 := hsf63 bv_17 SF66
  show Gl p.tables e below T63 (mkF m 16 #[.val (.ref ca)] [(.ref a63), (.ref b1)]) G
  have G73 : Exa Z h63 b1 "java/lang/StringBuilder" := (P52.ext E63)
  have G74 : Fld Z h63 b1 "java/lang/AbstractStringBuilder" "value" "[B" (.ref bv_17) := (P53.ext E63)
  have G75 : Fld Z h63 b1 "java/lang/AbstractStringBuilder" "coder" "B" (.int (0 : Int32)) := (P54.ext E63)
  have G76 : Fld Z h63 b1 "java/lang/AbstractStringBuilder" "count" "I" (.int (own_ln (([] : List Int32) ++ scs))) := (P55.ext E63)
  have G77 : Arv Z h63 bv_17 bk_17 .byte (16 : Int32) ((([] : List Int32) ++ scs).map Value.int) (.int (0 : Int32)) := (P56.ext E63)
  have G78 : Old Z n0 h63 := ((G51.keep K46 (allS ge7 (allS ge36 all0))).ext E63)
  obtain ⟨cq72, kq72, q72a, q72b, q72c⟩ := isOf hZ63 e63 G73
  obtain ⟨_, _, ⟨T72, L72, k72, n72⟩, -, X72, ⟨Lc72, hQ72, l72, y72, z72⟩, st72⟩ := X63.virtualBack hx (y := (⟨"java/lang/StringBuilder", "append", "(Ljava/lang/String;)Ljava/lang/StringBuilder;"⟩ : MethodName)) (z := (⟨"java/lang/StringBuilder", "append", "(Ljava/lang/String;)Ljava/lang/StringBuilder;"⟩ : MethodName)) hown63 (mvT hZ63 (hw _ (List.mem_of_getElem? (i := 94) rfl))) (mvT hZ63 (hw _ (List.mem_of_getElem? (i := 95) rfl))) (notFace_of_selects (args := #[]) (mvT hZ63 (hw _ (List.mem_of_getElem? (i := 97) rfl)))) (mvT hZ63 (hw _ (List.mem_of_getElem? (i := 97) rfl))) (mvT hZ63 (hw _ (List.mem_of_getElem? (i := 96) rfl))) (by decide) (backOf (W := 0) (sb_app l Z a0 hw [] b1 bv_17 bk_17 (([] : List Int32) ++ scs) a63 b63 c63 ([(32 : Int32)] : List Int32) cps h63 n0 Z67 G73 G74 G75 G76 G77 P63a P63c P63v P63r F10_java_lang_String G78 hcps (show scs.length + 1 ≤ 16 by omega) (Ne.symm ne71.2) ge36 ge7 ne35 ne70.2 ne70.1) hZ63 (hw _ (List.mem_of_getElem? (i := 98) rfl)) (hw _ (List.mem_of_getElem? (i := 78) rfl)) (by decide) (by decide)) q72a q72c (g := (mkF m 16 #[.val (.ref ca)] [(.ref a63), (.ref b1)])) rfl (by rw [hml]; rfl) (Steps.refl _) (argsL := [(.ref a63)]) (rest := []) (lenOf pd_26 rfl) rfl (by show 2 * 0 + _ ≤ _; exact Nat.le_of_eq rfl) (hb hby d14_16) (fun _ _ => ⟨rfl, e63, (by decide : 4 + 0 ≤ _), (by decide : 28 + 0 ≤ _)⟩)
  dsimp only [Pt.U, Pt.locs, Pt.cells, Pt.slots] at X72 l72 y72 z72 st72 hQ72
  subst l72 y72 z72
  obtain ⟨rfl, N72q, K72, P79, P80, P81, P82, P83⟩ := hQ72
  have N72_ := Fr.app N46_ N72q
  refine Gl.via (fun _ k => st72.trans k) ?_
  have CR84 : CHr Z own_EL s.vm h0 T63.vm T72.heap := CHr.trans CR64 (CHr.keep K72 (sfS SF65 (sfS SF66 sf0)) CR64.1)
  have SF85 : Safe Z own_EL T63.vm T72.heap b1 := Safe.keep K72 (sfS SF65 (sfS SF66 sf0)) CR64.1 SF65
  have SF86 : Safe Z own_EL T63.vm T72.heap bv_17 := Safe.keep K72 (sfS SF65 (sfS SF66 sf0)) CR64.1 SF66
  have Z87 : n0 ≤ T72.heap.size := Nat.le_trans Z67 K72.1
  have Y88 : h0.size ≤ T72.heap.size := Nat.le_trans Y68 K72.1
  have hl89 := Nat.le_trans hk63 K72.1
  show Gl p.tables e below T72 (mkF m 19 #[.val (.ref ca)] [(.ref b1)]) G
  refine Gl.via (fun _ k => XS.aloadN X72.here hx rfl (hb hby d14_19) rfl rfl k) ?_
  show Gl p.tables e below T72 (mkF m 20 #[.val (.ref ca)] [(.ref ca), (.ref b1)]) G
  have G90 : Fld Z T72.heap ca "candorpay/Command$Option" "value" "Ljava/lang/String;" (.ref ta) := (((((F1_ca_value.ext E1).keep K17 (ninS ne2 nin0)).keep K46 (ninS ne2 (ninS ne26 nin0))).ext E63).keep K72 (ninS ne2 (ninS ne26 nin0)))
  obtain ⟨T91, X91, e91, st91⟩ := getF X72 hx hZ63 hown63 (host := "") (Or.inl (hw _ (List.mem_of_getElem? (i := 65) rfl))) Via.refl rfl G90 (g := (mkF m 20 #[.val (.ref ca)] [(.ref ca), (.ref b1)])) rfl rfl (hb hby d14_20)
  refine Gl.via st91 ?_
  show Gl p.tables e below T91 (mkF m 23 #[.val (.ref ca)] [(.ref ta), (.ref b1)]) G
  have G93 : Exa Z T72.heap ta "java/lang/String" := ((((G31.keep K17).keep K46).ext E63).keep K72)
  have G94 : Fld Z T72.heap ta "java/lang/String" "coder" "B" (.int (0 : Int32)) := (((((F7_ta_coder.ext E1).keep K17 (ninS ne5 nin0)).keep K46 (ninS ne5 (ninS ne32 nin0))).ext E63).keep K72 (ninS ne5 (ninS ne32 nin0)))
  have G95 : Fld Z T72.heap ta "java/lang/String" "value" "[B" (.ref tb_) := (((((F8_ta_value.ext E1).keep K17 (ninS ne5 nin0)).keep K46 (ninS ne5 (ninS ne32 nin0))).ext E63).keep K72 (ninS ne5 (ninS ne32 nin0)))
  have G96 : Arv Z T72.heap tb_ tk .byte (own_ln tcs) (tcs.map Value.int) (.int (0 : Int32)) := ((((G33.keep K17 (ninS ne6 nin0)).keep K46 (ninS ne6 (ninS ne34 nin0))).ext E63).keep K72 (ninS ne6 (ninS ne34 nin0)))
  have G97 : Old Z n0 T72.heap := (G78.keep K72 (allS ge7 (allS ge36 all0)))
  obtain ⟨cq92, kq92, q92a, q92b, q92c⟩ := isOf hZ63 e91 P79
  obtain ⟨_, _, ⟨T92, L92, k92, n92⟩, -, X92, ⟨Lc92, hQ92, l92, y92, z92⟩, st92⟩ := X91.virtualBack hx (y := (⟨"java/lang/StringBuilder", "append", "(Ljava/lang/String;)Ljava/lang/StringBuilder;"⟩ : MethodName)) (z := (⟨"java/lang/StringBuilder", "append", "(Ljava/lang/String;)Ljava/lang/StringBuilder;"⟩ : MethodName)) hown63 (mvT hZ63 (hw _ (List.mem_of_getElem? (i := 94) rfl))) (mvT hZ63 (hw _ (List.mem_of_getElem? (i := 95) rfl))) (notFace_of_selects (args := #[]) (mvT hZ63 (hw _ (List.mem_of_getElem? (i := 97) rfl)))) (mvT hZ63 (hw _ (List.mem_of_getElem? (i := 97) rfl))) (mvT hZ63 (hw _ (List.mem_of_getElem? (i := 96) rfl))) (by decide) (backOf (W := 0) (sb_app l Z a0 hw [] b1 bv_17 bk_17 ((([] : List Int32) ++ scs) ++ ([(32 : Int32)] : List Int32)) ta tb_ tk tcs cps T72.heap n0 Z87 P79 P80 P81 P82 P83 G93 G94 G95 G96 F10_java_lang_String G97 hcps (by simp; omega) ne34 ge36 ge7 ne35 (Ne.symm ne6) (Ne.symm ne5)) hZ63 (hw _ (List.mem_of_getElem? (i := 98) rfl)) (hw _ (List.mem_of_getElem? (i := 78) rfl)) (by decide) (by decide)) q92a q92c (g := (mkF m 23 #[.val (.ref ca)] [(.ref ta), (.ref b1)])) rfl (by rw [hml]; rfl) (Steps.refl _) (argsL := [(.ref ta)]) (rest := []) (lenOf pd_26 rfl) rfl (by show 2 * 0 + _ ≤ _; exact Nat.le_of_eq rfl) (hb hby d14_23) (fun _ _ => ⟨rfl, e91, (by decide : 4 + 0 ≤ _), (by decide : 28 + 0 ≤ _)⟩)
  dsimp only [Pt.U, Pt.locs, Pt.cells, Pt.slots] at X92 l92 y92 z92 st92 hQ92
  subst l92 y92 z92
  obtain ⟨rfl, N92q, K92, P98, P99, P100, P101, P102⟩ := hQ92
  have N92_ := Fr.app N72_ N92q
  refine Gl.via (fun _ k => st92.trans k) ?_
  have CR103 : CHr Z own_EL s.vm h0 T63.vm T92.heap := CHr.trans CR84 (CHr.keep K92 (sfS SF85 (sfS SF86 sf0)) CR84.1)
  have SF104 : Safe Z own_EL T63.vm T92.heap b1 := Safe.keep K92 (sfS SF85 (sfS SF86 sf0)) CR84.1 SF85
  have SF105 : Safe Z own_EL T63.vm T92.heap bv_17 := Safe.keep K92 (sfS SF85 (sfS SF86 sf0)) CR84.1 SF86
  have Z106 : n0 ≤ T92.heap.size := Nat.le_trans Z87 K92.1
  have Y107 : h0.size ≤ T92.heap.size := Nat.le_trans Y88 K92.1
  have hl108 := Nat.le_trans hl89 K92.1
  show Gl p.tables e below T92 (mkF m 26 #[.val (.ref ca)] [(.ref b1)]) G
  have G110 : Old Z n0 T92.heap := (G97.keep K92 (allS ge7 (allS ge36 all0)))
  obtain ⟨cq109, kq109, q109a, q109b, q109c⟩ := isOf hZ63 rfl P98
  obtain ⟨_, _, ⟨T109, L109, k109, n109⟩, -, X109, ⟨Lc109, hQ109, l109, y109, z109⟩, st109⟩ := X92.virtualBack hx (y := (⟨"java/lang/StringBuilder", "toString", "()Ljava/lang/String;"⟩ : MethodName)) (z := (⟨"java/lang/StringBuilder", "toString", "()Ljava/lang/String;"⟩ : MethodName)) hown63 (mvT hZ63 (hw _ (List.mem_of_getElem? (i := 142) rfl))) (mvT hZ63 (hw _ (List.mem_of_getElem? (i := 143) rfl))) (notFace_of_selects (args := #[]) (mvT hZ63 (hw _ (List.mem_of_getElem? (i := 145) rfl)))) (mvT hZ63 (hw _ (List.mem_of_getElem? (i := 145) rfl))) (mvT hZ63 (hw _ (List.mem_of_getElem? (i := 144) rfl))) (by decide) (backOf (W := 0) (sb_str l Z a0 hw [] b1 bv_17 bk_17 (((([] : List Int32) ++ scs) ++ ([(32 : Int32)] : List Int32)) ++ tcs) cps T92.heap n0 Z106 P98 P99 P100 P101 P102 F10_java_lang_String G110 hcps (by simp; omega)) hZ63 (hw _ (List.mem_of_getElem? (i := 146) rfl)) (hw _ (List.mem_of_getElem? (i := 78) rfl)) (by decide) (by decide)) q109a q109c (g := (mkF m 26 #[.val (.ref ca)] [(.ref b1)])) rfl (by rw [hml]; rfl) (Steps.refl _) (argsL := []) (rest := []) (lenOf pd_27 rfl) rfl (by show 2 * 0 + _ ≤ _; exact Nat.le_of_eq rfl) (hb hby d14_26) (fun _ _ => ⟨rfl, rfl, (by decide : 4 + 2 ≤ _), (by decide : 28 + 20 ≤ _)⟩)
  dsimp only [Pt.U, Pt.locs, Pt.cells, Pt.slots] at X109 l109 y109 z109 st109 hQ109
  subst l109 y109 z109
  obtain ⟨sa_109, sb_109, sk_109, rfl, N109q, K109, P111, P112, P113, P114, R115⟩ := hQ109
  have N109_ := Fr.app N92_ N109q
  refine Gl.via (fun _ k => st109.trans k) ?_
  have G116 : Fld Z T92.heap ca "candorpay/Command$Option" "name" "Ljava/lang/String;" (.ref sa) := ((((G44.keep K46 (ninS ne2 (ninS ne26 nin0))).ext E63).keep K72 (ninS ne2 (ninS ne26 nin0))).keep K92 (ninS ne2 (ninS ne26 nin0)))
  have ne117 : ca ≠ sa_109 := Nat.ne_of_lt (Nat.lt_of_lt_of_le G116.lt R115)
  have G118 : Exa Z T92.heap sa "java/lang/String" := ((((G47.keep K46).ext E63).keep K72).keep K92)
  have ne119 : sa ≠ sa_109 := Nat.ne_of_lt (Nat.lt_of_lt_of_le G118.lt R115)
  have G120 : Arv Z T92.heap sb sk .byte (own_ln scs) (scs.map Value.int) (.int (0 : Int32)) := ((((G50.keep K46 (ninS ne4 (ninS ne30 nin0))).ext E63).keep K72 (ninS ne4 (ninS ne30 nin0))).keep K92 (ninS ne4 (ninS ne30 nin0)))
  have ne121 : sb ≠ sa_109 := Nat.ne_of_lt (Nat.lt_of_lt_of_le G120.lt R115)
  have G122 : Exa Z T92.heap ta "java/lang/String" := (G93.keep K92)
  have ne123 : ta ≠ sa_109 := Nat.ne_of_lt (Nat.lt_of_lt_of_le G122.lt R115)
  have G124 : Arv Z T92.heap tb_ tk .byte (own_ln tcs) (tcs.map Value.int) (.int (0 : Int32)) := (G96.keep K92 (ninS ne6 (ninS ne34 nin0)))
  have ne125 : tb_ ≠ sa_109 := Nat.ne_of_lt (Nat.lt_of_lt_of_le G124.lt R115)
  have ne126 : b1 ≠ sa_109 := Nat.ne_of_lt (Nat.lt_of_lt_of_le P98.lt R115)
  have ne127 : bv_17 ≠ sa_109 := Nat.ne_of_lt (Nat.lt_of_lt_of_le P102.lt R115)
  have G128 : Exa Z T92.heap a63 "java/lang/String" := ((P63a.keep K72).keep K92)
  have ne129 : a63 ≠ sa_109 := Nat.ne_of_lt (Nat.lt_of_lt_of_le G128.lt R115)
  have G130 : Arv Z T92.heap b63 c63 .byte (1 : Int32) [(.int (32 : Int32))] (.int (0 : Int32)) := ((P63r.keep K72 (ninS (Ne.symm ne70.2) (ninS (Ne.symm ne71.2) nin0))).keep K92 (ninS (Ne.symm ne70.2) (ninS (Ne.symm ne71.2) nin0)))
  have ne131 : b63 ≠ sa_109 := Nat.ne_of_lt (Nat.lt_of_lt_of_le G130.lt R115)
  have ge132 : n0 ≤ sa_109 := Nat.le_trans Z106 R115
  have gz133 : h0.size ≤ sa_109 := Nat.le_trans Y107 R115
  have CR134 : CHr Z own_EL s.vm h0 T63.vm T109.heap := CHr.trans CR103 (CHr.keep K109 sf0 CR103.1)
  have SF135 : Safe Z own_EL T63.vm T109.heap b1 := Safe.keep K109 sf0 CR103.1 SF104
  have SF136 : Safe Z own_EL T63.vm T109.heap bv_17 := Safe.keep K109 sf0 CR103.1 SF105
  have SF137 : Safe Z own_EL T63.vm T109.heap sa_109 := Safe.keep K109 sf0 CR103.1 (Safe.new R115)
  have Z138 : n0 ≤ T109.heap.size := Nat.le_trans Z106 K109.1
  have Y139 : h0.size ≤ T109.heap.size := Nat.le_trans Y107 K109.1
  have hl140 := Nat.le_trans hl108 K109.1
  show Gl p.tables e below T109 (mkF m 29 #[.val (.ref ca)] [(.ref sa_109)]) G
  obtain ⟨fs, hr, hrun, hended, hRW⟩ := X109.leaveW hS63 hl140 (v := some (.ref sa_109)) (fun h => by rw [Bd.returns] at h; cases h)
  have hq : ∀ L, Fr n0 L → Q_syn Z ca sa sb sk scs ta tb_ tk tcs cps h0 n0 (some (.ref sa_109)) T109.heap L := by
    intro L hN
    exact ⟨sa_109, sb_109, sk_109, rfl, hN, ((((((((Keep.refl h0 []).ext E1).trans K17 (allS (Or.inr gz8) all0)).trans K46 (allS (Or.inr gz8) (allS (Or.inr gz37) all0))).ext E63).trans K72 (allS (Or.inr gz8) (allS (Or.inr gz37) all0))).trans K92 (allS (Or.inr gz8) (allS (Or.inr gz37) all0))).trans K109 all0), P111, P112, P113, P114, gz133⟩
  have hc : CHr Z own_EL s.vm s.heap T109.vm T109.heap := by
    rw [hh]
    exact CHr.trans CR134 (CHv.at X109 hZ63 hEL CR134.1)
  rw [hG]
  exact Gl.fin (retOut X109 hx Bd.returns rfl (Or.inr (Or.inr (Or.inr (Or.inr ⟨rfl, rfl, rfl⟩)))) (hb hby d14_29) hr) ⟨_, hrun, hended, _, _, rfl, hq _ N109_, hc, ⟨hRW.1, hRW.2.1, hRW.2.2.1, hRW.2.2.2.mono (by decide) (by decide)⟩⟩
theorem own_g0 {n c0 c1 c2 m d0 d1 d2 : Int32} (hn : own_sm n) (hm : own_sm m) (h : (0 : Int32) < n) : ¬ ((0 : Int32) < (0 : Int32)) ∧ (0 : Int32) < own_ln (own_scat (32 : Int32) n c0 c1 c2 m d0 d1 d2) ∧ ((own_scat (32 : Int32) n c0 c1 c2 m d0 d1 d2).map Value.int).getD (0 : Int32).toNatClampNeg (.int (0 : Int32)) = .int c0.toInt8.toInt32 := by
  rw [own_scln hn hm]
  rcases hn with rfl | rfl | rfl | rfl <;> rcases hm with rfl | rfl | rfl | rfl <;> first | exact absurd h (by decide) | exact ⟨by decide, by decide, rfl⟩
theorem own_g1 {n c0 c1 c2 m d0 d1 d2 : Int32} (hn : own_sm n) (hm : own_sm m) (h : (1 : Int32) < n) : ¬ ((1 : Int32) < (0 : Int32)) ∧ (1 : Int32) < own_ln (own_scat (32 : Int32) n c0 c1 c2 m d0 d1 d2) ∧ ((own_scat (32 : Int32) n c0 c1 c2 m d0 d1 d2).map Value.int).getD (1 : Int32).toNatClampNeg (.int (0 : Int32)) = .int c1.toInt8.toInt32 := by
  rw [own_scln hn hm]
  rcases hn with rfl | rfl | rfl | rfl <;> rcases hm with rfl | rfl | rfl | rfl <;> first | exact absurd h (by decide) | exact ⟨by decide, by decide, rfl⟩
theorem own_g2 {n c0 c1 c2 m d0 d1 d2 : Int32} (hn : own_sm n) (hm : own_sm m) (h : (2 : Int32) < n) : ¬ ((2 : Int32) < (0 : Int32)) ∧ (2 : Int32) < own_ln (own_scat (32 : Int32) n c0 c1 c2 m d0 d1 d2) ∧ ((own_scat (32 : Int32) n c0 c1 c2 m d0 d1 d2).map Value.int).getD (2 : Int32).toNatClampNeg (.int (0 : Int32)) = .int c2.toInt8.toInt32 := by
  rw [own_scln hn hm]
  rcases hn with rfl | rfl | rfl | rfl <;> rcases hm with rfl | rfl | rfl | rfl <;> first | exact absurd h (by decide) | exact ⟨by decide, by decide, rfl⟩
theorem own_g3 {n c0 c1 c2 m d0 d1 d2 : Int32} (hn : own_sm n) (hm : own_sm m) (h : True) : ¬ (n < (0 : Int32)) ∧ n < own_ln (own_scat (32 : Int32) n c0 c1 c2 m d0 d1 d2) ∧ ((own_scat (32 : Int32) n c0 c1 c2 m d0 d1 d2).map Value.int).getD n.toNatClampNeg (.int (0 : Int32)) = .int (32 : Int32) := by
  rw [own_scln hn hm]
  rcases hn with rfl | rfl | rfl | rfl <;> rcases hm with rfl | rfl | rfl | rfl <;> first | exact absurd h (by decide) | exact ⟨by decide, by decide, rfl⟩
theorem own_g4 {n c0 c1 c2 m d0 d1 d2 : Int32} (hn : own_sm n) (hm : own_sm m) (h : (0 : Int32) < m) : ¬ ((n + 1) < (0 : Int32)) ∧ (n + 1) < own_ln (own_scat (32 : Int32) n c0 c1 c2 m d0 d1 d2) ∧ ((own_scat (32 : Int32) n c0 c1 c2 m d0 d1 d2).map Value.int).getD (n + 1).toNatClampNeg (.int (0 : Int32)) = .int d0.toInt8.toInt32 := by
  rw [own_scln hn hm]
  rcases hn with rfl | rfl | rfl | rfl <;> rcases hm with rfl | rfl | rfl | rfl <;> first | exact absurd h (by decide) | exact ⟨by decide, by decide, rfl⟩
theorem own_g5 {n c0 c1 c2 m d0 d1 d2 : Int32} (hn : own_sm n) (hm : own_sm m) (h : (1 : Int32) < m) : ¬ ((n + 1 + 1) < (0 : Int32)) ∧ (n + 1 + 1) < own_ln (own_scat (32 : Int32) n c0 c1 c2 m d0 d1 d2) ∧ ((own_scat (32 : Int32) n c0 c1 c2 m d0 d1 d2).map Value.int).getD (n + 1 + 1).toNatClampNeg (.int (0 : Int32)) = .int d1.toInt8.toInt32 := by
  rw [own_scln hn hm]
  rcases hn with rfl | rfl | rfl | rfl <;> rcases hm with rfl | rfl | rfl | rfl <;> first | exact absurd h (by decide) | exact ⟨by decide, by decide, rfl⟩
theorem own_g6 {n c0 c1 c2 m d0 d1 d2 : Int32} (hn : own_sm n) (hm : own_sm m) (h : (2 : Int32) < m) : ¬ ((n + 1 + 2) < (0 : Int32)) ∧ (n + 1 + 2) < own_ln (own_scat (32 : Int32) n c0 c1 c2 m d0 d1 d2) ∧ ((own_scat (32 : Int32) n c0 c1 c2 m d0 d1 d2).map Value.int).getD (n + 1 + 2).toNatClampNeg (.int (0 : Int32)) = .int d2.toInt8.toInt32 := by
  rw [own_scln hn hm]
  rcases hn with rfl | rfl | rfl | rfl <;> rcases hm with rfl | rfl | rfl | rfl <;> first | exact absurd h (by decide) | exact ⟨by decide, by decide, rfl⟩
theorem pd_28 : parseMethodDescriptor "(ICCC)Ljava/lang/String;" = some ⟨[.int, .char, .char, .char], some (.object "java/lang/String")⟩ := by decide +kernel
theorem pd_29 : parseMethodDescriptor "(Ljava/lang/String;Ljava/lang/String;Ljava/lang/String;Z)V" = some ⟨[(.object "java/lang/String"), (.object "java/lang/String"), (.object "java/lang/String"), .boolean], none⟩ := by decide +kernel
theorem pd_30 : parseMethodDescriptor "(I)C" = some ⟨[.int], some .char⟩ := by decide +kernel
theorem ef_rm0 (m : MethodId) (x0 : Int32) (x1 : Int32) (x2 : Int32) : entryFrame m #[(.int x0), (.int x1), (.int x2)] maxLocals = mkF m 0 #[.val (.int x0), .val (.int x1), .val (.int x2), .unset, .unset, .unset, .unset, .unset, .unset, .unset, .unset, .unset, .unset, .unset, .unset, .unset, .unset, .unset] [] := by first | (simp [entryFrame, mkF, argsToLocals, Value.category, maxLocals]; done) | rfl | (simp [entryFrame, mkF, argsToLocals, own_catI, own_catR, *]; done)
def Q_rm0 (Z : State) (p0 : Int32) (p1 : Int32) (p2 : Int32) (cps : Int32) (fm : Value) (h0 : Heap) (n0 : Nat) (v : Option Value) (h : Heap) (L : List Loc) : Prop := v = some (.int (1 : Int32)) ∧ Fr n0 L
set_option maxRecDepth 65536 in
set_option maxHeartbeats 40000000 in
theorem rm0 (l : Launch) (Z : State) (a0 : Array Value) (hw : ∀ d ∈ tables_1, d.before a0 Z = true) (ws : List Jvm.Cond) (p0 : Int32) (p1 : Int32) (p2 : Int32) (cps : Int32) (fm : Value) (h0 : Heap) (n0 : Nat) (Z0 : n0 ≤ h0.size) (F0_java_lang_String : Sta Z Z.heap "java/lang/String" "COMPACT_STRINGS" "Z" (.int cps)) (F1_jdk_internal_util_Preconditions : Sta Z Z.heap "jdk/internal/util/Preconditions" "SIOOBE_FORMATTER" "Ljava/util/function/BiFunction;" fm) (F2_ : Old Z n0 h0) (hcps : ¬ (cps = (0 : Int32))) (hfm : fm.category = 1) :
    MetFree l x (head1 (Jvm.Cond.code x code maxLocals ret :: ws) room_1) (fun a U => a = #[(.int p0), (.int p1), (.int p2)] ∧ Z.Warmed39 U.vm ∧ U.heap = h0 ∧ CHv Z own_EL U.vm h0 ∧ ∀ x ∈ ([] : List Addr), Safe Z own_EL U.vm h0 x) (fun _ _ _ _ _ => True) (fun _ U o U' => ∃ v L, o = .returned v ∧ Q_rm0 Z p0 p1 p2 cps fm h0 n0 v U'.heap L ∧ ReturnedEndW U o U' L 21 81) := by
  refine MetFree.of_bodySF (plainFor_of_name pn_8) hisR ?_
  intro p e s m args below meth c s₁ Bd hml0 hP hK
  obtain ⟨rfl, hZ, hh, hCH, hSF⟩ := hP
  have hx := Bd.exec
  have hby := Bd.bytes
  have hml : c.maxLocals = 18 := hml0
  have hown : s.vm.findClass "candorpay/OptionSynopsisPinLaw" = some m.cls := findClass_of_methodNamed Bd.named
  have hnm := (name_of_methodNamed Bd.named Bd.method).1
  have X0 : Stand p l e room_1 (s.setVm s.vm) m #[(.int p0), (.int p1), (.int p2)] below meth c s₁ [] 0 0 := Stand.of_body Bd
  have e0 : s₁.heap = h0 := by rw [← hh, Bd.state]; rfl
  have N0 := Fr.nil n0
  have hS0 : s.Since s.vm 0 := (State.WarmedH.refl s).since 0
  have hk0 : 0 ≤ h0.size := Nat.zero_le _
  have hEL := own_ew hw
  have CR0 : CHr Z own_EL s.vm h0 s.vm h0 := CHr.refl hCH
  obtain ⟨G, hG⟩ : ∃ G : State → Prop, G = (fun U' => ∃ o, U'.status = .running ∧ Ended U' below o ∧ ∃ v L, o = .returned v ∧ Q_rm0 Z p0 p1 p2 cps fm h0 n0 v U'.heap L ∧ ReturnedEndW s o U' L 21 81) := ⟨_, rfl⟩
  suffices key : Gl p.tables e below s₁ (mkF m 0 #[.val (.int p0), .val (.int p1), .val (.int p2), .unset, .unset, .unset, .unset, .unset, .unset, .unset, .unset, .unset, .unset, .unset, .unset, .unset, .unset, .unset] []) G by
    obtain ⟨s₂, k1, k2⟩ := key
    rw [hG] at k2
    obtain ⟨o, k3, k4, k5⟩ := k2
    exact ⟨s₂, o, castTop (ef_rm0 m p0 p1 p2) k1, k3, k4, k5⟩
  show Gl p.tables e below s₁ (mkF m 0 #[.val (.int p0), .val (.int p1), .val (.int p2), .unset, .unset, .unset, .unset, .unset, .unset, .unset, .unset, .unset, .unset, .unset, .unset, .unset, .unset, .unset] []) G
  refine Gl.via (fun _ k => XS.iloadN X0.here hx rfl (hb hby at_0) rfl k) ?_
  show Gl p.tables e below s₁ (mkF m 1 #[.val (.int p0), .val (.int p1), .val (.int p2), .unset, .unset, .unset, .unset, .unset, .unset, .unset, .unset, .unset, .unset, .unset, .unset, .unset, .unset, .unset] [(.int p0)]) G
  refine Gl.via (fun _ k => XS.iconst X0.here hx rfl (hb hby at_1) k) ?_
  show Gl p.tables e below s₁ (mkF m 2 #[.val (.int p0), .val (.int p1), .val (.int p2), .unset, .unset, .unset, .unset, .unset, .unset, .unset, .unset, .unset, .unset, .unset, .unset, .unset, .unset, .unset] [(.int (3 : Int32)), (.int p0)]) G
  refine Gl.via (fun _ k => XS.iand X0.here hx rfl (hb hby at_2) rfl k) ?_
  show Gl p.tables e below s₁ (mkF m 3 #[.val (.int p0), .val (.int p1), .val (.int p2), .unset, .unset, .unset, .unset, .unset, .unset, .unset, .unset, .unset, .unset, .unset, .unset, .unset, .unset, .unset] [(.int (p0 &&& (3 : Int32)))]) G
  refine Gl.via (fun _ k => XS.istoreN X0.here hx rfl (hb hby at_3) rfl (l' := #[.val (.int p0), .val (.int p1), .val (.int p2), .val (.int (p0 &&& (3 : Int32))), .unset, .unset, .unset, .unset, .unset, .unset, .unset, .unset, .unset, .unset, .unset, .unset, .unset, .unset]) rfl k) ?_
  show Gl p.tables e below s₁ (mkF m 4 #[.val (.int p0), .val (.int p1), .val (.int p2), .val (.int (p0 &&& (3 : Int32))), .unset, .unset, .unset, .unset, .unset, .unset, .unset, .unset, .unset, .unset, .unset, .unset, .unset, .unset] []) G
  refine Gl.via (fun _ k => XS.iloadN X0.here hx rfl (hb hby at_4) rfl k) ?_
  show Gl p.tables e below s₁ (mkF m 5 #[.val (.int p0), .val (.int p1), .val (.int p2), .val (.int (p0 &&& (3 : Int32))), .unset, .unset, .unset, .unset, .unset, .unset, .unset, .unset, .unset, .unset, .unset, .unset, .unset, .unset] [(.int p0)]) G
  refine Gl.via (fun _ k => XS.iconst X0.here hx rfl (hb hby at_5) k) ?_
  show Gl p.tables e below s₁ (mkF m 6 #[.val (.int p0), .val (.int p1), .val (.int p2), .val (.int (p0 &&& (3 : Int32))), .unset, .unset, .unset, .unset, .unset, .unset, .unset, .unset, .unset, .unset, .unset, .unset, .unset, .unset] [(.int (2 : Int32)), (.int p0)]) G
  refine Gl.via (fun _ k => XS.iushr X0.here hx rfl (hb hby at_6) rfl k) ?_
  show Gl p.tables e below s₁ (mkF m 7 #[.val (.int p0), .val (.int p1), .val (.int p2), .val (.int (p0 &&& (3 : Int32))), .unset, .unset, .unset, .unset, .unset, .unset, .unset, .unset, .unset, .unset, .unset, .unset, .unset, .unset] [(.int ((p0.toUInt32 >>> ((2 : Int32) &&& 31).toUInt32).toInt32))]) G
  refine Gl.via (fun _ k => XS.sipush X0.here hx rfl (hb hby at_7) k) ?_
  show Gl p.tables e below s₁ (mkF m 10 #[.val (.int p0), .val (.int p1), .val (.int p2), .val (.int (p0 &&& (3 : Int32))), .unset, .unset, .unset, .unset, .unset, .unset, .unset, .unset, .unset, .unset, .unset, .unset, .unset, .unset] [(.int (255 : Int32)), (.int ((p0.toUInt32 >>> ((2 : Int32) &&& 31).toUInt32).toInt32))]) G
  refine Gl.via (fun _ k => XS.iand X0.here hx rfl (hb hby at_10) rfl k) ?_
  show Gl p.tables e below s₁ (mkF m 11 #[.val (.int p0), .val (.int p1), .val (.int p2), .val (.int (p0 &&& (3 : Int32))), .unset, .unset, .unset, .unset, .unset, .unset, .unset, .unset, .unset, .unset, .unset, .unset, .unset, .unset] [(.int (((p0.toUInt32 >>> ((2 : Int32) &&& 31).toUInt32).toInt32) &&& (255 : Int32)))]) G
  refine Gl.via (fun _ k => XS.i2c X0.here hx rfl (hb hby at_11) rfl k) ?_
  show Gl p.tables e below s₁ (mkF m 12 #[.val (.int p0), .val (.int p1), .val (.int p2), .val (.int (p0 &&& (3 : Int32))), .unset, .unset, .unset, .unset, .unset, .unset, .unset, .unset, .unset, .unset, .unset, .unset, .unset, .unset] [(.int ((((p0.toUInt32 >>> ((2 : Int32) &&& 31).toUInt32).toInt32) &&& (255 : Int32)).toUInt32.toUInt16.toUInt32.toInt32))]) G
  rw [show ((((p0.toUInt32 >>> ((2 : Int32) &&& 31).toUInt32).toInt32) &&& (255 : Int32)).toUInt32.toUInt16.toUInt32.toInt32) = ((p0.toUInt32 >>> ((2 : Int32) &&& 31).toUInt32).toInt32 &&& (255 : Int32)) from (i2c_mask _)]
  show Gl p.tables e below s₁ (mkF m 12 #[.val (.int p0), .val (.int p1), .val (.int p2), .val (.int (p0 &&& (3 : Int32))), .unset, .unset, .unset, .unset, .unset, .unset, .unset, .unset, .unset, .unset, .unset, .unset, .unset, .unset] [(.int ((p0.toUInt32 >>> ((2 : Int32) &&& 31).toUInt32).toInt32 &&& (255 : Int32)))]) G
  refine Gl.via (fun _ k => XS.istore X0.here hx rfl (hb hby at_12) rfl (l' := #[.val (.int p0), .val (.int p1), .val (.int p2), .val (.int (p0 &&& (3 : Int32))), .val (.int ((p0.toUInt32 >>> ((2 : Int32) &&& 31).toUInt32).toInt32 &&& (255 : Int32))), .unset, .unset, .unset, .unset, .unset, .unset, .unset, .unset, .unset, .unset, .unset, .unset, .unset]) rfl k) ?_
  show Gl p.tables e below s₁ (mkF m 14 #[.val (.int p0), .val (.int p1), .val (.int p2), .val (.int (p0 &&& (3 : Int32))), .val (.int ((p0.toUInt32 >>> ((2 : Int32) &&& 31).toUInt32).toInt32 &&& (255 : Int32))), .unset, .unset, .unset, .unset, .unset, .unset, .unset, .unset, .unset, .unset, .unset, .unset, .unset] []) G
  refine Gl.via (fun _ k => XS.iloadN X0.here hx rfl (hb hby at_14) rfl k) ?_
  show Gl p.tables e below s₁ (mkF m 15 #[.val (.int p0), .val (.int p1), .val (.int p2), .val (.int (p0 &&& (3 : Int32))), .val (.int ((p0.toUInt32 >>> ((2 : Int32) &&& 31).toUInt32).toInt32 &&& (255 : Int32))), .unset, .unset, .unset, .unset, .unset, .unset, .unset, .unset, .unset, .unset, .unset, .unset, .unset] [(.int p0)]) G
  refine Gl.via (fun _ k => XS.bipush X0.here hx rfl (hb hby at_15) k) ?_
  show Gl p.tables e below s₁ (mkF m 17 #[.val (.int p0), .val (.int p1), .val (.int p2), .val (.int (p0 &&& (3 : Int32))), .val (.int ((p0.toUInt32 >>> ((2 : Int32) &&& 31).toUInt32).toInt32 &&& (255 : Int32))), .unset, .unset, .unset, .unset, .unset, .unset, .unset, .unset, .unset, .unset, .unset, .unset, .unset] [(.int (10 : Int32)), (.int p0)]) G
  refine Gl.via (fun _ k => XS.iushr X0.here hx rfl (hb hby at_17) rfl k) ?_
  show Gl p.tables e below s₁ (mkF m 18 #[.val (.int p0), .val (.int p1), .val (.int p2), .val (.int (p0 &&& (3 : Int32))), .val (.int ((p0.toUInt32 >>> ((2 : Int32) &&& 31).toUInt32).toInt32 &&& (255 : Int32))), .unset, .unset, .unset, .unset, .unset, .unset, .unset, .unset, .unset, .unset, .unset, .unset, .unset] [(.int ((p0.toUInt32 >>> ((10 : Int32) &&& 31).toUInt32).toInt32))]) G
  refine Gl.via (fun _ k => XS.sipush X0.here hx rfl (hb hby at_18) k) ?_
  show Gl p.tables e below s₁ (mkF m 21 #[.val (.int p0), .val (.int p1), .val (.int p2), .val (.int (p0 &&& (3 : Int32))), .val (.int ((p0.toUInt32 >>> ((2 : Int32) &&& 31).toUInt32).toInt32 &&& (255 : Int32))), .unset, .unset, .unset, .unset, .unset, .unset, .unset, .unset, .unset, .unset, .unset, .unset, .unset] [(.int (255 : Int32)), (.int ((p0.toUInt32 >>> ((10 : Int32) &&& 31).toUInt32).toInt32))]) G
  refine Gl.via (fun _ k => XS.iand X0.here hx rfl (hb hby at_21) rfl k) ?_
  show Gl p.tables e below s₁ (mkF m 22 #[.val (.int p0), .val (.int p1), .val (.int p2), .val (.int (p0 &&& (3 : Int32))), .val (.int ((p0.toUInt32 >>> ((2 : Int32) &&& 31).toUInt32).toInt32 &&& (255 : Int32))), .unset, .unset, .unset, .unset, .unset, .unset, .unset, .unset, .unset, .unset, .unset, .unset, .unset] [(.int (((p0.toUInt32 >>> ((10 : Int32) &&& 31).toUInt32).toInt32) &&& (255 : Int32)))]) G
  refine Gl.via (fun _ k => XS.i2c X0.here hx rfl (hb hby at_22) rfl k) ?_
  show Gl p.tables e below s₁ (mkF m 23 #[.val (.int p0), .val (.int p1), .val (.int p2), .val (.int (p0 &&& (3 : Int32))), .val (.int ((p0.toUInt32 >>> ((2 : Int32) &&& 31).toUInt32).toInt32 &&& (255 : Int32))), .unset, .unset, .unset, .unset, .unset, .unset, .unset, .unset, .unset, .unset, .unset, .unset, .unset] [(.int ((((p0.toUInt32 >>> ((10 : Int32) &&& 31).toUInt32).toInt32) &&& (255 : Int32)).toUInt32.toUInt16.toUInt32.toInt32))]) G
  rw [show ((((p0.toUInt32 >>> ((10 : Int32) &&& 31).toUInt32).toInt32) &&& (255 : Int32)).toUInt32.toUInt16.toUInt32.toInt32) = ((p0.toUInt32 >>> ((10 : Int32) &&& 31).toUInt32).toInt32 &&& (255 : Int32)) from (i2c_mask _)]
  show Gl p.tables e below s₁ (mkF m 23 #[.val (.int p0), .val (.int p1), .val (.int p2), .val (.int (p0 &&& (3 : Int32))), .val (.int ((p0.toUInt32 >>> ((2 : Int32) &&& 31).toUInt32).toInt32 &&& (255 : Int32))), .unset, .unset, .unset, .unset, .unset, .unset, .unset, .unset, .unset, .unset, .unset, .unset, .unset] [(.int ((p0.toUInt32 >>> ((10 : Int32) &&& 31).toUInt32).toInt32 &&& (255 : Int32)))]) G
  refine Gl.via (fun _ k => XS.istore X0.here hx rfl (hb hby at_23) rfl (l' := #[.val (.int p0), .val (.int p1), .val (.int p2), .val (.int (p0 &&& (3 : Int32))), .val (.int ((p0.toUInt32 >>> ((2 : Int32) &&& 31).toUInt32).toInt32 &&& (255 : Int32))), .val (.int ((p0.toUInt32 >>> ((10 : Int32) &&& 31).toUInt32).toInt32 &&& (255 : Int32))), .unset, .unset, .unset, .unset, .unset, .unset, .unset, .unset, .unset, .unset, .unset, .unset]) rfl k) ?_
  show Gl p.tables e below s₁ (mkF m 25 #[.val (.int p0), .val (.int p1), .val (.int p2), .val (.int (p0 &&& (3 : Int32))), .val (.int ((p0.toUInt32 >>> ((2 : Int32) &&& 31).toUInt32).toInt32 &&& (255 : Int32))), .val (.int ((p0.toUInt32 >>> ((10 : Int32) &&& 31).toUInt32).toInt32 &&& (255 : Int32))), .unset, .unset, .unset, .unset, .unset, .unset, .unset, .unset, .unset, .unset, .unset, .unset] []) G
  refine Gl.via (fun _ k => XS.iloadN X0.here hx rfl (hb hby at_25) rfl k) ?_
  show Gl p.tables e below s₁ (mkF m 26 #[.val (.int p0), .val (.int p1), .val (.int p2), .val (.int (p0 &&& (3 : Int32))), .val (.int ((p0.toUInt32 >>> ((2 : Int32) &&& 31).toUInt32).toInt32 &&& (255 : Int32))), .val (.int ((p0.toUInt32 >>> ((10 : Int32) &&& 31).toUInt32).toInt32 &&& (255 : Int32))), .unset, .unset, .unset, .unset, .unset, .unset, .unset, .unset, .unset, .unset, .unset, .unset] [(.int p0)]) G
  refine Gl.via (fun _ k => XS.bipush X0.here hx rfl (hb hby at_26) k) ?_
  show Gl p.tables e below s₁ (mkF m 28 #[.val (.int p0), .val (.int p1), .val (.int p2), .val (.int (p0 &&& (3 : Int32))), .val (.int ((p0.toUInt32 >>> ((2 : Int32) &&& 31).toUInt32).toInt32 &&& (255 : Int32))), .val (.int ((p0.toUInt32 >>> ((10 : Int32) &&& 31).toUInt32).toInt32 &&& (255 : Int32))), .unset, .unset, .unset, .unset, .unset, .unset, .unset, .unset, .unset, .unset, .unset, .unset] [(.int (18 : Int32)), (.int p0)]) G
  refine Gl.via (fun _ k => XS.iushr X0.here hx rfl (hb hby at_28) rfl k) ?_
  show Gl p.tables e below s₁ (mkF m 29 #[.val (.int p0), .val (.int p1), .val (.int p2), .val (.int (p0 &&& (3 : Int32))), .val (.int ((p0.toUInt32 >>> ((2 : Int32) &&& 31).toUInt32).toInt32 &&& (255 : Int32))), .val (.int ((p0.toUInt32 >>> ((10 : Int32) &&& 31).toUInt32).toInt32 &&& (255 : Int32))), .unset, .unset, .unset, .unset, .unset, .unset, .unset, .unset, .unset, .unset, .unset, .unset] [(.int ((p0.toUInt32 >>> ((18 : Int32) &&& 31).toUInt32).toInt32))]) G
  refine Gl.via (fun _ k => XS.sipush X0.here hx rfl (hb hby at_29) k) ?_
  show Gl p.tables e below s₁ (mkF m 32 #[.val (.int p0), .val (.int p1), .val (.int p2), .val (.int (p0 &&& (3 : Int32))), .val (.int ((p0.toUInt32 >>> ((2 : Int32) &&& 31).toUInt32).toInt32 &&& (255 : Int32))), .val (.int ((p0.toUInt32 >>> ((10 : Int32) &&& 31).toUInt32).toInt32 &&& (255 : Int32))), .unset, .unset, .unset, .unset, .unset, .unset, .unset, .unset, .unset, .unset, .unset, .unset] [(.int (255 : Int32)), (.int ((p0.toUInt32 >>> ((18 : Int32) &&& 31).toUInt32).toInt32))]) G
  refine Gl.via (fun _ k => XS.iand X0.here hx rfl (hb hby at_32) rfl k) ?_
  show Gl p.tables e below s₁ (mkF m 33 #[.val (.int p0), .val (.int p1), .val (.int p2), .val (.int (p0 &&& (3 : Int32))), .val (.int ((p0.toUInt32 >>> ((2 : Int32) &&& 31).toUInt32).toInt32 &&& (255 : Int32))), .val (.int ((p0.toUInt32 >>> ((10 : Int32) &&& 31).toUInt32).toInt32 &&& (255 : Int32))), .unset, .unset, .unset, .unset, .unset, .unset, .unset, .unset, .unset, .unset, .unset, .unset] [(.int (((p0.toUInt32 >>> ((18 : Int32) &&& 31).toUInt32).toInt32) &&& (255 : Int32)))]) G
  refine Gl.via (fun _ k => XS.i2c X0.here hx rfl (hb hby at_33) rfl k) ?_
  show Gl p.tables e below s₁ (mkF m 34 #[.val (.int p0), .val (.int p1), .val (.int p2), .val (.int (p0 &&& (3 : Int32))), .val (.int ((p0.toUInt32 >>> ((2 : Int32) &&& 31).toUInt32).toInt32 &&& (255 : Int32))), .val (.int ((p0.toUInt32 >>> ((10 : Int32) &&& 31).toUInt32).toInt32 &&& (255 : Int32))), .unset, .unset, .unset, .unset, .unset, .unset, .unset, .unset, .unset, .unset, .unset, .unset] [(.int ((((p0.toUInt32 >>> ((18 : Int32) &&& 31).toUInt32).toInt32) &&& (255 : Int32)).toUInt32.toUInt16.toUInt32.toInt32))]) G
  rw [show ((((p0.toUInt32 >>> ((18 : Int32) &&& 31).toUInt32).toInt32) &&& (255 : Int32)).toUInt32.toUInt16.toUInt32.toInt32) = ((p0.toUInt32 >>> ((18 : Int32) &&& 31).toUInt32).toInt32 &&& (255 : Int32)) from (i2c_mask _)]
  show Gl p.tables e below s₁ (mkF m 34 #[.val (.int p0), .val (.int p1), .val (.int p2), .val (.int (p0 &&& (3 : Int32))), .val (.int ((p0.toUInt32 >>> ((2 : Int32) &&& 31).toUInt32).toInt32 &&& (255 : Int32))), .val (.int ((p0.toUInt32 >>> ((10 : Int32) &&& 31).toUInt32).toInt32 &&& (255 : Int32))), .unset, .unset, .unset, .unset, .unset, .unset, .unset, .unset, .unset, .unset, .unset, .unset] [(.int ((p0.toUInt32 >>> ((18 : Int32) &&& 31).toUInt32).toInt32 &&& (255 : Int32)))]) G
  refine Gl.via (fun _ k => XS.istore X0.here hx rfl (hb hby at_34) rfl (l' := #[.val (.int p0), .val (.int p1), .val (.int p2), .val (.int (p0 &&& (3 : Int32))), .val (.int ((p0.toUInt32 >>> ((2 : Int32) &&& 31).toUInt32).toInt32 &&& (255 : Int32))), .val (.int ((p0.toUInt32 >>> ((10 : Int32) &&& 31).toUInt32).toInt32 &&& (255 : Int32))), .val (.int ((p0.toUInt32 >>> ((18 : Int32) &&& 31).toUInt32).toInt32 &&& (255 : Int32))), .unset, .unset, .unset, .unset, .unset, .unset, .unset, .unset, .unset, .unset, .unset]) rfl k) ?_
  show Gl p.tables e below s₁ (mkF m 36 #[.val (.int p0), .val (.int p1), .val (.int p2), .val (.int (p0 &&& (3 : Int32))), .val (.int ((p0.toUInt32 >>> ((2 : Int32) &&& 31).toUInt32).toInt32 &&& (255 : Int32))), .val (.int ((p0.toUInt32 >>> ((10 : Int32) &&& 31).toUInt32).toInt32 &&& (255 : Int32))), .val (.int ((p0.toUInt32 >>> ((18 : Int32) &&& 31).toUInt32).toInt32 &&& (255 : Int32))), .unset, .unset, .unset, .unset, .unset, .unset, .unset, .unset, .unset, .unset, .unset] []) G
  refine Gl.via (fun _ k => XS.iloadN X0.here hx rfl (hb hby at_36) rfl k) ?_
  show Gl p.tables e below s₁ (mkF m 37 #[.val (.int p0), .val (.int p1), .val (.int p2), .val (.int (p0 &&& (3 : Int32))), .val (.int ((p0.toUInt32 >>> ((2 : Int32) &&& 31).toUInt32).toInt32 &&& (255 : Int32))), .val (.int ((p0.toUInt32 >>> ((10 : Int32) &&& 31).toUInt32).toInt32 &&& (255 : Int32))), .val (.int ((p0.toUInt32 >>> ((18 : Int32) &&& 31).toUInt32).toInt32 &&& (255 : Int32))), .unset, .unset, .unset, .unset, .unset, .unset, .unset, .unset, .unset, .unset, .unset] [(.int p1)]) G
  refine Gl.via (fun _ k => XS.iconst X0.here hx rfl (hb hby at_37) k) ?_
  show Gl p.tables e below s₁ (mkF m 38 #[.val (.int p0), .val (.int p1), .val (.int p2), .val (.int (p0 &&& (3 : Int32))), .val (.int ((p0.toUInt32 >>> ((2 : Int32) &&& 31).toUInt32).toInt32 &&& (255 : Int32))), .val (.int ((p0.toUInt32 >>> ((10 : Int32) &&& 31).toUInt32).toInt32 &&& (255 : Int32))), .val (.int ((p0.toUInt32 >>> ((18 : Int32) &&& 31).toUInt32).toInt32 &&& (255 : Int32))), .unset, .unset, .unset, .unset, .unset, .unset, .unset, .unset, .unset, .unset, .unset] [(.int (3 : Int32)), (.int p1)]) G
  refine Gl.via (fun _ k => XS.iand X0.here hx rfl (hb hby at_38) rfl k) ?_
  show Gl p.tables e below s₁ (mkF m 39 #[.val (.int p0), .val (.int p1), .val (.int p2), .val (.int (p0 &&& (3 : Int32))), .val (.int ((p0.toUInt32 >>> ((2 : Int32) &&& 31).toUInt32).toInt32 &&& (255 : Int32))), .val (.int ((p0.toUInt32 >>> ((10 : Int32) &&& 31).toUInt32).toInt32 &&& (255 : Int32))), .val (.int ((p0.toUInt32 >>> ((18 : Int32) &&& 31).toUInt32).toInt32 &&& (255 : Int32))), .unset, .unset, .unset, .unset, .unset, .unset, .unset, .unset, .unset, .unset, .unset] [(.int (p1 &&& (3 : Int32)))]) G
  refine Gl.via (fun _ k => XS.istore X0.here hx rfl (hb hby at_39) rfl (l' := #[.val (.int p0), .val (.int p1), .val (.int p2), .val (.int (p0 &&& (3 : Int32))), .val (.int ((p0.toUInt32 >>> ((2 : Int32) &&& 31).toUInt32).toInt32 &&& (255 : Int32))), .val (.int ((p0.toUInt32 >>> ((10 : Int32) &&& 31).toUInt32).toInt32 &&& (255 : Int32))), .val (.int ((p0.toUInt32 >>> ((18 : Int32) &&& 31).toUInt32).toInt32 &&& (255 : Int32))), .val (.int (p1 &&& (3 : Int32))), .unset, .unset, .unset, .unset, .unset, .unset, .unset, .unset, .unset, .unset]) rfl k) ?_
  show Gl p.tables e below s₁ (mkF m 41 #[.val (.int p0), .val (.int p1), .val (.int p2), .val (.int (p0 &&& (3 : Int32))), .val (.int ((p0.toUInt32 >>> ((2 : Int32) &&& 31).toUInt32).toInt32 &&& (255 : Int32))), .val (.int ((p0.toUInt32 >>> ((10 : Int32) &&& 31).toUInt32).toInt32 &&& (255 : Int32))), .val (.int ((p0.toUInt32 >>> ((18 : Int32) &&& 31).toUInt32).toInt32 &&& (255 : Int32))), .val (.int (p1 &&& (3 : Int32))), .unset, .unset, .unset, .unset, .unset, .unset, .unset, .unset, .unset, .unset] []) G
  refine Gl.via (fun _ k => XS.iloadN X0.here hx rfl (hb hby at_41) rfl k) ?_
  show Gl p.tables e below s₁ (mkF m 42 #[.val (.int p0), .val (.int p1), .val (.int p2), .val (.int (p0 &&& (3 : Int32))), .val (.int ((p0.toUInt32 >>> ((2 : Int32) &&& 31).toUInt32).toInt32 &&& (255 : Int32))), .val (.int ((p0.toUInt32 >>> ((10 : Int32) &&& 31).toUInt32).toInt32 &&& (255 : Int32))), .val (.int ((p0.toUInt32 >>> ((18 : Int32) &&& 31).toUInt32).toInt32 &&& (255 : Int32))), .val (.int (p1 &&& (3 : Int32))), .unset, .unset, .unset, .unset, .unset, .unset, .unset, .unset, .unset, .unset] [(.int p1)]) G
  refine Gl.via (fun _ k => XS.iconst X0.here hx rfl (hb hby at_42) k) ?_
  show Gl p.tables e below s₁ (mkF m 43 #[.val (.int p0), .val (.int p1), .val (.int p2), .val (.int (p0 &&& (3 : Int32))), .val (.int ((p0.toUInt32 >>> ((2 : Int32) &&& 31).toUInt32).toInt32 &&& (255 : Int32))), .val (.int ((p0.toUInt32 >>> ((10 : Int32) &&& 31).toUInt32).toInt32 &&& (255 : Int32))), .val (.int ((p0.toUInt32 >>> ((18 : Int32) &&& 31).toUInt32).toInt32 &&& (255 : Int32))), .val (.int (p1 &&& (3 : Int32))), .unset, .unset, .unset, .unset, .unset, .unset, .unset, .unset, .unset, .unset] [(.int (2 : Int32)), (.int p1)]) G
  refine Gl.via (fun _ k => XS.iushr X0.here hx rfl (hb hby at_43) rfl k) ?_
  show Gl p.tables e below s₁ (mkF m 44 #[.val (.int p0), .val (.int p1), .val (.int p2), .val (.int (p0 &&& (3 : Int32))), .val (.int ((p0.toUInt32 >>> ((2 : Int32) &&& 31).toUInt32).toInt32 &&& (255 : Int32))), .val (.int ((p0.toUInt32 >>> ((10 : Int32) &&& 31).toUInt32).toInt32 &&& (255 : Int32))), .val (.int ((p0.toUInt32 >>> ((18 : Int32) &&& 31).toUInt32).toInt32 &&& (255 : Int32))), .val (.int (p1 &&& (3 : Int32))), .unset, .unset, .unset, .unset, .unset, .unset, .unset, .unset, .unset, .unset] [(.int ((p1.toUInt32 >>> ((2 : Int32) &&& 31).toUInt32).toInt32))]) G
  refine Gl.via (fun _ k => XS.sipush X0.here hx rfl (hb hby at_44) k) ?_
  show Gl p.tables e below s₁ (mkF m 47 #[.val (.int p0), .val (.int p1), .val (.int p2), .val (.int (p0 &&& (3 : Int32))), .val (.int ((p0.toUInt32 >>> ((2 : Int32) &&& 31).toUInt32).toInt32 &&& (255 : Int32))), .val (.int ((p0.toUInt32 >>> ((10 : Int32) &&& 31).toUInt32).toInt32 &&& (255 : Int32))), .val (.int ((p0.toUInt32 >>> ((18 : Int32) &&& 31).toUInt32).toInt32 &&& (255 : Int32))), .val (.int (p1 &&& (3 : Int32))), .unset, .unset, .unset, .unset, .unset, .unset, .unset, .unset, .unset, .unset] [(.int (255 : Int32)), (.int ((p1.toUInt32 >>> ((2 : Int32) &&& 31).toUInt32).toInt32))]) G
  refine Gl.via (fun _ k => XS.iand X0.here hx rfl (hb hby at_47) rfl k) ?_
  show Gl p.tables e below s₁ (mkF m 48 #[.val (.int p0), .val (.int p1), .val (.int p2), .val (.int (p0 &&& (3 : Int32))), .val (.int ((p0.toUInt32 >>> ((2 : Int32) &&& 31).toUInt32).toInt32 &&& (255 : Int32))), .val (.int ((p0.toUInt32 >>> ((10 : Int32) &&& 31).toUInt32).toInt32 &&& (255 : Int32))), .val (.int ((p0.toUInt32 >>> ((18 : Int32) &&& 31).toUInt32).toInt32 &&& (255 : Int32))), .val (.int (p1 &&& (3 : Int32))), .unset, .unset, .unset, .unset, .unset, .unset, .unset, .unset, .unset, .unset] [(.int (((p1.toUInt32 >>> ((2 : Int32) &&& 31).toUInt32).toInt32) &&& (255 : Int32)))]) G
  refine Gl.via (fun _ k => XS.i2c X0.here hx rfl (hb hby at_48) rfl k) ?_
  show Gl p.tables e below s₁ (mkF m 49 #[.val (.int p0), .val (.int p1), .val (.int p2), .val (.int (p0 &&& (3 : Int32))), .val (.int ((p0.toUInt32 >>> ((2 : Int32) &&& 31).toUInt32).toInt32 &&& (255 : Int32))), .val (.int ((p0.toUInt32 >>> ((10 : Int32) &&& 31).toUInt32).toInt32 &&& (255 : Int32))), .val (.int ((p0.toUInt32 >>> ((18 : Int32) &&& 31).toUInt32).toInt32 &&& (255 : Int32))), .val (.int (p1 &&& (3 : Int32))), .unset, .unset, .unset, .unset, .unset, .unset, .unset, .unset, .unset, .unset] [(.int ((((p1.toUInt32 >>> ((2 : Int32) &&& 31).toUInt32).toInt32) &&& (255 : Int32)).toUInt32.toUInt16.toUInt32.toInt32))]) G
  rw [show ((((p1.toUInt32 >>> ((2 : Int32) &&& 31).toUInt32).toInt32) &&& (255 : Int32)).toUInt32.toUInt16.toUInt32.toInt32) = ((p1.toUInt32 >>> ((2 : Int32) &&& 31).toUInt32).toInt32 &&& (255 : Int32)) from (i2c_mask _)]
  show Gl p.tables e below s₁ (mkF m 49 #[.val (.int p0), .val (.int p1), .val (.int p2), .val (.int (p0 &&& (3 : Int32))), .val (.int ((p0.toUInt32 >>> ((2 : Int32) &&& 31).toUInt32).toInt32 &&& (255 : Int32))), .val (.int ((p0.toUInt32 >>> ((10 : Int32) &&& 31).toUInt32).toInt32 &&& (255 : Int32))), .val (.int ((p0.toUInt32 >>> ((18 : Int32) &&& 31).toUInt32).toInt32 &&& (255 : Int32))), .val (.int (p1 &&& (3 : Int32))), .unset, .unset, .unset, .unset, .unset, .unset, .unset, .unset, .unset, .unset] [(.int ((p1.toUInt32 >>> ((2 : Int32) &&& 31).toUInt32).toInt32 &&& (255 : Int32)))]) G
  refine Gl.via (fun _ k => XS.istore X0.here hx rfl (hb hby at_49) rfl (l' := #[.val (.int p0), .val (.int p1), .val (.int p2), .val (.int (p0 &&& (3 : Int32))), .val (.int ((p0.toUInt32 >>> ((2 : Int32) &&& 31).toUInt32).toInt32 &&& (255 : Int32))), .val (.int ((p0.toUInt32 >>> ((10 : Int32) &&& 31).toUInt32).toInt32 &&& (255 : Int32))), .val (.int ((p0.toUInt32 >>> ((18 : Int32) &&& 31).toUInt32).toInt32 &&& (255 : Int32))), .val (.int (p1 &&& (3 : Int32))), .val (.int ((p1.toUInt32 >>> ((2 : Int32) &&& 31).toUInt32).toInt32 &&& (255 : Int32))), .unset, .unset, .unset, .unset, .unset, .unset, .unset, .unset, .unset]) rfl k) ?_
  show Gl p.tables e below s₁ (mkF m 51 #[.val (.int p0), .val (.int p1), .val (.int p2), .val (.int (p0 &&& (3 : Int32))), .val (.int ((p0.toUInt32 >>> ((2 : Int32) &&& 31).toUInt32).toInt32 &&& (255 : Int32))), .val (.int ((p0.toUInt32 >>> ((10 : Int32) &&& 31).toUInt32).toInt32 &&& (255 : Int32))), .val (.int ((p0.toUInt32 >>> ((18 : Int32) &&& 31).toUInt32).toInt32 &&& (255 : Int32))), .val (.int (p1 &&& (3 : Int32))), .val (.int ((p1.toUInt32 >>> ((2 : Int32) &&& 31).toUInt32).toInt32 &&& (255 : Int32))), .unset, .unset, .unset, .unset, .unset, .unset, .unset, .unset, .unset] []) G
  refine Gl.via (fun _ k => XS.iloadN X0.here hx rfl (hb hby at_51) rfl k) ?_
  show Gl p.tables e below s₁ (mkF m 52 #[.val (.int p0), .val (.int p1), .val (.int p2), .val (.int (p0 &&& (3 : Int32))), .val (.int ((p0.toUInt32 >>> ((2 : Int32) &&& 31).toUInt32).toInt32 &&& (255 : Int32))), .val (.int ((p0.toUInt32 >>> ((10 : Int32) &&& 31).toUInt32).toInt32 &&& (255 : Int32))), .val (.int ((p0.toUInt32 >>> ((18 : Int32) &&& 31).toUInt32).toInt32 &&& (255 : Int32))), .val (.int (p1 &&& (3 : Int32))), .val (.int ((p1.toUInt32 >>> ((2 : Int32) &&& 31).toUInt32).toInt32 &&& (255 : Int32))), .unset, .unset, .unset, .unset, .unset, .unset, .unset, .unset, .unset] [(.int p1)]) G
  refine Gl.via (fun _ k => XS.bipush X0.here hx rfl (hb hby at_52) k) ?_
  show Gl p.tables e below s₁ (mkF m 54 #[.val (.int p0), .val (.int p1), .val (.int p2), .val (.int (p0 &&& (3 : Int32))), .val (.int ((p0.toUInt32 >>> ((2 : Int32) &&& 31).toUInt32).toInt32 &&& (255 : Int32))), .val (.int ((p0.toUInt32 >>> ((10 : Int32) &&& 31).toUInt32).toInt32 &&& (255 : Int32))), .val (.int ((p0.toUInt32 >>> ((18 : Int32) &&& 31).toUInt32).toInt32 &&& (255 : Int32))), .val (.int (p1 &&& (3 : Int32))), .val (.int ((p1.toUInt32 >>> ((2 : Int32) &&& 31).toUInt32).toInt32 &&& (255 : Int32))), .unset, .unset, .unset, .unset, .unset, .unset, .unset, .unset, .unset] [(.int (10 : Int32)), (.int p1)]) G
  refine Gl.via (fun _ k => XS.iushr X0.here hx rfl (hb hby at_54) rfl k) ?_
  show Gl p.tables e below s₁ (mkF m 55 #[.val (.int p0), .val (.int p1), .val (.int p2), .val (.int (p0 &&& (3 : Int32))), .val (.int ((p0.toUInt32 >>> ((2 : Int32) &&& 31).toUInt32).toInt32 &&& (255 : Int32))), .val (.int ((p0.toUInt32 >>> ((10 : Int32) &&& 31).toUInt32).toInt32 &&& (255 : Int32))), .val (.int ((p0.toUInt32 >>> ((18 : Int32) &&& 31).toUInt32).toInt32 &&& (255 : Int32))), .val (.int (p1 &&& (3 : Int32))), .val (.int ((p1.toUInt32 >>> ((2 : Int32) &&& 31).toUInt32).toInt32 &&& (255 : Int32))), .unset, .unset, .unset, .unset, .unset, .unset, .unset, .unset, .unset] [(.int ((p1.toUInt32 >>> ((10 : Int32) &&& 31).toUInt32).toInt32))]) G
  refine Gl.via (fun _ k => XS.sipush X0.here hx rfl (hb hby at_55) k) ?_
  show Gl p.tables e below s₁ (mkF m 58 #[.val (.int p0), .val (.int p1), .val (.int p2), .val (.int (p0 &&& (3 : Int32))), .val (.int ((p0.toUInt32 >>> ((2 : Int32) &&& 31).toUInt32).toInt32 &&& (255 : Int32))), .val (.int ((p0.toUInt32 >>> ((10 : Int32) &&& 31).toUInt32).toInt32 &&& (255 : Int32))), .val (.int ((p0.toUInt32 >>> ((18 : Int32) &&& 31).toUInt32).toInt32 &&& (255 : Int32))), .val (.int (p1 &&& (3 : Int32))), .val (.int ((p1.toUInt32 >>> ((2 : Int32) &&& 31).toUInt32).toInt32 &&& (255 : Int32))), .unset, .unset, .unset, .unset, .unset, .unset, .unset, .unset, .unset] [(.int (255 : Int32)), (.int ((p1.toUInt32 >>> ((10 : Int32) &&& 31).toUInt32).toInt32))]) G
  refine Gl.via (fun _ k => XS.iand X0.here hx rfl (hb hby at_58) rfl k) ?_
  show Gl p.tables e below s₁ (mkF m 59 #[.val (.int p0), .val (.int p1), .val (.int p2), .val (.int (p0 &&& (3 : Int32))), .val (.int ((p0.toUInt32 >>> ((2 : Int32) &&& 31).toUInt32).toInt32 &&& (255 : Int32))), .val (.int ((p0.toUInt32 >>> ((10 : Int32) &&& 31).toUInt32).toInt32 &&& (255 : Int32))), .val (.int ((p0.toUInt32 >>> ((18 : Int32) &&& 31).toUInt32).toInt32 &&& (255 : Int32))), .val (.int (p1 &&& (3 : Int32))), .val (.int ((p1.toUInt32 >>> ((2 : Int32) &&& 31).toUInt32).toInt32 &&& (255 : Int32))), .unset, .unset, .unset, .unset, .unset, .unset, .unset, .unset, .unset] [(.int (((p1.toUInt32 >>> ((10 : Int32) &&& 31).toUInt32).toInt32) &&& (255 : Int32)))]) G
  refine Gl.via (fun _ k => XS.i2c X0.here hx rfl (hb hby at_59) rfl k) ?_
  show Gl p.tables e below s₁ (mkF m 60 #[.val (.int p0), .val (.int p1), .val (.int p2), .val (.int (p0 &&& (3 : Int32))), .val (.int ((p0.toUInt32 >>> ((2 : Int32) &&& 31).toUInt32).toInt32 &&& (255 : Int32))), .val (.int ((p0.toUInt32 >>> ((10 : Int32) &&& 31).toUInt32).toInt32 &&& (255 : Int32))), .val (.int ((p0.toUInt32 >>> ((18 : Int32) &&& 31).toUInt32).toInt32 &&& (255 : Int32))), .val (.int (p1 &&& (3 : Int32))), .val (.int ((p1.toUInt32 >>> ((2 : Int32) &&& 31).toUInt32).toInt32 &&& (255 : Int32))), .unset, .unset, .unset, .unset, .unset, .unset, .unset, .unset, .unset] [(.int ((((p1.toUInt32 >>> ((10 : Int32) &&& 31).toUInt32).toInt32) &&& (255 : Int32)).toUInt32.toUInt16.toUInt32.toInt32))]) G
  rw [show ((((p1.toUInt32 >>> ((10 : Int32) &&& 31).toUInt32).toInt32) &&& (255 : Int32)).toUInt32.toUInt16.toUInt32.toInt32) = ((p1.toUInt32 >>> ((10 : Int32) &&& 31).toUInt32).toInt32 &&& (255 : Int32)) from (i2c_mask _)]
  show Gl p.tables e below s₁ (mkF m 60 #[.val (.int p0), .val (.int p1), .val (.int p2), .val (.int (p0 &&& (3 : Int32))), .val (.int ((p0.toUInt32 >>> ((2 : Int32) &&& 31).toUInt32).toInt32 &&& (255 : Int32))), .val (.int ((p0.toUInt32 >>> ((10 : Int32) &&& 31).toUInt32).toInt32 &&& (255 : Int32))), .val (.int ((p0.toUInt32 >>> ((18 : Int32) &&& 31).toUInt32).toInt32 &&& (255 : Int32))), .val (.int (p1 &&& (3 : Int32))), .val (.int ((p1.toUInt32 >>> ((2 : Int32) &&& 31).toUInt32).toInt32 &&& (255 : Int32))), .unset, .unset, .unset, .unset, .unset, .unset, .unset, .unset, .unset] [(.int ((p1.toUInt32 >>> ((10 : Int32) &&& 31).toUInt32).toInt32 &&& (255 : Int32)))]) G
  refine Gl.via (fun _ k => XS.istore X0.here hx rfl (hb hby at_60) rfl (l' := #[.val (.int p0), .val (.int p1), .val (.int p2), .val (.int (p0 &&& (3 : Int32))), .val (.int ((p0.toUInt32 >>> ((2 : Int32) &&& 31).toUInt32).toInt32 &&& (255 : Int32))), .val (.int ((p0.toUInt32 >>> ((10 : Int32) &&& 31).toUInt32).toInt32 &&& (255 : Int32))), .val (.int ((p0.toUInt32 >>> ((18 : Int32) &&& 31).toUInt32).toInt32 &&& (255 : Int32))), .val (.int (p1 &&& (3 : Int32))), .val (.int ((p1.toUInt32 >>> ((2 : Int32) &&& 31).toUInt32).toInt32 &&& (255 : Int32))), .val (.int ((p1.toUInt32 >>> ((10 : Int32) &&& 31).toUInt32).toInt32 &&& (255 : Int32))), .unset, .unset, .unset, .unset, .unset, .unset, .unset, .unset]) rfl k) ?_
  show Gl p.tables e below s₁ (mkF m 62 #[.val (.int p0), .val (.int p1), .val (.int p2), .val (.int (p0 &&& (3 : Int32))), .val (.int ((p0.toUInt32 >>> ((2 : Int32) &&& 31).toUInt32).toInt32 &&& (255 : Int32))), .val (.int ((p0.toUInt32 >>> ((10 : Int32) &&& 31).toUInt32).toInt32 &&& (255 : Int32))), .val (.int ((p0.toUInt32 >>> ((18 : Int32) &&& 31).toUInt32).toInt32 &&& (255 : Int32))), .val (.int (p1 &&& (3 : Int32))), .val (.int ((p1.toUInt32 >>> ((2 : Int32) &&& 31).toUInt32).toInt32 &&& (255 : Int32))), .val (.int ((p1.toUInt32 >>> ((10 : Int32) &&& 31).toUInt32).toInt32 &&& (255 : Int32))), .unset, .unset, .unset, .unset, .unset, .unset, .unset, .unset] []) G
  refine Gl.via (fun _ k => XS.iloadN X0.here hx rfl (hb hby at_62) rfl k) ?_
  show Gl p.tables e below s₁ (mkF m 63 #[.val (.int p0), .val (.int p1), .val (.int p2), .val (.int (p0 &&& (3 : Int32))), .val (.int ((p0.toUInt32 >>> ((2 : Int32) &&& 31).toUInt32).toInt32 &&& (255 : Int32))), .val (.int ((p0.toUInt32 >>> ((10 : Int32) &&& 31).toUInt32).toInt32 &&& (255 : Int32))), .val (.int ((p0.toUInt32 >>> ((18 : Int32) &&& 31).toUInt32).toInt32 &&& (255 : Int32))), .val (.int (p1 &&& (3 : Int32))), .val (.int ((p1.toUInt32 >>> ((2 : Int32) &&& 31).toUInt32).toInt32 &&& (255 : Int32))), .val (.int ((p1.toUInt32 >>> ((10 : Int32) &&& 31).toUInt32).toInt32 &&& (255 : Int32))), .unset, .unset, .unset, .unset, .unset, .unset, .unset, .unset] [(.int p1)]) G
  refine Gl.via (fun _ k => XS.bipush X0.here hx rfl (hb hby at_63) k) ?_
  show Gl p.tables e below s₁ (mkF m 65 #[.val (.int p0), .val (.int p1), .val (.int p2), .val (.int (p0 &&& (3 : Int32))), .val (.int ((p0.toUInt32 >>> ((2 : Int32) &&& 31).toUInt32).toInt32 &&& (255 : Int32))), .val (.int ((p0.toUInt32 >>> ((10 : Int32) &&& 31).toUInt32).toInt32 &&& (255 : Int32))), .val (.int ((p0.toUInt32 >>> ((18 : Int32) &&& 31).toUInt32).toInt32 &&& (255 : Int32))), .val (.int (p1 &&& (3 : Int32))), .val (.int ((p1.toUInt32 >>> ((2 : Int32) &&& 31).toUInt32).toInt32 &&& (255 : Int32))), .val (.int ((p1.toUInt32 >>> ((10 : Int32) &&& 31).toUInt32).toInt32 &&& (255 : Int32))), .unset, .unset, .unset, .unset, .unset, .unset, .unset, .unset] [(.int (18 : Int32)), (.int p1)]) G
  refine Gl.via (fun _ k => XS.iushr X0.here hx rfl (hb hby at_65) rfl k) ?_
  show Gl p.tables e below s₁ (mkF m 66 #[.val (.int p0), .val (.int p1), .val (.int p2), .val (.int (p0 &&& (3 : Int32))), .val (.int ((p0.toUInt32 >>> ((2 : Int32) &&& 31).toUInt32).toInt32 &&& (255 : Int32))), .val (.int ((p0.toUInt32 >>> ((10 : Int32) &&& 31).toUInt32).toInt32 &&& (255 : Int32))), .val (.int ((p0.toUInt32 >>> ((18 : Int32) &&& 31).toUInt32).toInt32 &&& (255 : Int32))), .val (.int (p1 &&& (3 : Int32))), .val (.int ((p1.toUInt32 >>> ((2 : Int32) &&& 31).toUInt32).toInt32 &&& (255 : Int32))), .val (.int ((p1.toUInt32 >>> ((10 : Int32) &&& 31).toUInt32).toInt32 &&& (255 : Int32))), .unset, .unset, .unset, .unset, .unset, .unset, .unset, .unset] [(.int ((p1.toUInt32 >>> ((18 : Int32) &&& 31).toUInt32).toInt32))]) G
  refine Gl.via (fun _ k => XS.sipush X0.here hx rfl (hb hby at_66) k) ?_
  show Gl p.tables e below s₁ (mkF m 69 #[.val (.int p0), .val (.int p1), .val (.int p2), .val (.int (p0 &&& (3 : Int32))), .val (.int ((p0.toUInt32 >>> ((2 : Int32) &&& 31).toUInt32).toInt32 &&& (255 : Int32))), .val (.int ((p0.toUInt32 >>> ((10 : Int32) &&& 31).toUInt32).toInt32 &&& (255 : Int32))), .val (.int ((p0.toUInt32 >>> ((18 : Int32) &&& 31).toUInt32).toInt32 &&& (255 : Int32))), .val (.int (p1 &&& (3 : Int32))), .val (.int ((p1.toUInt32 >>> ((2 : Int32) &&& 31).toUInt32).toInt32 &&& (255 : Int32))), .val (.int ((p1.toUInt32 >>> ((10 : Int32) &&& 31).toUInt32).toInt32 &&& (255 : Int32))), .unset, .unset, .unset, .unset, .unset, .unset, .unset, .unset] [(.int (255 : Int32)), (.int ((p1.toUInt32 >>> ((18 : Int32) &&& 31).toUInt32).toInt32))]) G
  refine Gl.via (fun _ k => XS.iand X0.here hx rfl (hb hby at_69) rfl k) ?_
  show Gl p.tables e below s₁ (mkF m 70 #[.val (.int p0), .val (.int p1), .val (.int p2), .val (.int (p0 &&& (3 : Int32))), .val (.int ((p0.toUInt32 >>> ((2 : Int32) &&& 31).toUInt32).toInt32 &&& (255 : Int32))), .val (.int ((p0.toUInt32 >>> ((10 : Int32) &&& 31).toUInt32).toInt32 &&& (255 : Int32))), .val (.int ((p0.toUInt32 >>> ((18 : Int32) &&& 31).toUInt32).toInt32 &&& (255 : Int32))), .val (.int (p1 &&& (3 : Int32))), .val (.int ((p1.toUInt32 >>> ((2 : Int32) &&& 31).toUInt32).toInt32 &&& (255 : Int32))), .val (.int ((p1.toUInt32 >>> ((10 : Int32) &&& 31).toUInt32).toInt32 &&& (255 : Int32))), .unset, .unset, .unset, .unset, .unset, .unset, .unset, .unset] [(.int (((p1.toUInt32 >>> ((18 : Int32) &&& 31).toUInt32).toInt32) &&& (255 : Int32)))]) G
  refine Gl.via (fun _ k => XS.i2c X0.here hx rfl (hb hby at_70) rfl k) ?_
  show Gl p.tables e below s₁ (mkF m 71 #[.val (.int p0), .val (.int p1), .val (.int p2), .val (.int (p0 &&& (3 : Int32))), .val (.int ((p0.toUInt32 >>> ((2 : Int32) &&& 31).toUInt32).toInt32 &&& (255 : Int32))), .val (.int ((p0.toUInt32 >>> ((10 : Int32) &&& 31).toUInt32).toInt32 &&& (255 : Int32))), .val (.int ((p0.toUInt32 >>> ((18 : Int32) &&& 31).toUInt32).toInt32 &&& (255 : Int32))), .val (.int (p1 &&& (3 : Int32))), .val (.int ((p1.toUInt32 >>> ((2 : Int32) &&& 31).toUInt32).toInt32 &&& (255 : Int32))), .val (.int ((p1.toUInt32 >>> ((10 : Int32) &&& 31).toUInt32).toInt32 &&& (255 : Int32))), .unset, .unset, .unset, .unset, .unset, .unset, .unset, .unset] [(.int ((((p1.toUInt32 >>> ((18 : Int32) &&& 31).toUInt32).toInt32) &&& (255 : Int32)).toUInt32.toUInt16.toUInt32.toInt32))]) G
  rw [show ((((p1.toUInt32 >>> ((18 : Int32) &&& 31).toUInt32).toInt32) &&& (255 : Int32)).toUInt32.toUInt16.toUInt32.toInt32) = ((p1.toUInt32 >>> ((18 : Int32) &&& 31).toUInt32).toInt32 &&& (255 : Int32)) from (i2c_mask _)]
  show Gl p.tables e below s₁ (mkF m 71 #[.val (.int p0), .val (.int p1), .val (.int p2), .val (.int (p0 &&& (3 : Int32))), .val (.int ((p0.toUInt32 >>> ((2 : Int32) &&& 31).toUInt32).toInt32 &&& (255 : Int32))), .val (.int ((p0.toUInt32 >>> ((10 : Int32) &&& 31).toUInt32).toInt32 &&& (255 : Int32))), .val (.int ((p0.toUInt32 >>> ((18 : Int32) &&& 31).toUInt32).toInt32 &&& (255 : Int32))), .val (.int (p1 &&& (3 : Int32))), .val (.int ((p1.toUInt32 >>> ((2 : Int32) &&& 31).toUInt32).toInt32 &&& (255 : Int32))), .val (.int ((p1.toUInt32 >>> ((10 : Int32) &&& 31).toUInt32).toInt32 &&& (255 : Int32))), .unset, .unset, .unset, .unset, .unset, .unset, .unset, .unset] [(.int ((p1.toUInt32 >>> ((18 : Int32) &&& 31).toUInt32).toInt32 &&& (255 : Int32)))]) G
  refine Gl.via (fun _ k => XS.istore X0.here hx rfl (hb hby at_71) rfl (l' := #[.val (.int p0), .val (.int p1), .val (.int p2), .val (.int (p0 &&& (3 : Int32))), .val (.int ((p0.toUInt32 >>> ((2 : Int32) &&& 31).toUInt32).toInt32 &&& (255 : Int32))), .val (.int ((p0.toUInt32 >>> ((10 : Int32) &&& 31).toUInt32).toInt32 &&& (255 : Int32))), .val (.int ((p0.toUInt32 >>> ((18 : Int32) &&& 31).toUInt32).toInt32 &&& (255 : Int32))), .val (.int (p1 &&& (3 : Int32))), .val (.int ((p1.toUInt32 >>> ((2 : Int32) &&& 31).toUInt32).toInt32 &&& (255 : Int32))), .val (.int ((p1.toUInt32 >>> ((10 : Int32) &&& 31).toUInt32).toInt32 &&& (255 : Int32))), .val (.int ((p1.toUInt32 >>> ((18 : Int32) &&& 31).toUInt32).toInt32 &&& (255 : Int32))), .unset, .unset, .unset, .unset, .unset, .unset, .unset]) rfl k) ?_
  show Gl p.tables e below s₁ (mkF m 73 #[.val (.int p0), .val (.int p1), .val (.int p2), .val (.int (p0 &&& (3 : Int32))), .val (.int ((p0.toUInt32 >>> ((2 : Int32) &&& 31).toUInt32).toInt32 &&& (255 : Int32))), .val (.int ((p0.toUInt32 >>> ((10 : Int32) &&& 31).toUInt32).toInt32 &&& (255 : Int32))), .val (.int ((p0.toUInt32 >>> ((18 : Int32) &&& 31).toUInt32).toInt32 &&& (255 : Int32))), .val (.int (p1 &&& (3 : Int32))), .val (.int ((p1.toUInt32 >>> ((2 : Int32) &&& 31).toUInt32).toInt32 &&& (255 : Int32))), .val (.int ((p1.toUInt32 >>> ((10 : Int32) &&& 31).toUInt32).toInt32 &&& (255 : Int32))), .val (.int ((p1.toUInt32 >>> ((18 : Int32) &&& 31).toUInt32).toInt32 &&& (255 : Int32))), .unset, .unset, .unset, .unset, .unset, .unset, .unset] []) G
  refine Gl.via (fun _ k => XS.iloadN X0.here hx rfl (hb hby at_73) rfl k) ?_
  show Gl p.tables e below s₁ (mkF m 74 #[.val (.int p0), .val (.int p1), .val (.int p2), .val (.int (p0 &&& (3 : Int32))), .val (.int ((p0.toUInt32 >>> ((2 : Int32) &&& 31).toUInt32).toInt32 &&& (255 : Int32))), .val (.int ((p0.toUInt32 >>> ((10 : Int32) &&& 31).toUInt32).toInt32 &&& (255 : Int32))), .val (.int ((p0.toUInt32 >>> ((18 : Int32) &&& 31).toUInt32).toInt32 &&& (255 : Int32))), .val (.int (p1 &&& (3 : Int32))), .val (.int ((p1.toUInt32 >>> ((2 : Int32) &&& 31).toUInt32).toInt32 &&& (255 : Int32))), .val (.int ((p1.toUInt32 >>> ((10 : Int32) &&& 31).toUInt32).toInt32 &&& (255 : Int32))), .val (.int ((p1.toUInt32 >>> ((18 : Int32) &&& 31).toUInt32).toInt32 &&& (255 : Int32))), .unset, .unset, .unset, .unset, .unset, .unset, .unset] [(.int (p0 &&& (3 : Int32)))]) G
  refine Gl.via (fun _ k => XS.iload X0.here hx rfl (hb hby at_74) rfl k) ?_
  show Gl p.tables e below s₁ (mkF m 76 #[.val (.int p0), .val (.int p1), .val (.int p2), .val (.int (p0 &&& (3 : Int32))), .val (.int ((p0.toUInt32 >>> ((2 : Int32) &&& 31).toUInt32).toInt32 &&& (255 : Int32))), .val (.int ((p0.toUInt32 >>> ((10 : Int32) &&& 31).toUInt32).toInt32 &&& (255 : Int32))), .val (.int ((p0.toUInt32 >>> ((18 : Int32) &&& 31).toUInt32).toInt32 &&& (255 : Int32))), .val (.int (p1 &&& (3 : Int32))), .val (.int ((p1.toUInt32 >>> ((2 : Int32) &&& 31).toUInt32).toInt32 &&& (255 : Int32))), .val (.int ((p1.toUInt32 >>> ((10 : Int32) &&& 31).toUInt32).toInt32 &&& (255 : Int32))), .val (.int ((p1.toUInt32 >>> ((18 : Int32) &&& 31).toUInt32).toInt32 &&& (255 : Int32))), .unset, .unset, .unset, .unset, .unset, .unset, .unset] [(.int ((p0.toUInt32 >>> ((2 : Int32) &&& 31).toUInt32).toInt32 &&& (255 : Int32))), (.int (p0 &&& (3 : Int32)))]) G
  refine Gl.via (fun _ k => XS.iload X0.here hx rfl (hb hby at_76) rfl k) ?_
  show Gl p.tables e below s₁ (mkF m 78 #[.val (.int p0), .val (.int p1), .val (.int p2), .val (.int (p0 &&& (3 : Int32))), .val (.int ((p0.toUInt32 >>> ((2 : Int32) &&& 31).toUInt32).toInt32 &&& (255 : Int32))), .val (.int ((p0.toUInt32 >>> ((10 : Int32) &&& 31).toUInt32).toInt32 &&& (255 : Int32))), .val (.int ((p0.toUInt32 >>> ((18 : Int32) &&& 31).toUInt32).toInt32 &&& (255 : Int32))), .val (.int (p1 &&& (3 : Int32))), .val (.int ((p1.toUInt32 >>> ((2 : Int32) &&& 31).toUInt32).toInt32 &&& (255 : Int32))), .val (.int ((p1.toUInt32 >>> ((10 : Int32) &&& 31).toUInt32).toInt32 &&& (255 : Int32))), .val (.int ((p1.toUInt32 >>> ((18 : Int32) &&& 31).toUInt32).toInt32 &&& (255 : Int32))), .unset, .unset, .unset, .unset, .unset, .unset, .unset] [(.int ((p0.toUInt32 >>> ((10 : Int32) &&& 31).toUInt32).toInt32 &&& (255 : Int32))), (.int ((p0.toUInt32 >>> ((2 : Int32) &&& 31).toUInt32).toInt32 &&& (255 : Int32))), (.int (p0 &&& (3 : Int32)))]) G
  refine Gl.via (fun _ k => XS.iload X0.here hx rfl (hb hby at_78) rfl k) ?_
  show Gl p.tables e below s₁ (mkF m 80 #[.val (.int p0), .val (.int p1), .val (.int p2), .val (.int (p0 &&& (3 : Int32))), .val (.int ((p0.toUInt32 >>> ((2 : Int32) &&& 31).toUInt32).toInt32 &&& (255 : Int32))), .val (.int ((p0.toUInt32 >>> ((10 : Int32) &&& 31).toUInt32).toInt32 &&& (255 : Int32))), .val (.int ((p0.toUInt32 >>> ((18 : Int32) &&& 31).toUInt32).toInt32 &&& (255 : Int32))), .val (.int (p1 &&& (3 : Int32))), .val (.int ((p1.toUInt32 >>> ((2 : Int32) &&& 31).toUInt32).toInt32 &&& (255 : Int32))), .val (.int ((p1.toUInt32 >>> ((10 : Int32) &&& 31).toUInt32).toInt32 &&& (255 : Int32))), .val (.int ((p1.toUInt32 >>> ((18 : Int32) &&& 31).toUInt32).toInt32 &&& (255 : Int32))), .unset, .unset, .unset, .unset, .unset, .unset, .unset] [(.int ((p0.toUInt32 >>> ((18 : Int32) &&& 31).toUInt32).toInt32 &&& (255 : Int32))), (.int ((p0.toUInt32 >>> ((10 : Int32) &&& 31).toUInt32).toInt32 &&& (255 : Int32))), (.int ((p0.toUInt32 >>> ((2 : Int32) &&& 31).toUInt32).toInt32 &&& (255 : Int32))), (.int (p0 &&& (3 : Int32)))]) G
  obtain ⟨_, _, ⟨T1, L1, k1, n1⟩, -, Xb1, hSb1, hgb1, ⟨Lc1, hQ1, l1, y1, z1, hC1⟩, st1⟩ := callSS X0 hx (y := (⟨"candorpay/OptionSynopsisPinLaw", "make", "(ICCC)Ljava/lang/String;"⟩ : MethodName)) hown (mvT hZ (hw _ (List.mem_of_getElem? (i := 0) rfl))) (mvT hZ (hw _ (List.mem_of_getElem? (i := 1) rfl))) (mvT hZ (hw _ (List.mem_of_getElem? (i := 2) rfl))) (mvT hZ (hw _ (List.mem_of_getElem? (i := 3) rfl))) (by decide) (own_back (W := 0) (mkstr l Z a0 hw [] (p0 &&& (3 : Int32)) ((p0.toUInt32 >>> ((2 : Int32) &&& 31).toUInt32).toInt32 &&& (255 : Int32)) ((p0.toUInt32 >>> ((10 : Int32) &&& 31).toUInt32).toInt32 &&& (255 : Int32)) ((p0.toUInt32 >>> ((18 : Int32) &&& 31).toUInt32).toInt32 &&& (255 : Int32)) cps h0 n0 Z0 F0_java_lang_String F2_ hcps (own_mb _).2 (own_mb _).2 (own_mb _).2 (own_mb _).1 (own_mb _).1 (own_mb _).1) hZ (hw _ (List.mem_of_getElem? (i := 3) rfl)) (hw _ (List.mem_of_getElem? (i := 2) rfl)) (by decide) (by decide) hEL CR0.1 (fun _ z => nomatch z)) (g := (mkF m 80 #[.val (.int p0), .val (.int p1), .val (.int p2), .val (.int (p0 &&& (3 : Int32))), .val (.int ((p0.toUInt32 >>> ((2 : Int32) &&& 31).toUInt32).toInt32 &&& (255 : Int32))), .val (.int ((p0.toUInt32 >>> ((10 : Int32) &&& 31).toUInt32).toInt32 &&& (255 : Int32))), .val (.int ((p0.toUInt32 >>> ((18 : Int32) &&& 31).toUInt32).toInt32 &&& (255 : Int32))), .val (.int (p1 &&& (3 : Int32))), .val (.int ((p1.toUInt32 >>> ((2 : Int32) &&& 31).toUInt32).toInt32 &&& (255 : Int32))), .val (.int ((p1.toUInt32 >>> ((10 : Int32) &&& 31).toUInt32).toInt32 &&& (255 : Int32))), .val (.int ((p1.toUInt32 >>> ((18 : Int32) &&& 31).toUInt32).toInt32 &&& (255 : Int32))), .unset, .unset, .unset, .unset, .unset, .unset, .unset] [(.int ((p0.toUInt32 >>> ((18 : Int32) &&& 31).toUInt32).toInt32 &&& (255 : Int32))), (.int ((p0.toUInt32 >>> ((10 : Int32) &&& 31).toUInt32).toInt32 &&& (255 : Int32))), (.int ((p0.toUInt32 >>> ((2 : Int32) &&& 31).toUInt32).toInt32 &&& (255 : Int32))), (.int (p0 &&& (3 : Int32)))])) rfl (by rw [hml]; rfl) (argsL := [(.int (p0 &&& (3 : Int32))), (.int ((p0.toUInt32 >>> ((2 : Int32) &&& 31).toUInt32).toInt32 &&& (255 : Int32))), (.int ((p0.toUInt32 >>> ((10 : Int32) &&& 31).toUInt32).toInt32 &&& (255 : Int32))), (.int ((p0.toUInt32 >>> ((18 : Int32) &&& 31).toUInt32).toInt32 &&& (255 : Int32)))]) (rest := []) (lenOf pd_28 rfl) rfl (by show 2 * 0 + _ ≤ _; exact Nat.le_of_eq rfl) (hb hby at_80) (fun _ _ => ⟨rfl, e0, (by decide : 0 + 6 ≤ _), (by decide : 0 + 12 ≤ _)⟩)
  dsimp only [Pt.U, Pt.locs, Pt.cells, Pt.slots] at Xb1 hSb1 hgb1 l1 y1 z1 st1 hQ1 hC1
  subst l1 y1 z1
  obtain ⟨X1, hS1, hZ1, hown1⟩ := rebS hS0 (by rw [e0]; exact hk0) Xb1 hSb1 hgb1 hZ hown
  have hk1 : T1.heap.size ≤ T1.heap.size := Nat.le_refl _
  obtain ⟨sa_1, sb_1, sk_1, rfl, N1q, K1, P2, P3, P4, P5, R6⟩ := hQ1
  have N1_ := Fr.app N0 N1q
  refine Gl.via (fun _ k => st1.trans k) ?_
  have ge7 : n0 ≤ sa_1 := Nat.le_trans Z0 R6
  have gz8 : h0.size ≤ sa_1 := Nat.le_trans (Nat.le_refl h0.size) R6
  have CR9 : CHr Z own_EL s.vm h0 T1.vm T1.heap := CHr.trans CR0 hC1
  have Z10 : n0 ≤ T1.heap.size := Nat.le_trans Z0 K1.1
  have Y11 : h0.size ≤ T1.heap.size := Nat.le_trans (Nat.le_refl h0.size) K1.1
  have hl12 := Nat.le_trans hk0 K1.1
  show Gl p.tables e below T1 (mkF m 83 #[.val (.int p0), .val (.int p1), .val (.int p2), .val (.int (p0 &&& (3 : Int32))), .val (.int ((p0.toUInt32 >>> ((2 : Int32) &&& 31).toUInt32).toInt32 &&& (255 : Int32))), .val (.int ((p0.toUInt32 >>> ((10 : Int32) &&& 31).toUInt32).toInt32 &&& (255 : Int32))), .val (.int ((p0.toUInt32 >>> ((18 : Int32) &&& 31).toUInt32).toInt32 &&& (255 : Int32))), .val (.int (p1 &&& (3 : Int32))), .val (.int ((p1.toUInt32 >>> ((2 : Int32) &&& 31).toUInt32).toInt32 &&& (255 : Int32))), .val (.int ((p1.toUInt32 >>> ((10 : Int32) &&& 31).toUInt32).toInt32 &&& (255 : Int32))), .val (.int ((p1.toUInt32 >>> ((18 : Int32) &&& 31).toUInt32).toInt32 &&& (255 : Int32))), .unset, .unset, .unset, .unset, .unset, .unset, .unset] [(.ref sa_1)]) G
  refine Gl.via (fun _ k => XS.astore X1.here hx rfl (hb hby at_83) rfl rfl (l' := #[.val (.int p0), .val (.int p1), .val (.int p2), .val (.int (p0 &&& (3 : Int32))), .val (.int ((p0.toUInt32 >>> ((2 : Int32) &&& 31).toUInt32).toInt32 &&& (255 : Int32))), .val (.int ((p0.toUInt32 >>> ((10 : Int32) &&& 31).toUInt32).toInt32 &&& (255 : Int32))), .val (.int ((p0.toUInt32 >>> ((18 : Int32) &&& 31).toUInt32).toInt32 &&& (255 : Int32))), .val (.int (p1 &&& (3 : Int32))), .val (.int ((p1.toUInt32 >>> ((2 : Int32) &&& 31).toUInt32).toInt32 &&& (255 : Int32))), .val (.int ((p1.toUInt32 >>> ((10 : Int32) &&& 31).toUInt32).toInt32 &&& (255 : Int32))), .val (.int ((p1.toUInt32 >>> ((18 : Int32) &&& 31).toUInt32).toInt32 &&& (255 : Int32))), .val (.ref sa_1), .unset, .unset, .unset, .unset, .unset, .unset]) rfl k) ?_
  show Gl p.tables e below T1 (mkF m 85 #[.val (.int p0), .val (.int p1), .val (.int p2), .val (.int (p0 &&& (3 : Int32))), .val (.int ((p0.toUInt32 >>> ((2 : Int32) &&& 31).toUInt32).toInt32 &&& (255 : Int32))), .val (.int ((p0.toUInt32 >>> ((10 : Int32) &&& 31).toUInt32).toInt32 &&& (255 : Int32))), .val (.int ((p0.toUInt32 >>> ((18 : Int32) &&& 31).toUInt32).toInt32 &&& (255 : Int32))), .val (.int (p1 &&& (3 : Int32))), .val (.int ((p1.toUInt32 >>> ((2 : Int32) &&& 31).toUInt32).toInt32 &&& (255 : Int32))), .val (.int ((p1.toUInt32 >>> ((10 : Int32) &&& 31).toUInt32).toInt32 &&& (255 : Int32))), .val (.int ((p1.toUInt32 >>> ((18 : Int32) &&& 31).toUInt32).toInt32 &&& (255 : Int32))), .val (.ref sa_1), .unset, .unset, .unset, .unset, .unset, .unset] []) G
  refine Gl.via (fun _ k => XS.iload X1.here hx rfl (hb hby at_85) rfl k) ?_
  show Gl p.tables e below T1 (mkF m 87 #[.val (.int p0), .val (.int p1), .val (.int p2), .val (.int (p0 &&& (3 : Int32))), .val (.int ((p0.toUInt32 >>> ((2 : Int32) &&& 31).toUInt32).toInt32 &&& (255 : Int32))), .val (.int ((p0.toUInt32 >>> ((10 : Int32) &&& 31).toUInt32).toInt32 &&& (255 : Int32))), .val (.int ((p0.toUInt32 >>> ((18 : Int32) &&& 31).toUInt32).toInt32 &&& (255 : Int32))), .val (.int (p1 &&& (3 : Int32))), .val (.int ((p1.toUInt32 >>> ((2 : Int32) &&& 31).toUInt32).toInt32 &&& (255 : Int32))), .val (.int ((p1.toUInt32 >>> ((10 : Int32) &&& 31).toUInt32).toInt32 &&& (255 : Int32))), .val (.int ((p1.toUInt32 >>> ((18 : Int32) &&& 31).toUInt32).toInt32 &&& (255 : Int32))), .val (.ref sa_1), .unset, .unset, .unset, .unset, .unset, .unset] [(.int (p1 &&& (3 : Int32)))]) G
  refine Gl.via (fun _ k => XS.iload X1.here hx rfl (hb hby at_87) rfl k) ?_
  show Gl p.tables e below T1 (mkF m 89 #[.val (.int p0), .val (.int p1), .val (.int p2), .val (.int (p0 &&& (3 : Int32))), .val (.int ((p0.toUInt32 >>> ((2 : Int32) &&& 31).toUInt32).toInt32 &&& (255 : Int32))), .val (.int ((p0.toUInt32 >>> ((10 : Int32) &&& 31).toUInt32).toInt32 &&& (255 : Int32))), .val (.int ((p0.toUInt32 >>> ((18 : Int32) &&& 31).toUInt32).toInt32 &&& (255 : Int32))), .val (.int (p1 &&& (3 : Int32))), .val (.int ((p1.toUInt32 >>> ((2 : Int32) &&& 31).toUInt32).toInt32 &&& (255 : Int32))), .val (.int ((p1.toUInt32 >>> ((10 : Int32) &&& 31).toUInt32).toInt32 &&& (255 : Int32))), .val (.int ((p1.toUInt32 >>> ((18 : Int32) &&& 31).toUInt32).toInt32 &&& (255 : Int32))), .val (.ref sa_1), .unset, .unset, .unset, .unset, .unset, .unset] [(.int ((p1.toUInt32 >>> ((2 : Int32) &&& 31).toUInt32).toInt32 &&& (255 : Int32))), (.int (p1 &&& (3 : Int32)))]) G
  refine Gl.via (fun _ k => XS.iload X1.here hx rfl (hb hby at_89) rfl k) ?_
  show Gl p.tables e below T1 (mkF m 91 #[.val (.int p0), .val (.int p1), .val (.int p2), .val (.int (p0 &&& (3 : Int32))), .val (.int ((p0.toUInt32 >>> ((2 : Int32) &&& 31).toUInt32).toInt32 &&& (255 : Int32))), .val (.int ((p0.toUInt32 >>> ((10 : Int32) &&& 31).toUInt32).toInt32 &&& (255 : Int32))), .val (.int ((p0.toUInt32 >>> ((18 : Int32) &&& 31).toUInt32).toInt32 &&& (255 : Int32))), .val (.int (p1 &&& (3 : Int32))), .val (.int ((p1.toUInt32 >>> ((2 : Int32) &&& 31).toUInt32).toInt32 &&& (255 : Int32))), .val (.int ((p1.toUInt32 >>> ((10 : Int32) &&& 31).toUInt32).toInt32 &&& (255 : Int32))), .val (.int ((p1.toUInt32 >>> ((18 : Int32) &&& 31).toUInt32).toInt32 &&& (255 : Int32))), .val (.ref sa_1), .unset, .unset, .unset, .unset, .unset, .unset] [(.int ((p1.toUInt32 >>> ((10 : Int32) &&& 31).toUInt32).toInt32 &&& (255 : Int32))), (.int ((p1.toUInt32 >>> ((2 : Int32) &&& 31).toUInt32).toInt32 &&& (255 : Int32))), (.int (p1 &&& (3 : Int32)))]) G
  refine Gl.via (fun _ k => XS.iload X1.here hx rfl (hb hby at_91) rfl k) ?_
  show Gl p.tables e below T1 (mkF m 93 #[.val (.int p0), .val (.int p1), .val (.int p2), .val (.int (p0 &&& (3 : Int32))), .val (.int ((p0.toUInt32 >>> ((2 : Int32) &&& 31).toUInt32).toInt32 &&& (255 : Int32))), .val (.int ((p0.toUInt32 >>> ((10 : Int32) &&& 31).toUInt32).toInt32 &&& (255 : Int32))), .val (.int ((p0.toUInt32 >>> ((18 : Int32) &&& 31).toUInt32).toInt32 &&& (255 : Int32))), .val (.int (p1 &&& (3 : Int32))), .val (.int ((p1.toUInt32 >>> ((2 : Int32) &&& 31).toUInt32).toInt32 &&& (255 : Int32))), .val (.int ((p1.toUInt32 >>> ((10 : Int32) &&& 31).toUInt32).toInt32 &&& (255 : Int32))), .val (.int ((p1.toUInt32 >>> ((18 : Int32) &&& 31).toUInt32).toInt32 &&& (255 : Int32))), .val (.ref sa_1), .unset, .unset, .unset, .unset, .unset, .unset] [(.int ((p1.toUInt32 >>> ((18 : Int32) &&& 31).toUInt32).toInt32 &&& (255 : Int32))), (.int ((p1.toUInt32 >>> ((10 : Int32) &&& 31).toUInt32).toInt32 &&& (255 : Int32))), (.int ((p1.toUInt32 >>> ((2 : Int32) &&& 31).toUInt32).toInt32 &&& (255 : Int32))), (.int (p1 &&& (3 : Int32)))]) G
  have G14 : Old Z n0 T1.heap := (F2_.keep K1 all0)
  obtain ⟨_, _, ⟨T13, L13, k13, n13⟩, -, Xb13, hSb13, hgb13, ⟨Lc13, hQ13, l13, y13, z13, hC13⟩, st13⟩ := callSS X1 hx (y := (⟨"candorpay/OptionSynopsisPinLaw", "make", "(ICCC)Ljava/lang/String;"⟩ : MethodName)) hown1 (mvT hZ1 (hw _ (List.mem_of_getElem? (i := 0) rfl))) (mvT hZ1 (hw _ (List.mem_of_getElem? (i := 1) rfl))) (mvT hZ1 (hw _ (List.mem_of_getElem? (i := 2) rfl))) (mvT hZ1 (hw _ (List.mem_of_getElem? (i := 3) rfl))) (by decide) (own_back (W := 0) (mkstr l Z a0 hw [] (p1 &&& (3 : Int32)) ((p1.toUInt32 >>> ((2 : Int32) &&& 31).toUInt32).toInt32 &&& (255 : Int32)) ((p1.toUInt32 >>> ((10 : Int32) &&& 31).toUInt32).toInt32 &&& (255 : Int32)) ((p1.toUInt32 >>> ((18 : Int32) &&& 31).toUInt32).toInt32 &&& (255 : Int32)) cps T1.heap n0 Z10 F0_java_lang_String G14 hcps (own_mb _).2 (own_mb _).2 (own_mb _).2 (own_mb _).1 (own_mb _).1 (own_mb _).1) hZ1 (hw _ (List.mem_of_getElem? (i := 3) rfl)) (hw _ (List.mem_of_getElem? (i := 2) rfl)) (by decide) (by decide) hEL CR9.1 (fun _ z => nomatch z)) (g := (mkF m 93 #[.val (.int p0), .val (.int p1), .val (.int p2), .val (.int (p0 &&& (3 : Int32))), .val (.int ((p0.toUInt32 >>> ((2 : Int32) &&& 31).toUInt32).toInt32 &&& (255 : Int32))), .val (.int ((p0.toUInt32 >>> ((10 : Int32) &&& 31).toUInt32).toInt32 &&& (255 : Int32))), .val (.int ((p0.toUInt32 >>> ((18 : Int32) &&& 31).toUInt32).toInt32 &&& (255 : Int32))), .val (.int (p1 &&& (3 : Int32))), .val (.int ((p1.toUInt32 >>> ((2 : Int32) &&& 31).toUInt32).toInt32 &&& (255 : Int32))), .val (.int ((p1.toUInt32 >>> ((10 : Int32) &&& 31).toUInt32).toInt32 &&& (255 : Int32))), .val (.int ((p1.toUInt32 >>> ((18 : Int32) &&& 31).toUInt32).toInt32 &&& (255 : Int32))), .val (.ref sa_1), .unset, .unset, .unset, .unset, .unset, .unset] [(.int ((p1.toUInt32 >>> ((18 : Int32) &&& 31).toUInt32).toInt32 &&& (255 : Int32))), (.int ((p1.toUInt32 >>> ((10 : Int32) &&& 31).toUInt32).toInt32 &&& (255 : Int32))), (.int ((p1.toUInt32 >>> ((2 : Int32) &&& 31).toUInt32).toInt32 &&& (255 : Int32))), (.int (p1 &&& (3 : Int32)))])) rfl (by rw [hml]; rfl) (argsL := [(.int (p1 &&& (3 : Int32))), (.int ((p1.toUInt32 >>> ((2 : Int32) &&& 31).toUInt32).toInt32 &&& (255 : Int32))), (.int ((p1.toUInt32 >>> ((10 : Int32) &&& 31).toUInt32).toInt32 &&& (255 : Int32))), (.int ((p1.toUInt32 >>> ((18 : Int32) &&& 31).toUInt32).toInt32 &&& (255 : Int32)))]) (rest := []) (lenOf pd_28 rfl) rfl (by show 2 * 0 + _ ≤ _; exact Nat.le_of_eq rfl) (hb hby at_93) (fun _ _ => ⟨rfl, rfl, (by decide : 6 + 6 ≤ _), (by decide : 12 + 12 ≤ _)⟩)
  dsimp only [Pt.U, Pt.locs, Pt.cells, Pt.slots] at Xb13 hSb13 hgb13 l13 y13 z13 st13 hQ13 hC13
  subst l13 y13 z13
  obtain ⟨X13, hS13, hZ13, hown13⟩ := rebS hS1 hk1 Xb13 hSb13 hgb13 hZ1 hown1
  have hk13 : T13.heap.size ≤ T13.heap.size := Nat.le_refl _
  obtain ⟨sa_13, sb_13, sk_13, rfl, N13q, K13, P15, P16, P17, P18, R19⟩ := hQ13
  have N13_ := Fr.app N1_ N13q
  refine Gl.via (fun _ k => st13.trans k) ?_
  have ne20 : sa_1 ≠ sa_13 := Nat.ne_of_lt (Nat.lt_of_lt_of_le P2.lt R19)
  have ne21 : sb_1 ≠ sa_13 := Nat.ne_of_lt (Nat.lt_of_lt_of_le P5.lt R19)
  have ge22 : n0 ≤ sa_13 := Nat.le_trans Z10 R19
  have gz23 : h0.size ≤ sa_13 := Nat.le_trans Y11 R19
  have CR24 : CHr Z own_EL s.vm h0 T13.vm T13.heap := CHr.trans CR9 hC13
  have Z25 : n0 ≤ T13.heap.size := Nat.le_trans Z10 K13.1
  have Y26 : h0.size ≤ T13.heap.size := Nat.le_trans Y11 K13.1
  have hl27 := Nat.le_trans hk1 K13.1
  show Gl p.tables e below T13 (mkF m 96 #[.val (.int p0), .val (.int p1), .val (.int p2), .val (.int (p0 &&& (3 : Int32))), .val (.int ((p0.toUInt32 >>> ((2 : Int32) &&& 31).toUInt32).toInt32 &&& (255 : Int32))), .val (.int ((p0.toUInt32 >>> ((10 : Int32) &&& 31).toUInt32).toInt32 &&& (255 : Int32))), .val (.int ((p0.toUInt32 >>> ((18 : Int32) &&& 31).toUInt32).toInt32 &&& (255 : Int32))), .val (.int (p1 &&& (3 : Int32))), .val (.int ((p1.toUInt32 >>> ((2 : Int32) &&& 31).toUInt32).toInt32 &&& (255 : Int32))), .val (.int ((p1.toUInt32 >>> ((10 : Int32) &&& 31).toUInt32).toInt32 &&& (255 : Int32))), .val (.int ((p1.toUInt32 >>> ((18 : Int32) &&& 31).toUInt32).toInt32 &&& (255 : Int32))), .val (.ref sa_1), .unset, .unset, .unset, .unset, .unset, .unset] [(.ref sa_13)]) G
  refine Gl.via (fun _ k => XS.astore X13.here hx rfl (hb hby at_96) rfl rfl (l' := #[.val (.int p0), .val (.int p1), .val (.int p2), .val (.int (p0 &&& (3 : Int32))), .val (.int ((p0.toUInt32 >>> ((2 : Int32) &&& 31).toUInt32).toInt32 &&& (255 : Int32))), .val (.int ((p0.toUInt32 >>> ((10 : Int32) &&& 31).toUInt32).toInt32 &&& (255 : Int32))), .val (.int ((p0.toUInt32 >>> ((18 : Int32) &&& 31).toUInt32).toInt32 &&& (255 : Int32))), .val (.int (p1 &&& (3 : Int32))), .val (.int ((p1.toUInt32 >>> ((2 : Int32) &&& 31).toUInt32).toInt32 &&& (255 : Int32))), .val (.int ((p1.toUInt32 >>> ((10 : Int32) &&& 31).toUInt32).toInt32 &&& (255 : Int32))), .val (.int ((p1.toUInt32 >>> ((18 : Int32) &&& 31).toUInt32).toInt32 &&& (255 : Int32))), .val (.ref sa_1), .val (.ref sa_13), .unset, .unset, .unset, .unset, .unset]) rfl k) ?_
  show Gl p.tables e below T13 (mkF m 98 #[.val (.int p0), .val (.int p1), .val (.int p2), .val (.int (p0 &&& (3 : Int32))), .val (.int ((p0.toUInt32 >>> ((2 : Int32) &&& 31).toUInt32).toInt32 &&& (255 : Int32))), .val (.int ((p0.toUInt32 >>> ((10 : Int32) &&& 31).toUInt32).toInt32 &&& (255 : Int32))), .val (.int ((p0.toUInt32 >>> ((18 : Int32) &&& 31).toUInt32).toInt32 &&& (255 : Int32))), .val (.int (p1 &&& (3 : Int32))), .val (.int ((p1.toUInt32 >>> ((2 : Int32) &&& 31).toUInt32).toInt32 &&& (255 : Int32))), .val (.int ((p1.toUInt32 >>> ((10 : Int32) &&& 31).toUInt32).toInt32 &&& (255 : Int32))), .val (.int ((p1.toUInt32 >>> ((18 : Int32) &&& 31).toUInt32).toInt32 &&& (255 : Int32))), .val (.ref sa_1), .val (.ref sa_13), .unset, .unset, .unset, .unset, .unset] []) G
  refine Gl.via (fun _ k => XS.iloadN X13.here hx rfl (hb hby at_98) rfl k) ?_
  show Gl p.tables e below T13 (mkF m 99 #[.val (.int p0), .val (.int p1), .val (.int p2), .val (.int (p0 &&& (3 : Int32))), .val (.int ((p0.toUInt32 >>> ((2 : Int32) &&& 31).toUInt32).toInt32 &&& (255 : Int32))), .val (.int ((p0.toUInt32 >>> ((10 : Int32) &&& 31).toUInt32).toInt32 &&& (255 : Int32))), .val (.int ((p0.toUInt32 >>> ((18 : Int32) &&& 31).toUInt32).toInt32 &&& (255 : Int32))), .val (.int (p1 &&& (3 : Int32))), .val (.int ((p1.toUInt32 >>> ((2 : Int32) &&& 31).toUInt32).toInt32 &&& (255 : Int32))), .val (.int ((p1.toUInt32 >>> ((10 : Int32) &&& 31).toUInt32).toInt32 &&& (255 : Int32))), .val (.int ((p1.toUInt32 >>> ((18 : Int32) &&& 31).toUInt32).toInt32 &&& (255 : Int32))), .val (.ref sa_1), .val (.ref sa_13), .unset, .unset, .unset, .unset, .unset] [(.int p2)]) G
  refine Gl.via (fun _ k => XS.iconst X13.here hx rfl (hb hby at_99) k) ?_
  show Gl p.tables e below T13 (mkF m 100 #[.val (.int p0), .val (.int p1), .val (.int p2), .val (.int (p0 &&& (3 : Int32))), .val (.int ((p0.toUInt32 >>> ((2 : Int32) &&& 31).toUInt32).toInt32 &&& (255 : Int32))), .val (.int ((p0.toUInt32 >>> ((10 : Int32) &&& 31).toUInt32).toInt32 &&& (255 : Int32))), .val (.int ((p0.toUInt32 >>> ((18 : Int32) &&& 31).toUInt32).toInt32 &&& (255 : Int32))), .val (.int (p1 &&& (3 : Int32))), .val (.int ((p1.toUInt32 >>> ((2 : Int32) &&& 31).toUInt32).toInt32 &&& (255 : Int32))), .val (.int ((p1.toUInt32 >>> ((10 : Int32) &&& 31).toUInt32).toInt32 &&& (255 : Int32))), .val (.int ((p1.toUInt32 >>> ((18 : Int32) &&& 31).toUInt32).toInt32 &&& (255 : Int32))), .val (.ref sa_1), .val (.ref sa_13), .unset, .unset, .unset, .unset, .unset] [(.int (1 : Int32)), (.int p2)]) G
  refine Gl.via (fun _ k => XS.iushr X13.here hx rfl (hb hby at_100) rfl k) ?_
  show Gl p.tables e below T13 (mkF m 101 #[.val (.int p0), .val (.int p1), .val (.int p2), .val (.int (p0 &&& (3 : Int32))), .val (.int ((p0.toUInt32 >>> ((2 : Int32) &&& 31).toUInt32).toInt32 &&& (255 : Int32))), .val (.int ((p0.toUInt32 >>> ((10 : Int32) &&& 31).toUInt32).toInt32 &&& (255 : Int32))), .val (.int ((p0.toUInt32 >>> ((18 : Int32) &&& 31).toUInt32).toInt32 &&& (255 : Int32))), .val (.int (p1 &&& (3 : Int32))), .val (.int ((p1.toUInt32 >>> ((2 : Int32) &&& 31).toUInt32).toInt32 &&& (255 : Int32))), .val (.int ((p1.toUInt32 >>> ((10 : Int32) &&& 31).toUInt32).toInt32 &&& (255 : Int32))), .val (.int ((p1.toUInt32 >>> ((18 : Int32) &&& 31).toUInt32).toInt32 &&& (255 : Int32))), .val (.ref sa_1), .val (.ref sa_13), .unset, .unset, .unset, .unset, .unset] [(.int ((p2.toUInt32 >>> ((1 : Int32) &&& 31).toUInt32).toInt32))]) G
  refine Gl.via (fun _ k => XS.sipush X13.here hx rfl (hb hby at_101) k) ?_
  show Gl p.tables e below T13 (mkF m 104 #[.val (.int p0), .val (.int p1), .val (.int p2), .val (.int (p0 &&& (3 : Int32))), .val (.int ((p0.toUInt32 >>> ((2 : Int32) &&& 31).toUInt32).toInt32 &&& (255 : Int32))), .val (.int ((p0.toUInt32 >>> ((10 : Int32) &&& 31).toUInt32).toInt32 &&& (255 : Int32))), .val (.int ((p0.toUInt32 >>> ((18 : Int32) &&& 31).toUInt32).toInt32 &&& (255 : Int32))), .val (.int (p1 &&& (3 : Int32))), .val (.int ((p1.toUInt32 >>> ((2 : Int32) &&& 31).toUInt32).toInt32 &&& (255 : Int32))), .val (.int ((p1.toUInt32 >>> ((10 : Int32) &&& 31).toUInt32).toInt32 &&& (255 : Int32))), .val (.int ((p1.toUInt32 >>> ((18 : Int32) &&& 31).toUInt32).toInt32 &&& (255 : Int32))), .val (.ref sa_1), .val (.ref sa_13), .unset, .unset, .unset, .unset, .unset] [(.int (255 : Int32)), (.int ((p2.toUInt32 >>> ((1 : Int32) &&& 31).toUInt32).toInt32))]) G
  refine Gl.via (fun _ k => XS.iand X13.here hx rfl (hb hby at_104) rfl k) ?_
  show Gl p.tables e below T13 (mkF m 105 #[.val (.int p0), .val (.int p1), .val (.int p2), .val (.int (p0 &&& (3 : Int32))), .val (.int ((p0.toUInt32 >>> ((2 : Int32) &&& 31).toUInt32).toInt32 &&& (255 : Int32))), .val (.int ((p0.toUInt32 >>> ((10 : Int32) &&& 31).toUInt32).toInt32 &&& (255 : Int32))), .val (.int ((p0.toUInt32 >>> ((18 : Int32) &&& 31).toUInt32).toInt32 &&& (255 : Int32))), .val (.int (p1 &&& (3 : Int32))), .val (.int ((p1.toUInt32 >>> ((2 : Int32) &&& 31).toUInt32).toInt32 &&& (255 : Int32))), .val (.int ((p1.toUInt32 >>> ((10 : Int32) &&& 31).toUInt32).toInt32 &&& (255 : Int32))), .val (.int ((p1.toUInt32 >>> ((18 : Int32) &&& 31).toUInt32).toInt32 &&& (255 : Int32))), .val (.ref sa_1), .val (.ref sa_13), .unset, .unset, .unset, .unset, .unset] [(.int (((p2.toUInt32 >>> ((1 : Int32) &&& 31).toUInt32).toInt32) &&& (255 : Int32)))]) G
  refine Gl.via (fun _ k => XS.i2c X13.here hx rfl (hb hby at_105) rfl k) ?_
  show Gl p.tables e below T13 (mkF m 106 #[.val (.int p0), .val (.int p1), .val (.int p2), .val (.int (p0 &&& (3 : Int32))), .val (.int ((p0.toUInt32 >>> ((2 : Int32) &&& 31).toUInt32).toInt32 &&& (255 : Int32))), .val (.int ((p0.toUInt32 >>> ((10 : Int32) &&& 31).toUInt32).toInt32 &&& (255 : Int32))), .val (.int ((p0.toUInt32 >>> ((18 : Int32) &&& 31).toUInt32).toInt32 &&& (255 : Int32))), .val (.int (p1 &&& (3 : Int32))), .val (.int ((p1.toUInt32 >>> ((2 : Int32) &&& 31).toUInt32).toInt32 &&& (255 : Int32))), .val (.int ((p1.toUInt32 >>> ((10 : Int32) &&& 31).toUInt32).toInt32 &&& (255 : Int32))), .val (.int ((p1.toUInt32 >>> ((18 : Int32) &&& 31).toUInt32).toInt32 &&& (255 : Int32))), .val (.ref sa_1), .val (.ref sa_13), .unset, .unset, .unset, .unset, .unset] [(.int ((((p2.toUInt32 >>> ((1 : Int32) &&& 31).toUInt32).toInt32) &&& (255 : Int32)).toUInt32.toUInt16.toUInt32.toInt32))]) G
  rw [show ((((p2.toUInt32 >>> ((1 : Int32) &&& 31).toUInt32).toInt32) &&& (255 : Int32)).toUInt32.toUInt16.toUInt32.toInt32) = ((p2.toUInt32 >>> ((1 : Int32) &&& 31).toUInt32).toInt32 &&& (255 : Int32)) from (i2c_mask _)]
  show Gl p.tables e below T13 (mkF m 106 #[.val (.int p0), .val (.int p1), .val (.int p2), .val (.int (p0 &&& (3 : Int32))), .val (.int ((p0.toUInt32 >>> ((2 : Int32) &&& 31).toUInt32).toInt32 &&& (255 : Int32))), .val (.int ((p0.toUInt32 >>> ((10 : Int32) &&& 31).toUInt32).toInt32 &&& (255 : Int32))), .val (.int ((p0.toUInt32 >>> ((18 : Int32) &&& 31).toUInt32).toInt32 &&& (255 : Int32))), .val (.int (p1 &&& (3 : Int32))), .val (.int ((p1.toUInt32 >>> ((2 : Int32) &&& 31).toUInt32).toInt32 &&& (255 : Int32))), .val (.int ((p1.toUInt32 >>> ((10 : Int32) &&& 31).toUInt32).toInt32 &&& (255 : Int32))), .val (.int ((p1.toUInt32 >>> ((18 : Int32) &&& 31).toUInt32).toInt32 &&& (255 : Int32))), .val (.ref sa_1), .val (.ref sa_13), .unset, .unset, .unset, .unset, .unset] [(.int ((p2.toUInt32 >>> ((1 : Int32) &&& 31).toUInt32).toInt32 &&& (255 : Int32)))]) G
  have G29 : Old Z n0 T13.heap := (G14.keep K13 all0)
  obtain ⟨_, _, ⟨T28, L28, k28, n28⟩, -, X28, ⟨Lc28, hQ28, l28, y28, z28⟩, st28⟩ := Jvm.LawKit.callS X13 hx (y := (⟨"java/lang/String", "valueOf", "(C)Ljava/lang/String;"⟩ : MethodName)) hown13 (mvT hZ13 (hw _ (List.mem_of_getElem? (i := 37) rfl))) (mvT hZ13 (hw _ (List.mem_of_getElem? (i := 38) rfl))) (mvT hZ13 (hw _ (List.mem_of_getElem? (i := 6) rfl))) (mvT hZ13 (hw _ (List.mem_of_getElem? (i := 39) rfl))) (by decide) (backOf (W := 0) (s_vo l Z a0 hw [] ((p2.toUInt32 >>> ((1 : Int32) &&& 31).toUInt32).toInt32 &&& (255 : Int32)) cps T13.heap n0 Z25 F0_java_lang_String G29 hcps (own_mb _).2) hZ13 (hw _ (List.mem_of_getElem? (i := 39) rfl)) (hw _ (List.mem_of_getElem? (i := 6) rfl)) (by decide) (by decide)) (g := (mkF m 106 #[.val (.int p0), .val (.int p1), .val (.int p2), .val (.int (p0 &&& (3 : Int32))), .val (.int ((p0.toUInt32 >>> ((2 : Int32) &&& 31).toUInt32).toInt32 &&& (255 : Int32))), .val (.int ((p0.toUInt32 >>> ((10 : Int32) &&& 31).toUInt32).toInt32 &&& (255 : Int32))), .val (.int ((p0.toUInt32 >>> ((18 : Int32) &&& 31).toUInt32).toInt32 &&& (255 : Int32))), .val (.int (p1 &&& (3 : Int32))), .val (.int ((p1.toUInt32 >>> ((2 : Int32) &&& 31).toUInt32).toInt32 &&& (255 : Int32))), .val (.int ((p1.toUInt32 >>> ((10 : Int32) &&& 31).toUInt32).toInt32 &&& (255 : Int32))), .val (.int ((p1.toUInt32 >>> ((18 : Int32) &&& 31).toUInt32).toInt32 &&& (255 : Int32))), .val (.ref sa_1), .val (.ref sa_13), .unset, .unset, .unset, .unset, .unset] [(.int ((p2.toUInt32 >>> ((1 : Int32) &&& 31).toUInt32).toInt32 &&& (255 : Int32)))])) rfl (by rw [hml]; rfl) (argsL := [(.int ((p2.toUInt32 >>> ((1 : Int32) &&& 31).toUInt32).toInt32 &&& (255 : Int32)))]) (rest := []) (lenOf pd_24 rfl) rfl (by show 2 * 0 + _ ≤ _; exact Nat.le_of_eq rfl) (hb hby at_106) (fun _ _ => ⟨rfl, rfl, (by decide : 12 + 2 ≤ _), (by decide : 24 + 5 ≤ _)⟩)
  dsimp only [Pt.U, Pt.locs, Pt.cells, Pt.slots] at X28 l28 y28 z28 st28 hQ28
  subst l28 y28 z28
  obtain ⟨sa_28, sb_28, sk_28, rfl, N28q, K28, P30, P31, P32, P33, R34⟩ := hQ28
  have N28_ := Fr.app N13_ N28q
  refine Gl.via (fun _ k => st28 _ k) ?_
  have G35 : Exa Z T13.heap sa_1 "java/lang/String" := (P2.keep K13)
  have ne36 : sa_1 ≠ sa_28 := Nat.ne_of_lt (Nat.lt_of_lt_of_le G35.lt R34)
  have G37 : Arv Z T13.heap sb_1 sk_1 .byte (own_ln (own_mk (p0 &&& (3 : Int32)) ((p0.toUInt32 >>> ((2 : Int32) &&& 31).toUInt32).toInt32 &&& (255 : Int32)) ((p0.toUInt32 >>> ((10 : Int32) &&& 31).toUInt32).toInt32 &&& (255 : Int32)) ((p0.toUInt32 >>> ((18 : Int32) &&& 31).toUInt32).toInt32 &&& (255 : Int32)))) ((own_mk (p0 &&& (3 : Int32)) ((p0.toUInt32 >>> ((2 : Int32) &&& 31).toUInt32).toInt32 &&& (255 : Int32)) ((p0.toUInt32 >>> ((10 : Int32) &&& 31).toUInt32).toInt32 &&& (255 : Int32)) ((p0.toUInt32 >>> ((18 : Int32) &&& 31).toUInt32).toInt32 &&& (255 : Int32))).map Value.int) (.int (0 : Int32)) := (P5.keep K13 nin0)
  have ne38 : sb_1 ≠ sa_28 := Nat.ne_of_lt (Nat.lt_of_lt_of_le G37.lt R34)
  have ne39 : sa_13 ≠ sa_28 := Nat.ne_of_lt (Nat.lt_of_lt_of_le P15.lt R34)
  have ne40 : sb_13 ≠ sa_28 := Nat.ne_of_lt (Nat.lt_of_lt_of_le P18.lt R34)
  have ge41 : n0 ≤ sa_28 := Nat.le_trans Z25 R34
  have gz42 : h0.size ≤ sa_28 := Nat.le_trans Y26 R34
  have CR43 : CHr Z own_EL s.vm h0 T13.vm T28.heap := CHr.trans CR24 (CHr.keep K28 sf0 CR24.1)
  have SF44 : Safe Z own_EL T13.vm T28.heap sa_28 := Safe.keep K28 sf0 CR24.1 (Safe.new R34)
  have Z45 : n0 ≤ T28.heap.size := Nat.le_trans Z25 K28.1
  have Y46 : h0.size ≤ T28.heap.size := Nat.le_trans Y26 K28.1
  have hl47 := Nat.le_trans hk13 K28.1
  show Gl p.tables e below T28 (mkF m 109 #[.val (.int p0), .val (.int p1), .val (.int p2), .val (.int (p0 &&& (3 : Int32))), .val (.int ((p0.toUInt32 >>> ((2 : Int32) &&& 31).toUInt32).toInt32 &&& (255 : Int32))), .val (.int ((p0.toUInt32 >>> ((10 : Int32) &&& 31).toUInt32).toInt32 &&& (255 : Int32))), .val (.int ((p0.toUInt32 >>> ((18 : Int32) &&& 31).toUInt32).toInt32 &&& (255 : Int32))), .val (.int (p1 &&& (3 : Int32))), .val (.int ((p1.toUInt32 >>> ((2 : Int32) &&& 31).toUInt32).toInt32 &&& (255 : Int32))), .val (.int ((p1.toUInt32 >>> ((10 : Int32) &&& 31).toUInt32).toInt32 &&& (255 : Int32))), .val (.int ((p1.toUInt32 >>> ((18 : Int32) &&& 31).toUInt32).toInt32 &&& (255 : Int32))), .val (.ref sa_1), .val (.ref sa_13), .unset, .unset, .unset, .unset, .unset] [(.ref sa_28)]) G
  refine Gl.via (fun _ k => XS.astore X28.here hx rfl (hb hby at_109) rfl rfl (l' := #[.val (.int p0), .val (.int p1), .val (.int p2), .val (.int (p0 &&& (3 : Int32))), .val (.int ((p0.toUInt32 >>> ((2 : Int32) &&& 31).toUInt32).toInt32 &&& (255 : Int32))), .val (.int ((p0.toUInt32 >>> ((10 : Int32) &&& 31).toUInt32).toInt32 &&& (255 : Int32))), .val (.int ((p0.toUInt32 >>> ((18 : Int32) &&& 31).toUInt32).toInt32 &&& (255 : Int32))), .val (.int (p1 &&& (3 : Int32))), .val (.int ((p1.toUInt32 >>> ((2 : Int32) &&& 31).toUInt32).toInt32 &&& (255 : Int32))), .val (.int ((p1.toUInt32 >>> ((10 : Int32) &&& 31).toUInt32).toInt32 &&& (255 : Int32))), .val (.int ((p1.toUInt32 >>> ((18 : Int32) &&& 31).toUInt32).toInt32 &&& (255 : Int32))), .val (.ref sa_1), .val (.ref sa_13), .val (.ref sa_28), .unset, .unset, .unset, .unset]) rfl k) ?_
  show Gl p.tables e below T28 (mkF m 111 #[.val (.int p0), .val (.int p1), .val (.int p2), .val (.int (p0 &&& (3 : Int32))), .val (.int ((p0.toUInt32 >>> ((2 : Int32) &&& 31).toUInt32).toInt32 &&& (255 : Int32))), .val (.int ((p0.toUInt32 >>> ((10 : Int32) &&& 31).toUInt32).toInt32 &&& (255 : Int32))), .val (.int ((p0.toUInt32 >>> ((18 : Int32) &&& 31).toUInt32).toInt32 &&& (255 : Int32))), .val (.int (p1 &&& (3 : Int32))), .val (.int ((p1.toUInt32 >>> ((2 : Int32) &&& 31).toUInt32).toInt32 &&& (255 : Int32))), .val (.int ((p1.toUInt32 >>> ((10 : Int32) &&& 31).toUInt32).toInt32 &&& (255 : Int32))), .val (.int ((p1.toUInt32 >>> ((18 : Int32) &&& 31).toUInt32).toInt32 &&& (255 : Int32))), .val (.ref sa_1), .val (.ref sa_13), .val (.ref sa_28), .unset, .unset, .unset, .unset] []) G
  obtain ⟨T48, h48, X48, e48, E48, A48, D48, -, st48⟩ := newO X28 hx hZ13 hown13 (hw _ (List.mem_of_getElem? (i := 51) rfl)) (hw _ (List.mem_of_getElem? (i := 52) rfl)) (hw _ (List.mem_of_getElem? (i := 53) rfl)) rfl (g := (mkF m 111 #[.val (.int p0), .val (.int p1), .val (.int p2), .val (.int (p0 &&& (3 : Int32))), .val (.int ((p0.toUInt32 >>> ((2 : Int32) &&& 31).toUInt32).toInt32 &&& (255 : Int32))), .val (.int ((p0.toUInt32 >>> ((10 : Int32) &&& 31).toUInt32).toInt32 &&& (255 : Int32))), .val (.int ((p0.toUInt32 >>> ((18 : Int32) &&& 31).toUInt32).toInt32 &&& (255 : Int32))), .val (.int (p1 &&& (3 : Int32))), .val (.int ((p1.toUInt32 >>> ((2 : Int32) &&& 31).toUInt32).toInt32 &&& (255 : Int32))), .val (.int ((p1.toUInt32 >>> ((10 : Int32) &&& 31).toUInt32).toInt32 &&& (255 : Int32))), .val (.int ((p1.toUInt32 >>> ((18 : Int32) &&& 31).toUInt32).toInt32 &&& (255 : Int32))), .val (.ref sa_1), .val (.ref sa_13), .val (.ref sa_28), .unset, .unset, .unset, .unset] [])) rfl (hb hby at_111) (by decide) (by decide)
  obtain ⟨b48, g48⟩ : ∃ z, z = T28.heap.size := ⟨_, rfl⟩
  rw [← g48] at A48 D48 st48
  have G49 : Exa Z T28.heap sa_1 "java/lang/String" := (G35.keep K28)
  have ne50 : sa_1 ≠ b48 := Nat.ne_of_lt (Nat.lt_of_lt_of_le G49.lt (Nat.le_of_eq g48.symm))
  have G51 : Arv Z T28.heap sb_1 sk_1 .byte (own_ln (own_mk (p0 &&& (3 : Int32)) ((p0.toUInt32 >>> ((2 : Int32) &&& 31).toUInt32).toInt32 &&& (255 : Int32)) ((p0.toUInt32 >>> ((10 : Int32) &&& 31).toUInt32).toInt32 &&& (255 : Int32)) ((p0.toUInt32 >>> ((18 : Int32) &&& 31).toUInt32).toInt32 &&& (255 : Int32)))) ((own_mk (p0 &&& (3 : Int32)) ((p0.toUInt32 >>> ((2 : Int32) &&& 31).toUInt32).toInt32 &&& (255 : Int32)) ((p0.toUInt32 >>> ((10 : Int32) &&& 31).toUInt32).toInt32 &&& (255 : Int32)) ((p0.toUInt32 >>> ((18 : Int32) &&& 31).toUInt32).toInt32 &&& (255 : Int32))).map Value.int) (.int (0 : Int32)) := (G37.keep K28 nin0)
  have ne52 : sb_1 ≠ b48 := Nat.ne_of_lt (Nat.lt_of_lt_of_le G51.lt (Nat.le_of_eq g48.symm))
  have G53 : Exa Z T28.heap sa_13 "java/lang/String" := (P15.keep K28)
  have ne54 : sa_13 ≠ b48 := Nat.ne_of_lt (Nat.lt_of_lt_of_le G53.lt (Nat.le_of_eq g48.symm))
  have G55 : Arv Z T28.heap sb_13 sk_13 .byte (own_ln (own_mk (p1 &&& (3 : Int32)) ((p1.toUInt32 >>> ((2 : Int32) &&& 31).toUInt32).toInt32 &&& (255 : Int32)) ((p1.toUInt32 >>> ((10 : Int32) &&& 31).toUInt32).toInt32 &&& (255 : Int32)) ((p1.toUInt32 >>> ((18 : Int32) &&& 31).toUInt32).toInt32 &&& (255 : Int32)))) ((own_mk (p1 &&& (3 : Int32)) ((p1.toUInt32 >>> ((2 : Int32) &&& 31).toUInt32).toInt32 &&& (255 : Int32)) ((p1.toUInt32 >>> ((10 : Int32) &&& 31).toUInt32).toInt32 &&& (255 : Int32)) ((p1.toUInt32 >>> ((18 : Int32) &&& 31).toUInt32).toInt32 &&& (255 : Int32))).map Value.int) (.int (0 : Int32)) := (P18.keep K28 nin0)
  have ne56 : sb_13 ≠ b48 := Nat.ne_of_lt (Nat.lt_of_lt_of_le G55.lt (Nat.le_of_eq g48.symm))
  have ne57 : sa_28 ≠ b48 := Nat.ne_of_lt (Nat.lt_of_lt_of_le P30.lt (Nat.le_of_eq g48.symm))
  have ne58 : sb_28 ≠ b48 := Nat.ne_of_lt (Nat.lt_of_lt_of_le P33.lt (Nat.le_of_eq g48.symm))
  have ge59 : n0 ≤ b48 := Nat.le_trans Z45 (Nat.le_of_eq g48.symm)
  have gz60 : h0.size ≤ b48 := Nat.le_trans Y46 (Nat.le_of_eq g48.symm)
  have CR61 : CHr Z own_EL s.vm h0 T13.vm h48 := CHr.trans CR43 (CHr.ext E48 CR43.1)
  have SF62 : Safe Z own_EL T13.vm h48 sa_28 := Safe.ext E48 CR43.1 SF44
  have SF63 : Safe Z own_EL T13.vm h48 b48 := Safe.ext E48 CR43.1 (Safe.new (Nat.le_of_eq g48.symm))
  refine Gl.via st48 ?_
  have Z64 : n0 ≤ h48.size := Nat.le_trans Z45 E48.1
  have Y65 : h0.size ≤ h48.size := Nat.le_trans Y46 E48.1
  have hl66 := Nat.le_trans hl47 E48.1
  have F67 : Fld Z h48 b48 "candorpay/Command$Option" "name" "Ljava/lang/String;" .null := D48 (Or.inr (hw _ (List.mem_of_getElem? (i := 64) rfl))) (ty := (.object "java/lang/String")) (by decide)
  have F68 : Fld Z h48 b48 "candorpay/Command$Option" "value" "Ljava/lang/String;" .null := D48 (Or.inr (hw _ (List.mem_of_getElem? (i := 66) rfl))) (ty := (.object "java/lang/String")) (by decide)
  have F69 : Fld Z h48 b48 "candorpay/Command$Option" "summary" "Ljava/lang/String;" .null := D48 (Or.inr (hw _ (List.mem_of_getElem? (i := 68) rfl))) (ty := (.object "java/lang/String")) (by decide)
  have F70 : Fld Z h48 b48 "candorpay/Command$Option" "required" "Z" (.int (0 : Int32)) := D48 (Or.inr (hw _ (List.mem_of_getElem? (i := 70) rfl))) (ty := .boolean) (by decide)
  show Gl p.tables e below T48 (mkF m 114 #[.val (.int p0), .val (.int p1), .val (.int p2), .val (.int (p0 &&& (3 : Int32))), .val (.int ((p0.toUInt32 >>> ((2 : Int32) &&& 31).toUInt32).toInt32 &&& (255 : Int32))), .val (.int ((p0.toUInt32 >>> ((10 : Int32) &&& 31).toUInt32).toInt32 &&& (255 : Int32))), .val (.int ((p0.toUInt32 >>> ((18 : Int32) &&& 31).toUInt32).toInt32 &&& (255 : Int32))), .val (.int (p1 &&& (3 : Int32))), .val (.int ((p1.toUInt32 >>> ((2 : Int32) &&& 31).toUInt32).toInt32 &&& (255 : Int32))), .val (.int ((p1.toUInt32 >>> ((10 : Int32) &&& 31).toUInt32).toInt32 &&& (255 : Int32))), .val (.int ((p1.toUInt32 >>> ((18 : Int32) &&& 31).toUInt32).toInt32 &&& (255 : Int32))), .val (.ref sa_1), .val (.ref sa_13), .val (.ref sa_28), .unset, .unset, .unset, .unset] [(.ref b48)]) G
  refine Gl.via (fun _ k => XS.dup X48.here hx rfl (hb hby at_114) rfl rfl k) ?_
  show Gl p.tables e below T48 (mkF m 115 #[.val (.int p0), .val (.int p1), .val (.int p2), .val (.int (p0 &&& (3 : Int32))), .val (.int ((p0.toUInt32 >>> ((2 : Int32) &&& 31).toUInt32).toInt32 &&& (255 : Int32))), .val (.int ((p0.toUInt32 >>> ((10 : Int32) &&& 31).toUInt32).toInt32 &&& (255 : Int32))), .val (.int ((p0.toUInt32 >>> ((18 : Int32) &&& 31).toUInt32).toInt32 &&& (255 : Int32))), .val (.int (p1 &&& (3 : Int32))), .val (.int ((p1.toUInt32 >>> ((2 : Int32) &&& 31).toUInt32).toInt32 &&& (255 : Int32))), .val (.int ((p1.toUInt32 >>> ((10 : Int32) &&& 31).toUInt32).toInt32 &&& (255 : Int32))), .val (.int ((p1.toUInt32 >>> ((18 : Int32) &&& 31).toUInt32).toInt32 &&& (255 : Int32))), .val (.ref sa_1), .val (.ref sa_13), .val (.ref sa_28), .unset, .unset, .unset, .unset] [(.ref b48), (.ref b48)]) G
  refine Gl.via (fun _ k => XS.aload X48.here hx rfl (hb hby at_115) rfl rfl k) ?_
  show Gl p.tables e below T48 (mkF m 117 #[.val (.int p0), .val (.int p1), .val (.int p2), .val (.int (p0 &&& (3 : Int32))), .val (.int ((p0.toUInt32 >>> ((2 : Int32) &&& 31).toUInt32).toInt32 &&& (255 : Int32))), .val (.int ((p0.toUInt32 >>> ((10 : Int32) &&& 31).toUInt32).toInt32 &&& (255 : Int32))), .val (.int ((p0.toUInt32 >>> ((18 : Int32) &&& 31).toUInt32).toInt32 &&& (255 : Int32))), .val (.int (p1 &&& (3 : Int32))), .val (.int ((p1.toUInt32 >>> ((2 : Int32) &&& 31).toUInt32).toInt32 &&& (255 : Int32))), .val (.int ((p1.toUInt32 >>> ((10 : Int32) &&& 31).toUInt32).toInt32 &&& (255 : Int32))), .val (.int ((p1.toUInt32 >>> ((18 : Int32) &&& 31).toUInt32).toInt32 &&& (255 : Int32))), .val (.ref sa_1), .val (.ref sa_13), .val (.ref sa_28), .unset, .unset, .unset, .unset] [(.ref sa_1), (.ref b48), (.ref b48)]) G
  refine Gl.via (fun _ k => XS.aload X48.here hx rfl (hb hby at_117) rfl rfl k) ?_
  show Gl p.tables e below T48 (mkF m 119 #[.val (.int p0), .val (.int p1), .val (.int p2), .val (.int (p0 &&& (3 : Int32))), .val (.int ((p0.toUInt32 >>> ((2 : Int32) &&& 31).toUInt32).toInt32 &&& (255 : Int32))), .val (.int ((p0.toUInt32 >>> ((10 : Int32) &&& 31).toUInt32).toInt32 &&& (255 : Int32))), .val (.int ((p0.toUInt32 >>> ((18 : Int32) &&& 31).toUInt32).toInt32 &&& (255 : Int32))), .val (.int (p1 &&& (3 : Int32))), .val (.int ((p1.toUInt32 >>> ((2 : Int32) &&& 31).toUInt32).toInt32 &&& (255 : Int32))), .val (.int ((p1.toUInt32 >>> ((10 : Int32) &&& 31).toUInt32).toInt32 &&& (255 : Int32))), .val (.int ((p1.toUInt32 >>> ((18 : Int32) &&& 31).toUInt32).toInt32 &&& (255 : Int32))), .val (.ref sa_1), .val (.ref sa_13), .val (.ref sa_28), .unset, .unset, .unset, .unset] [(.ref sa_13), (.ref sa_1), (.ref b48), (.ref b48)]) G
  refine Gl.via (fun _ k => XS.aload X48.here hx rfl (hb hby at_119) rfl rfl k) ?_
  show Gl p.tables e below T48 (mkF m 121 #[.val (.int p0), .val (.int p1), .val (.int p2), .val (.int (p0 &&& (3 : Int32))), .val (.int ((p0.toUInt32 >>> ((2 : Int32) &&& 31).toUInt32).toInt32 &&& (255 : Int32))), .val (.int ((p0.toUInt32 >>> ((10 : Int32) &&& 31).toUInt32).toInt32 &&& (255 : Int32))), .val (.int ((p0.toUInt32 >>> ((18 : Int32) &&& 31).toUInt32).toInt32 &&& (255 : Int32))), .val (.int (p1 &&& (3 : Int32))), .val (.int ((p1.toUInt32 >>> ((2 : Int32) &&& 31).toUInt32).toInt32 &&& (255 : Int32))), .val (.int ((p1.toUInt32 >>> ((10 : Int32) &&& 31).toUInt32).toInt32 &&& (255 : Int32))), .val (.int ((p1.toUInt32 >>> ((18 : Int32) &&& 31).toUInt32).toInt32 &&& (255 : Int32))), .val (.ref sa_1), .val (.ref sa_13), .val (.ref sa_28), .unset, .unset, .unset, .unset] [(.ref sa_28), (.ref sa_13), (.ref sa_1), (.ref b48), (.ref b48)]) G
  have J132 : ∀ (zz : Int32), (narrow .boolean (.int zz) = .int zz) → (fits .boolean (.int zz) = true) → Gl p.tables e below T48 (mkF m 132 #[.val (.int p0), .val (.int p1), .val (.int p2), .val (.int (p0 &&& (3 : Int32))), .val (.int ((p0.toUInt32 >>> ((2 : Int32) &&& 31).toUInt32).toInt32 &&& (255 : Int32))), .val (.int ((p0.toUInt32 >>> ((10 : Int32) &&& 31).toUInt32).toInt32 &&& (255 : Int32))), .val (.int ((p0.toUInt32 >>> ((18 : Int32) &&& 31).toUInt32).toInt32 &&& (255 : Int32))), .val (.int (p1 &&& (3 : Int32))), .val (.int ((p1.toUInt32 >>> ((2 : Int32) &&& 31).toUInt32).toInt32 &&& (255 : Int32))), .val (.int ((p1.toUInt32 >>> ((10 : Int32) &&& 31).toUInt32).toInt32 &&& (255 : Int32))), .val (.int ((p1.toUInt32 >>> ((18 : Int32) &&& 31).toUInt32).toInt32 &&& (255 : Int32))), .val (.ref sa_1), .val (.ref sa_13), .val (.ref sa_28), .unset, .unset, .unset, .unset] [(.int zz), (.ref sa_28), (.ref sa_13), (.ref sa_1), (.ref b48), (.ref b48)]) G := by
    intro zz hz1 hz2
    show Gl p.tables e below T48 (mkF m 132 #[.val (.int p0), .val (.int p1), .val (.int p2), .val (.int (p0 &&& (3 : Int32))), .val (.int ((p0.toUInt32 >>> ((2 : Int32) &&& 31).toUInt32).toInt32 &&& (255 : Int32))), .val (.int ((p0.toUInt32 >>> ((10 : Int32) &&& 31).toUInt32).toInt32 &&& (255 : Int32))), .val (.int ((p0.toUInt32 >>> ((18 : Int32) &&& 31).toUInt32).toInt32 &&& (255 : Int32))), .val (.int (p1 &&& (3 : Int32))), .val (.int ((p1.toUInt32 >>> ((2 : Int32) &&& 31).toUInt32).toInt32 &&& (255 : Int32))), .val (.int ((p1.toUInt32 >>> ((10 : Int32) &&& 31).toUInt32).toInt32 &&& (255 : Int32))), .val (.int ((p1.toUInt32 >>> ((18 : Int32) &&& 31).toUInt32).toInt32 &&& (255 : Int32))), .val (.ref sa_1), .val (.ref sa_13), .val (.ref sa_28), .unset, .unset, .unset, .unset] [(.int zz), (.ref sa_28), (.ref sa_13), (.ref sa_1), (.ref b48), (.ref b48)]) G
    obtain ⟨_, _, ⟨T71, L71, k71, n71⟩, -, X71, ⟨Lc71, hQ71, l71, y71, z71⟩, st71⟩ := X48.specialBack hx (y := (⟨"candorpay/Command$Option", "<init>", "(Ljava/lang/String;Ljava/lang/String;Ljava/lang/String;Z)V"⟩ : MethodName)) rfl hown13 (mvT hZ13 (hw _ (List.mem_of_getElem? (i := 54) rfl))) (mvT hZ13 (hw _ (List.mem_of_getElem? (i := 55) rfl))) (mvT hZ13 (hw _ (List.mem_of_getElem? (i := 56) rfl))) (by decide) (backOf (W := 1) (op_init l Z a0 hw [] b48 sa_1 sa_13 sa_28 zz .null .null .null (.int (0 : Int32)) h48 n0 Z64 A48 F67 F68 F69 F70 ge59 hz1 hz2) hZ13 (hw _ (List.mem_of_getElem? (i := 56) rfl)) (hw _ (List.mem_of_getElem? (i := 53) rfl)) (by decide) (by decide)) (g := (mkF m 132 #[.val (.int p0), .val (.int p1), .val (.int p2), .val (.int (p0 &&& (3 : Int32))), .val (.int ((p0.toUInt32 >>> ((2 : Int32) &&& 31).toUInt32).toInt32 &&& (255 : Int32))), .val (.int ((p0.toUInt32 >>> ((10 : Int32) &&& 31).toUInt32).toInt32 &&& (255 : Int32))), .val (.int ((p0.toUInt32 >>> ((18 : Int32) &&& 31).toUInt32).toInt32 &&& (255 : Int32))), .val (.int (p1 &&& (3 : Int32))), .val (.int ((p1.toUInt32 >>> ((2 : Int32) &&& 31).toUInt32).toInt32 &&& (255 : Int32))), .val (.int ((p1.toUInt32 >>> ((10 : Int32) &&& 31).toUInt32).toInt32 &&& (255 : Int32))), .val (.int ((p1.toUInt32 >>> ((18 : Int32) &&& 31).toUInt32).toInt32 &&& (255 : Int32))), .val (.ref sa_1), .val (.ref sa_13), .val (.ref sa_28), .unset, .unset, .unset, .unset] [(.int zz), (.ref sa_28), (.ref sa_13), (.ref sa_1), (.ref b48), (.ref b48)])) rfl (by rw [hml]; rfl) (Steps.refl _) (a := b48) (argsL := [(.ref sa_1), (.ref sa_13), (.ref sa_28), (.int zz)]) (rest := [(.ref b48)]) (lenOf pd_29 rfl) rfl (by show 2 * 0 + _ ≤ _; exact Nat.le_of_eq rfl) (hb hby at_132) (fun _ _ => ⟨rfl, e48, (by decide : 15 + 0 ≤ _), (by decide : 33 + 0 ≤ _)⟩)
    dsimp only [Pt.U, Pt.locs, Pt.cells, Pt.slots] at X71 l71 y71 z71 st71 hQ71
    subst l71 y71 z71
    obtain ⟨rfl, N71q, K71, P72, P73, P74⟩ := hQ71
    have N71_ := Fr.app N28_ N71q
    refine Gl.via (fun _ k => st71.trans k) ?_
    have CR75 : CHr Z own_EL s.vm h0 T13.vm T71.heap := CHr.trans CR61 (CHr.keep K71 (sfS SF63 sf0) CR61.1)
    have SF76 : Safe Z own_EL T13.vm T71.heap sa_28 := Safe.keep K71 (sfS SF63 sf0) CR61.1 SF62
    have SF77 : Safe Z own_EL T13.vm T71.heap b48 := Safe.keep K71 (sfS SF63 sf0) CR61.1 SF63
    have Z78 : n0 ≤ T71.heap.size := Nat.le_trans Z64 K71.1
    have Y79 : h0.size ≤ T71.heap.size := Nat.le_trans Y65 K71.1
    have hl80 := Nat.le_trans hl66 K71.1
    show Gl p.tables e below T71 (mkF m 135 #[.val (.int p0), .val (.int p1), .val (.int p2), .val (.int (p0 &&& (3 : Int32))), .val (.int ((p0.toUInt32 >>> ((2 : Int32) &&& 31).toUInt32).toInt32 &&& (255 : Int32))), .val (.int ((p0.toUInt32 >>> ((10 : Int32) &&& 31).toUInt32).toInt32 &&& (255 : Int32))), .val (.int ((p0.toUInt32 >>> ((18 : Int32) &&& 31).toUInt32).toInt32 &&& (255 : Int32))), .val (.int (p1 &&& (3 : Int32))), .val (.int ((p1.toUInt32 >>> ((2 : Int32) &&& 31).toUInt32).toInt32 &&& (255 : Int32))), .val (.int ((p1.toUInt32 >>> ((10 : Int32) &&& 31).toUInt32).toInt32 &&& (255 : Int32))), .val (.int ((p1.toUInt32 >>> ((18 : Int32) &&& 31).toUInt32).toInt32 &&& (255 : Int32))), .val (.ref sa_1), .val (.ref sa_13), .val (.ref sa_28), .unset, .unset, .unset, .unset] [(.ref b48)]) G
    refine Gl.via (fun _ k => XS.astore X71.here hx rfl (hb hby at_135) rfl rfl (l' := #[.val (.int p0), .val (.int p1), .val (.int p2), .val (.int (p0 &&& (3 : Int32))), .val (.int ((p0.toUInt32 >>> ((2 : Int32) &&& 31).toUInt32).toInt32 &&& (255 : Int32))), .val (.int ((p0.toUInt32 >>> ((10 : Int32) &&& 31).toUInt32).toInt32 &&& (255 : Int32))), .val (.int ((p0.toUInt32 >>> ((18 : Int32) &&& 31).toUInt32).toInt32 &&& (255 : Int32))), .val (.int (p1 &&& (3 : Int32))), .val (.int ((p1.toUInt32 >>> ((2 : Int32) &&& 31).toUInt32).toInt32 &&& (255 : Int32))), .val (.int ((p1.toUInt32 >>> ((10 : Int32) &&& 31).toUInt32).toInt32 &&& (255 : Int32))), .val (.int ((p1.toUInt32 >>> ((18 : Int32) &&& 31).toUInt32).toInt32 &&& (255 : Int32))), .val (.ref sa_1), .val (.ref sa_13), .val (.ref sa_28), .val (.ref b48), .unset, .unset, .unset]) rfl k) ?_
    show Gl p.tables e below T71 (mkF m 137 #[.val (.int p0), .val (.int p1), .val (.int p2), .val (.int (p0 &&& (3 : Int32))), .val (.int ((p0.toUInt32 >>> ((2 : Int32) &&& 31).toUInt32).toInt32 &&& (255 : Int32))), .val (.int ((p0.toUInt32 >>> ((10 : Int32) &&& 31).toUInt32).toInt32 &&& (255 : Int32))), .val (.int ((p0.toUInt32 >>> ((18 : Int32) &&& 31).toUInt32).toInt32 &&& (255 : Int32))), .val (.int (p1 &&& (3 : Int32))), .val (.int ((p1.toUInt32 >>> ((2 : Int32) &&& 31).toUInt32).toInt32 &&& (255 : Int32))), .val (.int ((p1.toUInt32 >>> ((10 : Int32) &&& 31).toUInt32).toInt32 &&& (255 : Int32))), .val (.int ((p1.toUInt32 >>> ((18 : Int32) &&& 31).toUInt32).toInt32 &&& (255 : Int32))), .val (.ref sa_1), .val (.ref sa_13), .val (.ref sa_28), .val (.ref b48), .unset, .unset, .unset] []) G
    refine Gl.via (fun _ k => XS.aload X71.here hx rfl (hb hby at_137) rfl rfl k) ?_
    show Gl p.tables e below T71 (mkF m 139 #[.val (.int p0), .val (.int p1), .val (.int p2), .val (.int (p0 &&& (3 : Int32))), .val (.int ((p0.toUInt32 >>> ((2 : Int32) &&& 31).toUInt32).toInt32 &&& (255 : Int32))), .val (.int ((p0.toUInt32 >>> ((10 : Int32) &&& 31).toUInt32).toInt32 &&& (255 : Int32))), .val (.int ((p0.toUInt32 >>> ((18 : Int32) &&& 31).toUInt32).toInt32 &&& (255 : Int32))), .val (.int (p1 &&& (3 : Int32))), .val (.int ((p1.toUInt32 >>> ((2 : Int32) &&& 31).toUInt32).toInt32 &&& (255 : Int32))), .val (.int ((p1.toUInt32 >>> ((10 : Int32) &&& 31).toUInt32).toInt32 &&& (255 : Int32))), .val (.int ((p1.toUInt32 >>> ((18 : Int32) &&& 31).toUInt32).toInt32 &&& (255 : Int32))), .val (.ref sa_1), .val (.ref sa_13), .val (.ref sa_28), .val (.ref b48), .unset, .unset, .unset] [(.ref b48)]) G
    have G82 : Exa Z T71.heap sa_1 "java/lang/String" := ((G49.ext E48).keep K71)
    have G83 : Fld Z T71.heap sa_1 "java/lang/String" "coder" "B" (.int (0 : Int32)) := ((((P3.keep K13 nin0).keep K28 nin0).ext E48).keep K71 (ninS ne50 nin0))
    have G84 : Fld Z T71.heap sa_1 "java/lang/String" "value" "[B" (.ref sb_1) := ((((P4.keep K13 nin0).keep K28 nin0).ext E48).keep K71 (ninS ne50 nin0))
    have G85 : Arv Z T71.heap sb_1 sk_1 .byte (own_ln (own_mk (p0 &&& (3 : Int32)) ((p0.toUInt32 >>> ((2 : Int32) &&& 31).toUInt32).toInt32 &&& (255 : Int32)) ((p0.toUInt32 >>> ((10 : Int32) &&& 31).toUInt32).toInt32 &&& (255 : Int32)) ((p0.toUInt32 >>> ((18 : Int32) &&& 31).toUInt32).toInt32 &&& (255 : Int32)))) ((own_mk (p0 &&& (3 : Int32)) ((p0.toUInt32 >>> ((2 : Int32) &&& 31).toUInt32).toInt32 &&& (255 : Int32)) ((p0.toUInt32 >>> ((10 : Int32) &&& 31).toUInt32).toInt32 &&& (255 : Int32)) ((p0.toUInt32 >>> ((18 : Int32) &&& 31).toUInt32).toInt32 &&& (255 : Int32))).map Value.int) (.int (0 : Int32)) := ((G51.ext E48).keep K71 (ninS ne52 nin0))
    have G86 : Exa Z T71.heap sa_13 "java/lang/String" := ((G53.ext E48).keep K71)
    have G87 : Fld Z T71.heap sa_13 "java/lang/String" "coder" "B" (.int (0 : Int32)) := (((P16.keep K28 nin0).ext E48).keep K71 (ninS ne54 nin0))
    have G88 : Fld Z T71.heap sa_13 "java/lang/String" "value" "[B" (.ref sb_13) := (((P17.keep K28 nin0).ext E48).keep K71 (ninS ne54 nin0))
    have G89 : Arv Z T71.heap sb_13 sk_13 .byte (own_ln (own_mk (p1 &&& (3 : Int32)) ((p1.toUInt32 >>> ((2 : Int32) &&& 31).toUInt32).toInt32 &&& (255 : Int32)) ((p1.toUInt32 >>> ((10 : Int32) &&& 31).toUInt32).toInt32 &&& (255 : Int32)) ((p1.toUInt32 >>> ((18 : Int32) &&& 31).toUInt32).toInt32 &&& (255 : Int32)))) ((own_mk (p1 &&& (3 : Int32)) ((p1.toUInt32 >>> ((2 : Int32) &&& 31).toUInt32).toInt32 &&& (255 : Int32)) ((p1.toUInt32 >>> ((10 : Int32) &&& 31).toUInt32).toInt32 &&& (255 : Int32)) ((p1.toUInt32 >>> ((18 : Int32) &&& 31).toUInt32).toInt32 &&& (255 : Int32))).map Value.int) (.int (0 : Int32)) := ((G55.ext E48).keep K71 (ninS ne56 nin0))
    have G90 : Old Z n0 T71.heap := (((G29.keep K28 all0).ext E48).keep K71 (allS ge59 all0))
    have G91 : Exa Z T71.heap sa_28 "java/lang/String" := ((P30.ext E48).keep K71)
    obtain ⟨cq81, kq81, q81a, q81b, q81c⟩ := isOf hZ13 rfl P72
    obtain ⟨_, _, ⟨T81, L81, k81, n81⟩, -, Xb81, hSb81, hgb81, ⟨Lc81, hQ81, l81, y81, z81, hC81⟩, st81⟩ := X71.virtualBackS hx (y := (⟨"candorpay/Command$Option", "synopsis", "()Ljava/lang/String;"⟩ : MethodName)) (z := (⟨"candorpay/Command$Option", "synopsis", "()Ljava/lang/String;"⟩ : MethodName)) hown13 (mvT hZ13 (hw _ (List.mem_of_getElem? (i := 71) rfl))) (mvT hZ13 (hw _ (List.mem_of_getElem? (i := 72) rfl))) (notFace_of_selects (args := #[]) (mvT hZ13 (hw _ (List.mem_of_getElem? (i := 74) rfl)))) (mvT hZ13 (hw _ (List.mem_of_getElem? (i := 74) rfl))) (mvT hZ13 (hw _ (List.mem_of_getElem? (i := 73) rfl))) (by decide) (own_back (W := 0) (syn l Z a0 hw [] b48 sa_1 sb_1 sk_1 (own_mk (p0 &&& (3 : Int32)) ((p0.toUInt32 >>> ((2 : Int32) &&& 31).toUInt32).toInt32 &&& (255 : Int32)) ((p0.toUInt32 >>> ((10 : Int32) &&& 31).toUInt32).toInt32 &&& (255 : Int32)) ((p0.toUInt32 >>> ((18 : Int32) &&& 31).toUInt32).toInt32 &&& (255 : Int32))) sa_13 sb_13 sk_13 (own_mk (p1 &&& (3 : Int32)) ((p1.toUInt32 >>> ((2 : Int32) &&& 31).toUInt32).toInt32 &&& (255 : Int32)) ((p1.toUInt32 >>> ((10 : Int32) &&& 31).toUInt32).toInt32 &&& (255 : Int32)) ((p1.toUInt32 >>> ((18 : Int32) &&& 31).toUInt32).toInt32 &&& (255 : Int32))) cps T71.heap n0 Z78 P73 P74 G82 G83 G84 G85 G86 G87 G88 G89 F0_java_lang_String G90 hcps own_mklen own_mklen) hZ13 (hw _ (List.mem_of_getElem? (i := 75) rfl)) (hw _ (List.mem_of_getElem? (i := 53) rfl)) (by decide) (by decide) hEL CR75.1 (fun _ z => nomatch z)) q81a q81c (g := (mkF m 139 #[.val (.int p0), .val (.int p1), .val (.int p2), .val (.int (p0 &&& (3 : Int32))), .val (.int ((p0.toUInt32 >>> ((2 : Int32) &&& 31).toUInt32).toInt32 &&& (255 : Int32))), .val (.int ((p0.toUInt32 >>> ((10 : Int32) &&& 31).toUInt32).toInt32 &&& (255 : Int32))), .val (.int ((p0.toUInt32 >>> ((18 : Int32) &&& 31).toUInt32).toInt32 &&& (255 : Int32))), .val (.int (p1 &&& (3 : Int32))), .val (.int ((p1.toUInt32 >>> ((2 : Int32) &&& 31).toUInt32).toInt32 &&& (255 : Int32))), .val (.int ((p1.toUInt32 >>> ((10 : Int32) &&& 31).toUInt32).toInt32 &&& (255 : Int32))), .val (.int ((p1.toUInt32 >>> ((18 : Int32) &&& 31).toUInt32).toInt32 &&& (255 : Int32))), .val (.ref sa_1), .val (.ref sa_13), .val (.ref sa_28), .val (.ref b48), .unset, .unset, .unset] [(.ref b48)])) rfl (by rw [hml]; rfl) (Steps.refl _) (argsL := []) (rest := []) (lenOf pd_27 rfl) rfl (by show 2 * 0 + _ ≤ _; exact Nat.le_of_eq rfl) (hb hby at_139) (fun _ _ => ⟨rfl, rfl, (by decide : 15 + 6 ≤ _), (by decide : 33 + 48 ≤ _)⟩)
    dsimp only [Pt.U, Pt.locs, Pt.cells, Pt.slots] at Xb81 hSb81 hgb81 l81 y81 z81 st81 hQ81 hC81
    subst l81 y81 z81
    obtain ⟨X81, hS81, hZ81, hown81⟩ := rebS hS13 hl80 Xb81 hSb81 hgb81 hZ13 hown13
    have hk81 : T81.heap.size ≤ T81.heap.size := Nat.le_refl _
    obtain ⟨ra_81, rb_81, rk_81, rfl, N81q, K81, P92, P93, P94, P95, R96⟩ := hQ81
    have N81_ := Fr.app N71_ N81q
    refine Gl.via (fun _ k => st81.trans k) ?_
    have ne97 : sa_1 ≠ ra_81 := Nat.ne_of_lt (Nat.lt_of_lt_of_le G82.lt R96)
    have ne98 : sb_1 ≠ ra_81 := Nat.ne_of_lt (Nat.lt_of_lt_of_le G85.lt R96)
    have ne99 : sa_13 ≠ ra_81 := Nat.ne_of_lt (Nat.lt_of_lt_of_le G86.lt R96)
    have ne100 : sb_13 ≠ ra_81 := Nat.ne_of_lt (Nat.lt_of_lt_of_le G89.lt R96)
    have ne101 : sa_28 ≠ ra_81 := Nat.ne_of_lt (Nat.lt_of_lt_of_le G91.lt R96)
    have G102 : Arv Z T71.heap sb_28 sk_28 .byte (own_ln ([(((p2.toUInt32 >>> ((1 : Int32) &&& 31).toUInt32).toInt32 &&& (255 : Int32)).toInt8.toInt32)] : List Int32)) (([(((p2.toUInt32 >>> ((1 : Int32) &&& 31).toUInt32).toInt32 &&& (255 : Int32)).toInt8.toInt32)] : List Int32).map Value.int) (.int (0 : Int32)) := ((P33.ext E48).keep K71 (ninS ne58 nin0))
    have ne103 : sb_28 ≠ ra_81 := Nat.ne_of_lt (Nat.lt_of_lt_of_le G102.lt R96)
    have ne104 : b48 ≠ ra_81 := Nat.ne_of_lt (Nat.lt_of_lt_of_le P72.lt R96)
    have ge105 : n0 ≤ ra_81 := Nat.le_trans Z78 R96
    have gz106 : h0.size ≤ ra_81 := Nat.le_trans Y79 R96
    have CR107 : CHr Z own_EL s.vm h0 T81.vm T81.heap := CHr.trans CR75 hC81
    have SF108 : Safe Z own_EL T81.vm T81.heap sa_28 := hC81.safe (by have q := G91.lt; exact q) SF76
    have SF109 : Safe Z own_EL T81.vm T81.heap b48 := hC81.safe (by have q := P72.lt; exact q) SF77
    have Z110 : n0 ≤ T81.heap.size := Nat.le_trans Z78 K81.1
    have Y111 : h0.size ≤ T81.heap.size := Nat.le_trans Y79 K81.1
    have hl112 := Nat.le_trans hl80 K81.1
    show Gl p.tables e below T81 (mkF m 142 #[.val (.int p0), .val (.int p1), .val (.int p2), .val (.int (p0 &&& (3 : Int32))), .val (.int ((p0.toUInt32 >>> ((2 : Int32) &&& 31).toUInt32).toInt32 &&& (255 : Int32))), .val (.int ((p0.toUInt32 >>> ((10 : Int32) &&& 31).toUInt32).toInt32 &&& (255 : Int32))), .val (.int ((p0.toUInt32 >>> ((18 : Int32) &&& 31).toUInt32).toInt32 &&& (255 : Int32))), .val (.int (p1 &&& (3 : Int32))), .val (.int ((p1.toUInt32 >>> ((2 : Int32) &&& 31).toUInt32).toInt32 &&& (255 : Int32))), .val (.int ((p1.toUInt32 >>> ((10 : Int32) &&& 31).toUInt32).toInt32 &&& (255 : Int32))), .val (.int ((p1.toUInt32 >>> ((18 : Int32) &&& 31).toUInt32).toInt32 &&& (255 : Int32))), .val (.ref sa_1), .val (.ref sa_13), .val (.ref sa_28), .val (.ref b48), .unset, .unset, .unset] [(.ref ra_81)]) G
    have V113 : Arv Z T81.heap rb_81 rk_81 .byte (own_ln (own_scat (32 : Int32) (p0 &&& (3 : Int32)) ((p0.toUInt32 >>> ((2 : Int32) &&& 31).toUInt32).toInt32 &&& (255 : Int32)) ((p0.toUInt32 >>> ((10 : Int32) &&& 31).toUInt32).toInt32 &&& (255 : Int32)) ((p0.toUInt32 >>> ((18 : Int32) &&& 31).toUInt32).toInt32 &&& (255 : Int32)) (p1 &&& (3 : Int32)) ((p1.toUInt32 >>> ((2 : Int32) &&& 31).toUInt32).toInt32 &&& (255 : Int32)) ((p1.toUInt32 >>> ((10 : Int32) &&& 31).toUInt32).toInt32 &&& (255 : Int32)) ((p1.toUInt32 >>> ((18 : Int32) &&& 31).toUInt32).toInt32 &&& (255 : Int32)))) ((own_scat (32 : Int32) (p0 &&& (3 : Int32)) ((p0.toUInt32 >>> ((2 : Int32) &&& 31).toUInt32).toInt32 &&& (255 : Int32)) ((p0.toUInt32 >>> ((10 : Int32) &&& 31).toUInt32).toInt32 &&& (255 : Int32)) ((p0.toUInt32 >>> ((18 : Int32) &&& 31).toUInt32).toInt32 &&& (255 : Int32)) (p1 &&& (3 : Int32)) ((p1.toUInt32 >>> ((2 : Int32) &&& 31).toUInt32).toInt32 &&& (255 : Int32)) ((p1.toUInt32 >>> ((10 : Int32) &&& 31).toUInt32).toInt32 &&& (255 : Int32)) ((p1.toUInt32 >>> ((18 : Int32) &&& 31).toUInt32).toInt32 &&& (255 : Int32))).map Value.int) (.int (0 : Int32)) := P95
    refine Gl.via (fun _ k => XS.astore X81.here hx rfl (hb hby at_142) rfl rfl (l' := #[.val (.int p0), .val (.int p1), .val (.int p2), .val (.int (p0 &&& (3 : Int32))), .val (.int ((p0.toUInt32 >>> ((2 : Int32) &&& 31).toUInt32).toInt32 &&& (255 : Int32))), .val (.int ((p0.toUInt32 >>> ((10 : Int32) &&& 31).toUInt32).toInt32 &&& (255 : Int32))), .val (.int ((p0.toUInt32 >>> ((18 : Int32) &&& 31).toUInt32).toInt32 &&& (255 : Int32))), .val (.int (p1 &&& (3 : Int32))), .val (.int ((p1.toUInt32 >>> ((2 : Int32) &&& 31).toUInt32).toInt32 &&& (255 : Int32))), .val (.int ((p1.toUInt32 >>> ((10 : Int32) &&& 31).toUInt32).toInt32 &&& (255 : Int32))), .val (.int ((p1.toUInt32 >>> ((18 : Int32) &&& 31).toUInt32).toInt32 &&& (255 : Int32))), .val (.ref sa_1), .val (.ref sa_13), .val (.ref sa_28), .val (.ref b48), .val (.ref ra_81), .unset, .unset]) rfl k) ?_
    show Gl p.tables e below T81 (mkF m 144 #[.val (.int p0), .val (.int p1), .val (.int p2), .val (.int (p0 &&& (3 : Int32))), .val (.int ((p0.toUInt32 >>> ((2 : Int32) &&& 31).toUInt32).toInt32 &&& (255 : Int32))), .val (.int ((p0.toUInt32 >>> ((10 : Int32) &&& 31).toUInt32).toInt32 &&& (255 : Int32))), .val (.int ((p0.toUInt32 >>> ((18 : Int32) &&& 31).toUInt32).toInt32 &&& (255 : Int32))), .val (.int (p1 &&& (3 : Int32))), .val (.int ((p1.toUInt32 >>> ((2 : Int32) &&& 31).toUInt32).toInt32 &&& (255 : Int32))), .val (.int ((p1.toUInt32 >>> ((10 : Int32) &&& 31).toUInt32).toInt32 &&& (255 : Int32))), .val (.int ((p1.toUInt32 >>> ((18 : Int32) &&& 31).toUInt32).toInt32 &&& (255 : Int32))), .val (.ref sa_1), .val (.ref sa_13), .val (.ref sa_28), .val (.ref b48), .val (.ref ra_81), .unset, .unset] []) G
    refine Gl.via (fun _ k => XS.aload X81.here hx rfl (hb hby at_144) rfl rfl k) ?_
    show Gl p.tables e below T81 (mkF m 146 #[.val (.int p0), .val (.int p1), .val (.int p2), .val (.int (p0 &&& (3 : Int32))), .val (.int ((p0.toUInt32 >>> ((2 : Int32) &&& 31).toUInt32).toInt32 &&& (255 : Int32))), .val (.int ((p0.toUInt32 >>> ((10 : Int32) &&& 31).toUInt32).toInt32 &&& (255 : Int32))), .val (.int ((p0.toUInt32 >>> ((18 : Int32) &&& 31).toUInt32).toInt32 &&& (255 : Int32))), .val (.int (p1 &&& (3 : Int32))), .val (.int ((p1.toUInt32 >>> ((2 : Int32) &&& 31).toUInt32).toInt32 &&& (255 : Int32))), .val (.int ((p1.toUInt32 >>> ((10 : Int32) &&& 31).toUInt32).toInt32 &&& (255 : Int32))), .val (.int ((p1.toUInt32 >>> ((18 : Int32) &&& 31).toUInt32).toInt32 &&& (255 : Int32))), .val (.ref sa_1), .val (.ref sa_13), .val (.ref sa_28), .val (.ref b48), .val (.ref ra_81), .unset, .unset] [(.ref ra_81)]) G
    refine Gl.via (fun _ k => XS.ifnullNo X81.here hx rfl (hb hby at_146) rfl k) ?_
    show Gl p.tables e below T81 (mkF m 149 #[.val (.int p0), .val (.int p1), .val (.int p2), .val (.int (p0 &&& (3 : Int32))), .val (.int ((p0.toUInt32 >>> ((2 : Int32) &&& 31).toUInt32).toInt32 &&& (255 : Int32))), .val (.int ((p0.toUInt32 >>> ((10 : Int32) &&& 31).toUInt32).toInt32 &&& (255 : Int32))), .val (.int ((p0.toUInt32 >>> ((18 : Int32) &&& 31).toUInt32).toInt32 &&& (255 : Int32))), .val (.int (p1 &&& (3 : Int32))), .val (.int ((p1.toUInt32 >>> ((2 : Int32) &&& 31).toUInt32).toInt32 &&& (255 : Int32))), .val (.int ((p1.toUInt32 >>> ((10 : Int32) &&& 31).toUInt32).toInt32 &&& (255 : Int32))), .val (.int ((p1.toUInt32 >>> ((18 : Int32) &&& 31).toUInt32).toInt32 &&& (255 : Int32))), .val (.ref sa_1), .val (.ref sa_13), .val (.ref sa_28), .val (.ref b48), .val (.ref ra_81), .unset, .unset] []) G
    refine Gl.via (fun _ k => XS.aload X81.here hx rfl (hb hby at_149) rfl rfl k) ?_
    show Gl p.tables e below T81 (mkF m 151 #[.val (.int p0), .val (.int p1), .val (.int p2), .val (.int (p0 &&& (3 : Int32))), .val (.int ((p0.toUInt32 >>> ((2 : Int32) &&& 31).toUInt32).toInt32 &&& (255 : Int32))), .val (.int ((p0.toUInt32 >>> ((10 : Int32) &&& 31).toUInt32).toInt32 &&& (255 : Int32))), .val (.int ((p0.toUInt32 >>> ((18 : Int32) &&& 31).toUInt32).toInt32 &&& (255 : Int32))), .val (.int (p1 &&& (3 : Int32))), .val (.int ((p1.toUInt32 >>> ((2 : Int32) &&& 31).toUInt32).toInt32 &&& (255 : Int32))), .val (.int ((p1.toUInt32 >>> ((10 : Int32) &&& 31).toUInt32).toInt32 &&& (255 : Int32))), .val (.int ((p1.toUInt32 >>> ((18 : Int32) &&& 31).toUInt32).toInt32 &&& (255 : Int32))), .val (.ref sa_1), .val (.ref sa_13), .val (.ref sa_28), .val (.ref b48), .val (.ref ra_81), .unset, .unset] [(.ref ra_81)]) G
    have G115 : Old Z n0 T81.heap := (G90.keep K81 all0)
    obtain ⟨cq114, kq114, q114a, q114b, q114c⟩ := isOf hZ81 rfl P92
    obtain ⟨_, _, ⟨T114, L114, k114, n114⟩, -, X114, ⟨Lc114, hQ114, l114, y114, z114⟩, st114⟩ := X81.virtualBack hx (y := (⟨"java/lang/String", "length", "()I"⟩ : MethodName)) (z := (⟨"java/lang/String", "length", "()I"⟩ : MethodName)) hown81 (mvT hZ81 (hw _ (List.mem_of_getElem? (i := 187) rfl))) (mvT hZ81 (hw _ (List.mem_of_getElem? (i := 105) rfl))) (notFace_of_selects (args := #[]) (mvT hZ81 (hw _ (List.mem_of_getElem? (i := 107) rfl)))) (mvT hZ81 (hw _ (List.mem_of_getElem? (i := 107) rfl))) (mvT hZ81 (hw _ (List.mem_of_getElem? (i := 106) rfl))) (by decide) (backOf (W := 0) (st_len l Z a0 hw [] ra_81 rb_81 rk_81 (own_scat (32 : Int32) (p0 &&& (3 : Int32)) ((p0.toUInt32 >>> ((2 : Int32) &&& 31).toUInt32).toInt32 &&& (255 : Int32)) ((p0.toUInt32 >>> ((10 : Int32) &&& 31).toUInt32).toInt32 &&& (255 : Int32)) ((p0.toUInt32 >>> ((18 : Int32) &&& 31).toUInt32).toInt32 &&& (255 : Int32)) (p1 &&& (3 : Int32)) ((p1.toUInt32 >>> ((2 : Int32) &&& 31).toUInt32).toInt32 &&& (255 : Int32)) ((p1.toUInt32 >>> ((10 : Int32) &&& 31).toUInt32).toInt32 &&& (255 : Int32)) ((p1.toUInt32 >>> ((18 : Int32) &&& 31).toUInt32).toInt32 &&& (255 : Int32))) cps T81.heap n0 Z110 P92 P93 P94 V113 F0_java_lang_String G115 hcps) hZ81 (hw _ (List.mem_of_getElem? (i := 108) rfl)) (hw _ (List.mem_of_getElem? (i := 6) rfl)) (by decide) (by decide)) q114a q114c (g := (mkF m 151 #[.val (.int p0), .val (.int p1), .val (.int p2), .val (.int (p0 &&& (3 : Int32))), .val (.int ((p0.toUInt32 >>> ((2 : Int32) &&& 31).toUInt32).toInt32 &&& (255 : Int32))), .val (.int ((p0.toUInt32 >>> ((10 : Int32) &&& 31).toUInt32).toInt32 &&& (255 : Int32))), .val (.int ((p0.toUInt32 >>> ((18 : Int32) &&& 31).toUInt32).toInt32 &&& (255 : Int32))), .val (.int (p1 &&& (3 : Int32))), .val (.int ((p1.toUInt32 >>> ((2 : Int32) &&& 31).toUInt32).toInt32 &&& (255 : Int32))), .val (.int ((p1.toUInt32 >>> ((10 : Int32) &&& 31).toUInt32).toInt32 &&& (255 : Int32))), .val (.int ((p1.toUInt32 >>> ((18 : Int32) &&& 31).toUInt32).toInt32 &&& (255 : Int32))), .val (.ref sa_1), .val (.ref sa_13), .val (.ref sa_28), .val (.ref b48), .val (.ref ra_81), .unset, .unset] [(.ref ra_81)])) rfl (by rw [hml]; rfl) (Steps.refl _) (argsL := []) (rest := []) (lenOf pd_8 rfl) rfl (by show 2 * 0 + _ ≤ _; exact Nat.le_of_eq rfl) (hb hby at_151) (fun _ _ => ⟨rfl, rfl, (by decide : 21 + 0 ≤ _), (by decide : 81 + 0 ≤ _)⟩)
    dsimp only [Pt.U, Pt.locs, Pt.cells, Pt.slots] at X114 l114 y114 z114 st114 hQ114
    subst l114 y114 z114
    obtain ⟨rfl, N114q, eh114⟩ := hQ114
    have N114_ := Fr.app N81_ N114q
    refine Gl.via (fun _ k => st114.trans k) ?_
    show Gl p.tables e below T114 (mkF m 154 #[.val (.int p0), .val (.int p1), .val (.int p2), .val (.int (p0 &&& (3 : Int32))), .val (.int ((p0.toUInt32 >>> ((2 : Int32) &&& 31).toUInt32).toInt32 &&& (255 : Int32))), .val (.int ((p0.toUInt32 >>> ((10 : Int32) &&& 31).toUInt32).toInt32 &&& (255 : Int32))), .val (.int ((p0.toUInt32 >>> ((18 : Int32) &&& 31).toUInt32).toInt32 &&& (255 : Int32))), .val (.int (p1 &&& (3 : Int32))), .val (.int ((p1.toUInt32 >>> ((2 : Int32) &&& 31).toUInt32).toInt32 &&& (255 : Int32))), .val (.int ((p1.toUInt32 >>> ((10 : Int32) &&& 31).toUInt32).toInt32 &&& (255 : Int32))), .val (.int ((p1.toUInt32 >>> ((18 : Int32) &&& 31).toUInt32).toInt32 &&& (255 : Int32))), .val (.ref sa_1), .val (.ref sa_13), .val (.ref sa_28), .val (.ref b48), .val (.ref ra_81), .unset, .unset] [(.int (own_ln (own_scat (32 : Int32) (p0 &&& (3 : Int32)) ((p0.toUInt32 >>> ((2 : Int32) &&& 31).toUInt32).toInt32 &&& (255 : Int32)) ((p0.toUInt32 >>> ((10 : Int32) &&& 31).toUInt32).toInt32 &&& (255 : Int32)) ((p0.toUInt32 >>> ((18 : Int32) &&& 31).toUInt32).toInt32 &&& (255 : Int32)) (p1 &&& (3 : Int32)) ((p1.toUInt32 >>> ((2 : Int32) &&& 31).toUInt32).toInt32 &&& (255 : Int32)) ((p1.toUInt32 >>> ((10 : Int32) &&& 31).toUInt32).toInt32 &&& (255 : Int32)) ((p1.toUInt32 >>> ((18 : Int32) &&& 31).toUInt32).toInt32 &&& (255 : Int32)))))]) G
    refine Gl.via (fun _ k => XS.iloadN X114.here hx rfl (hb hby at_154) rfl k) ?_
    show Gl p.tables e below T114 (mkF m 155 #[.val (.int p0), .val (.int p1), .val (.int p2), .val (.int (p0 &&& (3 : Int32))), .val (.int ((p0.toUInt32 >>> ((2 : Int32) &&& 31).toUInt32).toInt32 &&& (255 : Int32))), .val (.int ((p0.toUInt32 >>> ((10 : Int32) &&& 31).toUInt32).toInt32 &&& (255 : Int32))), .val (.int ((p0.toUInt32 >>> ((18 : Int32) &&& 31).toUInt32).toInt32 &&& (255 : Int32))), .val (.int (p1 &&& (3 : Int32))), .val (.int ((p1.toUInt32 >>> ((2 : Int32) &&& 31).toUInt32).toInt32 &&& (255 : Int32))), .val (.int ((p1.toUInt32 >>> ((10 : Int32) &&& 31).toUInt32).toInt32 &&& (255 : Int32))), .val (.int ((p1.toUInt32 >>> ((18 : Int32) &&& 31).toUInt32).toInt32 &&& (255 : Int32))), .val (.ref sa_1), .val (.ref sa_13), .val (.ref sa_28), .val (.ref b48), .val (.ref ra_81), .unset, .unset] [(.int (p0 &&& (3 : Int32))), (.int (own_ln (own_scat (32 : Int32) (p0 &&& (3 : Int32)) ((p0.toUInt32 >>> ((2 : Int32) &&& 31).toUInt32).toInt32 &&& (255 : Int32)) ((p0.toUInt32 >>> ((10 : Int32) &&& 31).toUInt32).toInt32 &&& (255 : Int32)) ((p0.toUInt32 >>> ((18 : Int32) &&& 31).toUInt32).toInt32 &&& (255 : Int32)) (p1 &&& (3 : Int32)) ((p1.toUInt32 >>> ((2 : Int32) &&& 31).toUInt32).toInt32 &&& (255 : Int32)) ((p1.toUInt32 >>> ((10 : Int32) &&& 31).toUInt32).toInt32 &&& (255 : Int32)) ((p1.toUInt32 >>> ((18 : Int32) &&& 31).toUInt32).toInt32 &&& (255 : Int32)))))]) G
    refine Gl.via (fun _ k => XS.iconst X114.here hx rfl (hb hby at_155) k) ?_
    show Gl p.tables e below T114 (mkF m 156 #[.val (.int p0), .val (.int p1), .val (.int p2), .val (.int (p0 &&& (3 : Int32))), .val (.int ((p0.toUInt32 >>> ((2 : Int32) &&& 31).toUInt32).toInt32 &&& (255 : Int32))), .val (.int ((p0.toUInt32 >>> ((10 : Int32) &&& 31).toUInt32).toInt32 &&& (255 : Int32))), .val (.int ((p0.toUInt32 >>> ((18 : Int32) &&& 31).toUInt32).toInt32 &&& (255 : Int32))), .val (.int (p1 &&& (3 : Int32))), .val (.int ((p1.toUInt32 >>> ((2 : Int32) &&& 31).toUInt32).toInt32 &&& (255 : Int32))), .val (.int ((p1.toUInt32 >>> ((10 : Int32) &&& 31).toUInt32).toInt32 &&& (255 : Int32))), .val (.int ((p1.toUInt32 >>> ((18 : Int32) &&& 31).toUInt32).toInt32 &&& (255 : Int32))), .val (.ref sa_1), .val (.ref sa_13), .val (.ref sa_28), .val (.ref b48), .val (.ref ra_81), .unset, .unset] [(.int (1 : Int32)), (.int (p0 &&& (3 : Int32))), (.int (own_ln (own_scat (32 : Int32) (p0 &&& (3 : Int32)) ((p0.toUInt32 >>> ((2 : Int32) &&& 31).toUInt32).toInt32 &&& (255 : Int32)) ((p0.toUInt32 >>> ((10 : Int32) &&& 31).toUInt32).toInt32 &&& (255 : Int32)) ((p0.toUInt32 >>> ((18 : Int32) &&& 31).toUInt32).toInt32 &&& (255 : Int32)) (p1 &&& (3 : Int32)) ((p1.toUInt32 >>> ((2 : Int32) &&& 31).toUInt32).toInt32 &&& (255 : Int32)) ((p1.toUInt32 >>> ((10 : Int32) &&& 31).toUInt32).toInt32 &&& (255 : Int32)) ((p1.toUInt32 >>> ((18 : Int32) &&& 31).toUInt32).toInt32 &&& (255 : Int32)))))]) G
    refine Gl.via (fun _ k => XS.iadd X114.here hx rfl (hb hby at_156) rfl k) ?_
    show Gl p.tables e below T114 (mkF m 157 #[.val (.int p0), .val (.int p1), .val (.int p2), .val (.int (p0 &&& (3 : Int32))), .val (.int ((p0.toUInt32 >>> ((2 : Int32) &&& 31).toUInt32).toInt32 &&& (255 : Int32))), .val (.int ((p0.toUInt32 >>> ((10 : Int32) &&& 31).toUInt32).toInt32 &&& (255 : Int32))), .val (.int ((p0.toUInt32 >>> ((18 : Int32) &&& 31).toUInt32).toInt32 &&& (255 : Int32))), .val (.int (p1 &&& (3 : Int32))), .val (.int ((p1.toUInt32 >>> ((2 : Int32) &&& 31).toUInt32).toInt32 &&& (255 : Int32))), .val (.int ((p1.toUInt32 >>> ((10 : Int32) &&& 31).toUInt32).toInt32 &&& (255 : Int32))), .val (.int ((p1.toUInt32 >>> ((18 : Int32) &&& 31).toUInt32).toInt32 &&& (255 : Int32))), .val (.ref sa_1), .val (.ref sa_13), .val (.ref sa_28), .val (.ref b48), .val (.ref ra_81), .unset, .unset] [(.int ((p0 &&& (3 : Int32)) + (1 : Int32))), (.int (own_ln (own_scat (32 : Int32) (p0 &&& (3 : Int32)) ((p0.toUInt32 >>> ((2 : Int32) &&& 31).toUInt32).toInt32 &&& (255 : Int32)) ((p0.toUInt32 >>> ((10 : Int32) &&& 31).toUInt32).toInt32 &&& (255 : Int32)) ((p0.toUInt32 >>> ((18 : Int32) &&& 31).toUInt32).toInt32 &&& (255 : Int32)) (p1 &&& (3 : Int32)) ((p1.toUInt32 >>> ((2 : Int32) &&& 31).toUInt32).toInt32 &&& (255 : Int32)) ((p1.toUInt32 >>> ((10 : Int32) &&& 31).toUInt32).toInt32 &&& (255 : Int32)) ((p1.toUInt32 >>> ((18 : Int32) &&& 31).toUInt32).toInt32 &&& (255 : Int32)))))]) G
    refine Gl.via (fun _ k => XS.iload X114.here hx rfl (hb hby at_157) rfl k) ?_
    show Gl p.tables e below T114 (mkF m 159 #[.val (.int p0), .val (.int p1), .val (.int p2), .val (.int (p0 &&& (3 : Int32))), .val (.int ((p0.toUInt32 >>> ((2 : Int32) &&& 31).toUInt32).toInt32 &&& (255 : Int32))), .val (.int ((p0.toUInt32 >>> ((10 : Int32) &&& 31).toUInt32).toInt32 &&& (255 : Int32))), .val (.int ((p0.toUInt32 >>> ((18 : Int32) &&& 31).toUInt32).toInt32 &&& (255 : Int32))), .val (.int (p1 &&& (3 : Int32))), .val (.int ((p1.toUInt32 >>> ((2 : Int32) &&& 31).toUInt32).toInt32 &&& (255 : Int32))), .val (.int ((p1.toUInt32 >>> ((10 : Int32) &&& 31).toUInt32).toInt32 &&& (255 : Int32))), .val (.int ((p1.toUInt32 >>> ((18 : Int32) &&& 31).toUInt32).toInt32 &&& (255 : Int32))), .val (.ref sa_1), .val (.ref sa_13), .val (.ref sa_28), .val (.ref b48), .val (.ref ra_81), .unset, .unset] [(.int (p1 &&& (3 : Int32))), (.int ((p0 &&& (3 : Int32)) + (1 : Int32))), (.int (own_ln (own_scat (32 : Int32) (p0 &&& (3 : Int32)) ((p0.toUInt32 >>> ((2 : Int32) &&& 31).toUInt32).toInt32 &&& (255 : Int32)) ((p0.toUInt32 >>> ((10 : Int32) &&& 31).toUInt32).toInt32 &&& (255 : Int32)) ((p0.toUInt32 >>> ((18 : Int32) &&& 31).toUInt32).toInt32 &&& (255 : Int32)) (p1 &&& (3 : Int32)) ((p1.toUInt32 >>> ((2 : Int32) &&& 31).toUInt32).toInt32 &&& (255 : Int32)) ((p1.toUInt32 >>> ((10 : Int32) &&& 31).toUInt32).toInt32 &&& (255 : Int32)) ((p1.toUInt32 >>> ((18 : Int32) &&& 31).toUInt32).toInt32 &&& (255 : Int32)))))]) G
    refine Gl.via (fun _ k => XS.iadd X114.here hx rfl (hb hby at_159) rfl k) ?_
    show Gl p.tables e below T114 (mkF m 160 #[.val (.int p0), .val (.int p1), .val (.int p2), .val (.int (p0 &&& (3 : Int32))), .val (.int ((p0.toUInt32 >>> ((2 : Int32) &&& 31).toUInt32).toInt32 &&& (255 : Int32))), .val (.int ((p0.toUInt32 >>> ((10 : Int32) &&& 31).toUInt32).toInt32 &&& (255 : Int32))), .val (.int ((p0.toUInt32 >>> ((18 : Int32) &&& 31).toUInt32).toInt32 &&& (255 : Int32))), .val (.int (p1 &&& (3 : Int32))), .val (.int ((p1.toUInt32 >>> ((2 : Int32) &&& 31).toUInt32).toInt32 &&& (255 : Int32))), .val (.int ((p1.toUInt32 >>> ((10 : Int32) &&& 31).toUInt32).toInt32 &&& (255 : Int32))), .val (.int ((p1.toUInt32 >>> ((18 : Int32) &&& 31).toUInt32).toInt32 &&& (255 : Int32))), .val (.ref sa_1), .val (.ref sa_13), .val (.ref sa_28), .val (.ref b48), .val (.ref ra_81), .unset, .unset] [(.int (((p0 &&& (3 : Int32)) + (1 : Int32)) + (p1 &&& (3 : Int32)))), (.int (own_ln (own_scat (32 : Int32) (p0 &&& (3 : Int32)) ((p0.toUInt32 >>> ((2 : Int32) &&& 31).toUInt32).toInt32 &&& (255 : Int32)) ((p0.toUInt32 >>> ((10 : Int32) &&& 31).toUInt32).toInt32 &&& (255 : Int32)) ((p0.toUInt32 >>> ((18 : Int32) &&& 31).toUInt32).toInt32 &&& (255 : Int32)) (p1 &&& (3 : Int32)) ((p1.toUInt32 >>> ((2 : Int32) &&& 31).toUInt32).toInt32 &&& (255 : Int32)) ((p1.toUInt32 >>> ((10 : Int32) &&& 31).toUInt32).toInt32 &&& (255 : Int32)) ((p1.toUInt32 >>> ((18 : Int32) &&& 31).toUInt32).toInt32 &&& (255 : Int32)))))]) G
    refine Gl.via (fun _ k => XS.icmpYes X114.here hx rfl (pc0 := 160) (pc' := 165) rfl (hb hby at_160) rfl (teq (own_scln (own_and3 p0) (own_and3 p1))).1 (by decide) (by decide) k) ?_
    show Gl p.tables e below T114 (mkF m 165 #[.val (.int p0), .val (.int p1), .val (.int p2), .val (.int (p0 &&& (3 : Int32))), .val (.int ((p0.toUInt32 >>> ((2 : Int32) &&& 31).toUInt32).toInt32 &&& (255 : Int32))), .val (.int ((p0.toUInt32 >>> ((10 : Int32) &&& 31).toUInt32).toInt32 &&& (255 : Int32))), .val (.int ((p0.toUInt32 >>> ((18 : Int32) &&& 31).toUInt32).toInt32 &&& (255 : Int32))), .val (.int (p1 &&& (3 : Int32))), .val (.int ((p1.toUInt32 >>> ((2 : Int32) &&& 31).toUInt32).toInt32 &&& (255 : Int32))), .val (.int ((p1.toUInt32 >>> ((10 : Int32) &&& 31).toUInt32).toInt32 &&& (255 : Int32))), .val (.int ((p1.toUInt32 >>> ((18 : Int32) &&& 31).toUInt32).toInt32 &&& (255 : Int32))), .val (.ref sa_1), .val (.ref sa_13), .val (.ref sa_28), .val (.ref b48), .val (.ref ra_81), .unset, .unset] []) G
    refine Gl.via (fun _ k => XS.iconst X114.here hx rfl (hb hby at_165) k) ?_
    show Gl p.tables e below T114 (mkF m 166 #[.val (.int p0), .val (.int p1), .val (.int p2), .val (.int (p0 &&& (3 : Int32))), .val (.int ((p0.toUInt32 >>> ((2 : Int32) &&& 31).toUInt32).toInt32 &&& (255 : Int32))), .val (.int ((p0.toUInt32 >>> ((10 : Int32) &&& 31).toUInt32).toInt32 &&& (255 : Int32))), .val (.int ((p0.toUInt32 >>> ((18 : Int32) &&& 31).toUInt32).toInt32 &&& (255 : Int32))), .val (.int (p1 &&& (3 : Int32))), .val (.int ((p1.toUInt32 >>> ((2 : Int32) &&& 31).toUInt32).toInt32 &&& (255 : Int32))), .val (.int ((p1.toUInt32 >>> ((10 : Int32) &&& 31).toUInt32).toInt32 &&& (255 : Int32))), .val (.int ((p1.toUInt32 >>> ((18 : Int32) &&& 31).toUInt32).toInt32 &&& (255 : Int32))), .val (.ref sa_1), .val (.ref sa_13), .val (.ref sa_28), .val (.ref b48), .val (.ref ra_81), .unset, .unset] [(.int (1 : Int32))]) G
    refine Gl.via (fun _ k => XS.istore X114.here hx rfl (hb hby at_166) rfl (l' := #[.val (.int p0), .val (.int p1), .val (.int p2), .val (.int (p0 &&& (3 : Int32))), .val (.int ((p0.toUInt32 >>> ((2 : Int32) &&& 31).toUInt32).toInt32 &&& (255 : Int32))), .val (.int ((p0.toUInt32 >>> ((10 : Int32) &&& 31).toUInt32).toInt32 &&& (255 : Int32))), .val (.int ((p0.toUInt32 >>> ((18 : Int32) &&& 31).toUInt32).toInt32 &&& (255 : Int32))), .val (.int (p1 &&& (3 : Int32))), .val (.int ((p1.toUInt32 >>> ((2 : Int32) &&& 31).toUInt32).toInt32 &&& (255 : Int32))), .val (.int ((p1.toUInt32 >>> ((10 : Int32) &&& 31).toUInt32).toInt32 &&& (255 : Int32))), .val (.int ((p1.toUInt32 >>> ((18 : Int32) &&& 31).toUInt32).toInt32 &&& (255 : Int32))), .val (.ref sa_1), .val (.ref sa_13), .val (.ref sa_28), .val (.ref b48), .val (.ref ra_81), .val (.int (1 : Int32)), .unset]) rfl k) ?_
    show Gl p.tables e below T114 (mkF m 168 #[.val (.int p0), .val (.int p1), .val (.int p2), .val (.int (p0 &&& (3 : Int32))), .val (.int ((p0.toUInt32 >>> ((2 : Int32) &&& 31).toUInt32).toInt32 &&& (255 : Int32))), .val (.int ((p0.toUInt32 >>> ((10 : Int32) &&& 31).toUInt32).toInt32 &&& (255 : Int32))), .val (.int ((p0.toUInt32 >>> ((18 : Int32) &&& 31).toUInt32).toInt32 &&& (255 : Int32))), .val (.int (p1 &&& (3 : Int32))), .val (.int ((p1.toUInt32 >>> ((2 : Int32) &&& 31).toUInt32).toInt32 &&& (255 : Int32))), .val (.int ((p1.toUInt32 >>> ((10 : Int32) &&& 31).toUInt32).toInt32 &&& (255 : Int32))), .val (.int ((p1.toUInt32 >>> ((18 : Int32) &&& 31).toUInt32).toInt32 &&& (255 : Int32))), .val (.ref sa_1), .val (.ref sa_13), .val (.ref sa_28), .val (.ref b48), .val (.ref ra_81), .val (.int (1 : Int32)), .unset] []) G
    have J195 : ∀ (TJ195 : State) (LJ195 : List Loc), Stand p l e room_1 (s.setVm T81.vm) m #[(.int p0), (.int p1), (.int p2)] below meth c TJ195 LJ195 21 81 → TJ195.heap = T81.heap → Fr n0 LJ195 → Gl p.tables e below TJ195 (mkF m 195 #[.val (.int p0), .val (.int p1), .val (.int p2), .val (.int (p0 &&& (3 : Int32))), .val (.int ((p0.toUInt32 >>> ((2 : Int32) &&& 31).toUInt32).toInt32 &&& (255 : Int32))), .val (.int ((p0.toUInt32 >>> ((10 : Int32) &&& 31).toUInt32).toInt32 &&& (255 : Int32))), .val (.int ((p0.toUInt32 >>> ((18 : Int32) &&& 31).toUInt32).toInt32 &&& (255 : Int32))), .val (.int (p1 &&& (3 : Int32))), .val (.int ((p1.toUInt32 >>> ((2 : Int32) &&& 31).toUInt32).toInt32 &&& (255 : Int32))), .val (.int ((p1.toUInt32 >>> ((10 : Int32) &&& 31).toUInt32).toInt32 &&& (255 : Int32))), .val (.int ((p1.toUInt32 >>> ((18 : Int32) &&& 31).toUInt32).toInt32 &&& (255 : Int32))), .val (.ref sa_1), .val (.ref sa_13), .val (.ref sa_28), .val (.ref b48), .val (.ref ra_81), .val (.int (1 : Int32)), .unset] []) G := by
      intro TJ195 LJ195 XJ195 EJ195 NJ195
      show Gl p.tables e below TJ195 (mkF m 195 #[.val (.int p0), .val (.int p1), .val (.int p2), .val (.int (p0 &&& (3 : Int32))), .val (.int ((p0.toUInt32 >>> ((2 : Int32) &&& 31).toUInt32).toInt32 &&& (255 : Int32))), .val (.int ((p0.toUInt32 >>> ((10 : Int32) &&& 31).toUInt32).toInt32 &&& (255 : Int32))), .val (.int ((p0.toUInt32 >>> ((18 : Int32) &&& 31).toUInt32).toInt32 &&& (255 : Int32))), .val (.int (p1 &&& (3 : Int32))), .val (.int ((p1.toUInt32 >>> ((2 : Int32) &&& 31).toUInt32).toInt32 &&& (255 : Int32))), .val (.int ((p1.toUInt32 >>> ((10 : Int32) &&& 31).toUInt32).toInt32 &&& (255 : Int32))), .val (.int ((p1.toUInt32 >>> ((18 : Int32) &&& 31).toUInt32).toInt32 &&& (255 : Int32))), .val (.ref sa_1), .val (.ref sa_13), .val (.ref sa_28), .val (.ref b48), .val (.ref ra_81), .val (.int (1 : Int32)), .unset] []) G
      have J223 : ∀ (TJ223 : State) (LJ223 : List Loc), Stand p l e room_1 (s.setVm T81.vm) m #[(.int p0), (.int p1), (.int p2)] below meth c TJ223 LJ223 21 81 → TJ223.heap = T81.heap → Fr n0 LJ223 → Gl p.tables e below TJ223 (mkF m 223 #[.val (.int p0), .val (.int p1), .val (.int p2), .val (.int (p0 &&& (3 : Int32))), .val (.int ((p0.toUInt32 >>> ((2 : Int32) &&& 31).toUInt32).toInt32 &&& (255 : Int32))), .val (.int ((p0.toUInt32 >>> ((10 : Int32) &&& 31).toUInt32).toInt32 &&& (255 : Int32))), .val (.int ((p0.toUInt32 >>> ((18 : Int32) &&& 31).toUInt32).toInt32 &&& (255 : Int32))), .val (.int (p1 &&& (3 : Int32))), .val (.int ((p1.toUInt32 >>> ((2 : Int32) &&& 31).toUInt32).toInt32 &&& (255 : Int32))), .val (.int ((p1.toUInt32 >>> ((10 : Int32) &&& 31).toUInt32).toInt32 &&& (255 : Int32))), .val (.int ((p1.toUInt32 >>> ((18 : Int32) &&& 31).toUInt32).toInt32 &&& (255 : Int32))), .val (.ref sa_1), .val (.ref sa_13), .val (.ref sa_28), .val (.ref b48), .val (.ref ra_81), .val (.int (1 : Int32)), .unset] []) G := by
        intro TJ223 LJ223 XJ223 EJ223 NJ223
        show Gl p.tables e below TJ223 (mkF m 223 #[.val (.int p0), .val (.int p1), .val (.int p2), .val (.int (p0 &&& (3 : Int32))), .val (.int ((p0.toUInt32 >>> ((2 : Int32) &&& 31).toUInt32).toInt32 &&& (255 : Int32))), .val (.int ((p0.toUInt32 >>> ((10 : Int32) &&& 31).toUInt32).toInt32 &&& (255 : Int32))), .val (.int ((p0.toUInt32 >>> ((18 : Int32) &&& 31).toUInt32).toInt32 &&& (255 : Int32))), .val (.int (p1 &&& (3 : Int32))), .val (.int ((p1.toUInt32 >>> ((2 : Int32) &&& 31).toUInt32).toInt32 &&& (255 : Int32))), .val (.int ((p1.toUInt32 >>> ((10 : Int32) &&& 31).toUInt32).toInt32 &&& (255 : Int32))), .val (.int ((p1.toUInt32 >>> ((18 : Int32) &&& 31).toUInt32).toInt32 &&& (255 : Int32))), .val (.ref sa_1), .val (.ref sa_13), .val (.ref sa_28), .val (.ref b48), .val (.ref ra_81), .val (.int (1 : Int32)), .unset] []) G
        have J251 : ∀ (TJ251 : State) (LJ251 : List Loc), Stand p l e room_1 (s.setVm T81.vm) m #[(.int p0), (.int p1), (.int p2)] below meth c TJ251 LJ251 21 81 → TJ251.heap = T81.heap → Fr n0 LJ251 → Gl p.tables e below TJ251 (mkF m 251 #[.val (.int p0), .val (.int p1), .val (.int p2), .val (.int (p0 &&& (3 : Int32))), .val (.int ((p0.toUInt32 >>> ((2 : Int32) &&& 31).toUInt32).toInt32 &&& (255 : Int32))), .val (.int ((p0.toUInt32 >>> ((10 : Int32) &&& 31).toUInt32).toInt32 &&& (255 : Int32))), .val (.int ((p0.toUInt32 >>> ((18 : Int32) &&& 31).toUInt32).toInt32 &&& (255 : Int32))), .val (.int (p1 &&& (3 : Int32))), .val (.int ((p1.toUInt32 >>> ((2 : Int32) &&& 31).toUInt32).toInt32 &&& (255 : Int32))), .val (.int ((p1.toUInt32 >>> ((10 : Int32) &&& 31).toUInt32).toInt32 &&& (255 : Int32))), .val (.int ((p1.toUInt32 >>> ((18 : Int32) &&& 31).toUInt32).toInt32 &&& (255 : Int32))), .val (.ref sa_1), .val (.ref sa_13), .val (.ref sa_28), .val (.ref b48), .val (.ref ra_81), .val (.int (1 : Int32)), .unset] []) G := by
          intro TJ251 LJ251 XJ251 EJ251 NJ251
          show Gl p.tables e below TJ251 (mkF m 251 #[.val (.int p0), .val (.int p1), .val (.int p2), .val (.int (p0 &&& (3 : Int32))), .val (.int ((p0.toUInt32 >>> ((2 : Int32) &&& 31).toUInt32).toInt32 &&& (255 : Int32))), .val (.int ((p0.toUInt32 >>> ((10 : Int32) &&& 31).toUInt32).toInt32 &&& (255 : Int32))), .val (.int ((p0.toUInt32 >>> ((18 : Int32) &&& 31).toUInt32).toInt32 &&& (255 : Int32))), .val (.int (p1 &&& (3 : Int32))), .val (.int ((p1.toUInt32 >>> ((2 : Int32) &&& 31).toUInt32).toInt32 &&& (255 : Int32))), .val (.int ((p1.toUInt32 >>> ((10 : Int32) &&& 31).toUInt32).toInt32 &&& (255 : Int32))), .val (.int ((p1.toUInt32 >>> ((18 : Int32) &&& 31).toUInt32).toInt32 &&& (255 : Int32))), .val (.ref sa_1), .val (.ref sa_13), .val (.ref sa_28), .val (.ref b48), .val (.ref ra_81), .val (.int (1 : Int32)), .unset] []) G
          refine Gl.via (fun _ k => XS.iload XJ251.here hx rfl (hb hby at_251) rfl k) ?_
          show Gl p.tables e below TJ251 (mkF m 253 #[.val (.int p0), .val (.int p1), .val (.int p2), .val (.int (p0 &&& (3 : Int32))), .val (.int ((p0.toUInt32 >>> ((2 : Int32) &&& 31).toUInt32).toInt32 &&& (255 : Int32))), .val (.int ((p0.toUInt32 >>> ((10 : Int32) &&& 31).toUInt32).toInt32 &&& (255 : Int32))), .val (.int ((p0.toUInt32 >>> ((18 : Int32) &&& 31).toUInt32).toInt32 &&& (255 : Int32))), .val (.int (p1 &&& (3 : Int32))), .val (.int ((p1.toUInt32 >>> ((2 : Int32) &&& 31).toUInt32).toInt32 &&& (255 : Int32))), .val (.int ((p1.toUInt32 >>> ((10 : Int32) &&& 31).toUInt32).toInt32 &&& (255 : Int32))), .val (.int ((p1.toUInt32 >>> ((18 : Int32) &&& 31).toUInt32).toInt32 &&& (255 : Int32))), .val (.ref sa_1), .val (.ref sa_13), .val (.ref sa_28), .val (.ref b48), .val (.ref ra_81), .val (.int (1 : Int32)), .unset] [(.int (1 : Int32))]) G
          refine Gl.via (fun _ k => XS.ifNo XJ251.here hx rfl (hb hby at_253) rfl ((if0 _ _).trans (feq (by decide)).1) k) ?_
          show Gl p.tables e below TJ251 (mkF m 256 #[.val (.int p0), .val (.int p1), .val (.int p2), .val (.int (p0 &&& (3 : Int32))), .val (.int ((p0.toUInt32 >>> ((2 : Int32) &&& 31).toUInt32).toInt32 &&& (255 : Int32))), .val (.int ((p0.toUInt32 >>> ((10 : Int32) &&& 31).toUInt32).toInt32 &&& (255 : Int32))), .val (.int ((p0.toUInt32 >>> ((18 : Int32) &&& 31).toUInt32).toInt32 &&& (255 : Int32))), .val (.int (p1 &&& (3 : Int32))), .val (.int ((p1.toUInt32 >>> ((2 : Int32) &&& 31).toUInt32).toInt32 &&& (255 : Int32))), .val (.int ((p1.toUInt32 >>> ((10 : Int32) &&& 31).toUInt32).toInt32 &&& (255 : Int32))), .val (.int ((p1.toUInt32 >>> ((18 : Int32) &&& 31).toUInt32).toInt32 &&& (255 : Int32))), .val (.ref sa_1), .val (.ref sa_13), .val (.ref sa_28), .val (.ref b48), .val (.ref ra_81), .val (.int (1 : Int32)), .unset] []) G
          refine Gl.via (fun _ k => XS.aload XJ251.here hx rfl (hb hby at_256) rfl rfl k) ?_
          show Gl p.tables e below TJ251 (mkF m 258 #[.val (.int p0), .val (.int p1), .val (.int p2), .val (.int (p0 &&& (3 : Int32))), .val (.int ((p0.toUInt32 >>> ((2 : Int32) &&& 31).toUInt32).toInt32 &&& (255 : Int32))), .val (.int ((p0.toUInt32 >>> ((10 : Int32) &&& 31).toUInt32).toInt32 &&& (255 : Int32))), .val (.int ((p0.toUInt32 >>> ((18 : Int32) &&& 31).toUInt32).toInt32 &&& (255 : Int32))), .val (.int (p1 &&& (3 : Int32))), .val (.int ((p1.toUInt32 >>> ((2 : Int32) &&& 31).toUInt32).toInt32 &&& (255 : Int32))), .val (.int ((p1.toUInt32 >>> ((10 : Int32) &&& 31).toUInt32).toInt32 &&& (255 : Int32))), .val (.int ((p1.toUInt32 >>> ((18 : Int32) &&& 31).toUInt32).toInt32 &&& (255 : Int32))), .val (.ref sa_1), .val (.ref sa_13), .val (.ref sa_28), .val (.ref b48), .val (.ref ra_81), .val (.int (1 : Int32)), .unset] [(.ref ra_81)]) G
          refine Gl.via (fun _ k => XS.iloadN XJ251.here hx rfl (hb hby at_258) rfl k) ?_
          show Gl p.tables e below TJ251 (mkF m 259 #[.val (.int p0), .val (.int p1), .val (.int p2), .val (.int (p0 &&& (3 : Int32))), .val (.int ((p0.toUInt32 >>> ((2 : Int32) &&& 31).toUInt32).toInt32 &&& (255 : Int32))), .val (.int ((p0.toUInt32 >>> ((10 : Int32) &&& 31).toUInt32).toInt32 &&& (255 : Int32))), .val (.int ((p0.toUInt32 >>> ((18 : Int32) &&& 31).toUInt32).toInt32 &&& (255 : Int32))), .val (.int (p1 &&& (3 : Int32))), .val (.int ((p1.toUInt32 >>> ((2 : Int32) &&& 31).toUInt32).toInt32 &&& (255 : Int32))), .val (.int ((p1.toUInt32 >>> ((10 : Int32) &&& 31).toUInt32).toInt32 &&& (255 : Int32))), .val (.int ((p1.toUInt32 >>> ((18 : Int32) &&& 31).toUInt32).toInt32 &&& (255 : Int32))), .val (.ref sa_1), .val (.ref sa_13), .val (.ref sa_28), .val (.ref b48), .val (.ref ra_81), .val (.int (1 : Int32)), .unset] [(.int (p0 &&& (3 : Int32))), (.ref ra_81)]) G
          obtain ⟨cq116, kq116, q116a, q116b, q116c⟩ := isOf hZ81 EJ251 P92
          obtain ⟨_, _, ⟨T116, L116, k116, n116⟩, -, X116, ⟨Lc116, hQ116, l116, y116, z116⟩, st116⟩ := XJ251.virtualBack hx (y := (⟨"java/lang/String", "charAt", "(I)C"⟩ : MethodName)) (z := (⟨"java/lang/String", "charAt", "(I)C"⟩ : MethodName)) hown81 (mvT hZ81 (hw _ (List.mem_of_getElem? (i := 188) rfl))) (mvT hZ81 (hw _ (List.mem_of_getElem? (i := 189) rfl))) (notFace_of_selects (args := #[]) (mvT hZ81 (hw _ (List.mem_of_getElem? (i := 191) rfl)))) (mvT hZ81 (hw _ (List.mem_of_getElem? (i := 191) rfl))) (mvT hZ81 (hw _ (List.mem_of_getElem? (i := 190) rfl))) (by decide) (backOf (W := 0) (st_at l Z a0 hw [] ra_81 rb_81 rk_81 (own_scat (32 : Int32) (p0 &&& (3 : Int32)) ((p0.toUInt32 >>> ((2 : Int32) &&& 31).toUInt32).toInt32 &&& (255 : Int32)) ((p0.toUInt32 >>> ((10 : Int32) &&& 31).toUInt32).toInt32 &&& (255 : Int32)) ((p0.toUInt32 >>> ((18 : Int32) &&& 31).toUInt32).toInt32 &&& (255 : Int32)) (p1 &&& (3 : Int32)) ((p1.toUInt32 >>> ((2 : Int32) &&& 31).toUInt32).toInt32 &&& (255 : Int32)) ((p1.toUInt32 >>> ((10 : Int32) &&& 31).toUInt32).toInt32 &&& (255 : Int32)) ((p1.toUInt32 >>> ((18 : Int32) &&& 31).toUInt32).toInt32 &&& (255 : Int32))) (p0 &&& (3 : Int32)) (32 : Int32) fm cps T81.heap n0 Z110 P92 P93 P94 V113 F0_java_lang_String F1_jdk_internal_util_Preconditions G115 hcps hfm (own_g3 (c0 := ((p0.toUInt32 >>> ((2 : Int32) &&& 31).toUInt32).toInt32 &&& (255 : Int32))) (c1 := ((p0.toUInt32 >>> ((10 : Int32) &&& 31).toUInt32).toInt32 &&& (255 : Int32))) (c2 := ((p0.toUInt32 >>> ((18 : Int32) &&& 31).toUInt32).toInt32 &&& (255 : Int32))) (d0 := ((p1.toUInt32 >>> ((2 : Int32) &&& 31).toUInt32).toInt32 &&& (255 : Int32))) (d1 := ((p1.toUInt32 >>> ((10 : Int32) &&& 31).toUInt32).toInt32 &&& (255 : Int32))) (d2 := ((p1.toUInt32 >>> ((18 : Int32) &&& 31).toUInt32).toInt32 &&& (255 : Int32))) (own_and3 p0) (own_and3 p1) trivial).1 (own_g3 (c0 := ((p0.toUInt32 >>> ((2 : Int32) &&& 31).toUInt32).toInt32 &&& (255 : Int32))) (c1 := ((p0.toUInt32 >>> ((10 : Int32) &&& 31).toUInt32).toInt32 &&& (255 : Int32))) (c2 := ((p0.toUInt32 >>> ((18 : Int32) &&& 31).toUInt32).toInt32 &&& (255 : Int32))) (d0 := ((p1.toUInt32 >>> ((2 : Int32) &&& 31).toUInt32).toInt32 &&& (255 : Int32))) (d1 := ((p1.toUInt32 >>> ((10 : Int32) &&& 31).toUInt32).toInt32 &&& (255 : Int32))) (d2 := ((p1.toUInt32 >>> ((18 : Int32) &&& 31).toUInt32).toInt32 &&& (255 : Int32))) (own_and3 p0) (own_and3 p1) trivial).2.1 (own_g3 (c0 := ((p0.toUInt32 >>> ((2 : Int32) &&& 31).toUInt32).toInt32 &&& (255 : Int32))) (c1 := ((p0.toUInt32 >>> ((10 : Int32) &&& 31).toUInt32).toInt32 &&& (255 : Int32))) (c2 := ((p0.toUInt32 >>> ((18 : Int32) &&& 31).toUInt32).toInt32 &&& (255 : Int32))) (d0 := ((p1.toUInt32 >>> ((2 : Int32) &&& 31).toUInt32).toInt32 &&& (255 : Int32))) (d1 := ((p1.toUInt32 >>> ((10 : Int32) &&& 31).toUInt32).toInt32 &&& (255 : Int32))) (d2 := ((p1.toUInt32 >>> ((18 : Int32) &&& 31).toUInt32).toInt32 &&& (255 : Int32))) (own_and3 p0) (own_and3 p1) trivial).2.2) hZ81 (hw _ (List.mem_of_getElem? (i := 192) rfl)) (hw _ (List.mem_of_getElem? (i := 6) rfl)) (by decide) (by decide)) q116a q116c (g := (mkF m 259 #[.val (.int p0), .val (.int p1), .val (.int p2), .val (.int (p0 &&& (3 : Int32))), .val (.int ((p0.toUInt32 >>> ((2 : Int32) &&& 31).toUInt32).toInt32 &&& (255 : Int32))), .val (.int ((p0.toUInt32 >>> ((10 : Int32) &&& 31).toUInt32).toInt32 &&& (255 : Int32))), .val (.int ((p0.toUInt32 >>> ((18 : Int32) &&& 31).toUInt32).toInt32 &&& (255 : Int32))), .val (.int (p1 &&& (3 : Int32))), .val (.int ((p1.toUInt32 >>> ((2 : Int32) &&& 31).toUInt32).toInt32 &&& (255 : Int32))), .val (.int ((p1.toUInt32 >>> ((10 : Int32) &&& 31).toUInt32).toInt32 &&& (255 : Int32))), .val (.int ((p1.toUInt32 >>> ((18 : Int32) &&& 31).toUInt32).toInt32 &&& (255 : Int32))), .val (.ref sa_1), .val (.ref sa_13), .val (.ref sa_28), .val (.ref b48), .val (.ref ra_81), .val (.int (1 : Int32)), .unset] [(.int (p0 &&& (3 : Int32))), (.ref ra_81)])) rfl (by rw [hml]; rfl) (Steps.refl _) (argsL := [(.int (p0 &&& (3 : Int32)))]) (rest := []) (lenOf pd_30 rfl) rfl (by show 2 * 0 + _ ≤ _; exact Nat.le_of_eq rfl) (hb hby at_259) (fun _ _ => ⟨rfl, EJ251, (by decide : 21 + 0 ≤ _), (by decide : 81 + 0 ≤ _)⟩)
          dsimp only [Pt.U, Pt.locs, Pt.cells, Pt.slots] at X116 l116 y116 z116 st116 hQ116
          subst l116 y116 z116
          obtain ⟨rfl, N116q, eh116⟩ := hQ116
          have N116_ := Fr.app NJ251 N116q
          refine Gl.via (fun _ k => st116.trans k) ?_
          show Gl p.tables e below T116 (mkF m 262 #[.val (.int p0), .val (.int p1), .val (.int p2), .val (.int (p0 &&& (3 : Int32))), .val (.int ((p0.toUInt32 >>> ((2 : Int32) &&& 31).toUInt32).toInt32 &&& (255 : Int32))), .val (.int ((p0.toUInt32 >>> ((10 : Int32) &&& 31).toUInt32).toInt32 &&& (255 : Int32))), .val (.int ((p0.toUInt32 >>> ((18 : Int32) &&& 31).toUInt32).toInt32 &&& (255 : Int32))), .val (.int (p1 &&& (3 : Int32))), .val (.int ((p1.toUInt32 >>> ((2 : Int32) &&& 31).toUInt32).toInt32 &&& (255 : Int32))), .val (.int ((p1.toUInt32 >>> ((10 : Int32) &&& 31).toUInt32).toInt32 &&& (255 : Int32))), .val (.int ((p1.toUInt32 >>> ((18 : Int32) &&& 31).toUInt32).toInt32 &&& (255 : Int32))), .val (.ref sa_1), .val (.ref sa_13), .val (.ref sa_28), .val (.ref b48), .val (.ref ra_81), .val (.int (1 : Int32)), .unset] [(.int ((32 : Int32) &&& (255 : Int32)))]) G
          refine Gl.via (fun _ k => XS.bipush X116.here hx rfl (hb hby at_262) k) ?_
          show Gl p.tables e below T116 (mkF m 264 #[.val (.int p0), .val (.int p1), .val (.int p2), .val (.int (p0 &&& (3 : Int32))), .val (.int ((p0.toUInt32 >>> ((2 : Int32) &&& 31).toUInt32).toInt32 &&& (255 : Int32))), .val (.int ((p0.toUInt32 >>> ((10 : Int32) &&& 31).toUInt32).toInt32 &&& (255 : Int32))), .val (.int ((p0.toUInt32 >>> ((18 : Int32) &&& 31).toUInt32).toInt32 &&& (255 : Int32))), .val (.int (p1 &&& (3 : Int32))), .val (.int ((p1.toUInt32 >>> ((2 : Int32) &&& 31).toUInt32).toInt32 &&& (255 : Int32))), .val (.int ((p1.toUInt32 >>> ((10 : Int32) &&& 31).toUInt32).toInt32 &&& (255 : Int32))), .val (.int ((p1.toUInt32 >>> ((18 : Int32) &&& 31).toUInt32).toInt32 &&& (255 : Int32))), .val (.ref sa_1), .val (.ref sa_13), .val (.ref sa_28), .val (.ref b48), .val (.ref ra_81), .val (.int (1 : Int32)), .unset] [(.int (32 : Int32)), (.int ((32 : Int32) &&& (255 : Int32)))]) G
          refine Gl.via (fun _ k => XS.icmpNo X116.here hx rfl (hb hby at_264) rfl (teq (by decide)).2 k) ?_
          show Gl p.tables e below T116 (mkF m 267 #[.val (.int p0), .val (.int p1), .val (.int p2), .val (.int (p0 &&& (3 : Int32))), .val (.int ((p0.toUInt32 >>> ((2 : Int32) &&& 31).toUInt32).toInt32 &&& (255 : Int32))), .val (.int ((p0.toUInt32 >>> ((10 : Int32) &&& 31).toUInt32).toInt32 &&& (255 : Int32))), .val (.int ((p0.toUInt32 >>> ((18 : Int32) &&& 31).toUInt32).toInt32 &&& (255 : Int32))), .val (.int (p1 &&& (3 : Int32))), .val (.int ((p1.toUInt32 >>> ((2 : Int32) &&& 31).toUInt32).toInt32 &&& (255 : Int32))), .val (.int ((p1.toUInt32 >>> ((10 : Int32) &&& 31).toUInt32).toInt32 &&& (255 : Int32))), .val (.int ((p1.toUInt32 >>> ((18 : Int32) &&& 31).toUInt32).toInt32 &&& (255 : Int32))), .val (.ref sa_1), .val (.ref sa_13), .val (.ref sa_28), .val (.ref b48), .val (.ref ra_81), .val (.int (1 : Int32)), .unset] []) G
          refine Gl.via (fun _ k => XS.iconst X116.here hx rfl (hb hby at_267) k) ?_
          show Gl p.tables e below T116 (mkF m 268 #[.val (.int p0), .val (.int p1), .val (.int p2), .val (.int (p0 &&& (3 : Int32))), .val (.int ((p0.toUInt32 >>> ((2 : Int32) &&& 31).toUInt32).toInt32 &&& (255 : Int32))), .val (.int ((p0.toUInt32 >>> ((10 : Int32) &&& 31).toUInt32).toInt32 &&& (255 : Int32))), .val (.int ((p0.toUInt32 >>> ((18 : Int32) &&& 31).toUInt32).toInt32 &&& (255 : Int32))), .val (.int (p1 &&& (3 : Int32))), .val (.int ((p1.toUInt32 >>> ((2 : Int32) &&& 31).toUInt32).toInt32 &&& (255 : Int32))), .val (.int ((p1.toUInt32 >>> ((10 : Int32) &&& 31).toUInt32).toInt32 &&& (255 : Int32))), .val (.int ((p1.toUInt32 >>> ((18 : Int32) &&& 31).toUInt32).toInt32 &&& (255 : Int32))), .val (.ref sa_1), .val (.ref sa_13), .val (.ref sa_28), .val (.ref b48), .val (.ref ra_81), .val (.int (1 : Int32)), .unset] [(.int (1 : Int32))]) G
          refine Gl.via (fun _ k => XS.goto X116.here hx rfl (pc0 := 268) (pc' := 272) rfl (hb hby at_268) (by decide) (by decide) k) ?_
          show Gl p.tables e below T116 (mkF m 272 #[.val (.int p0), .val (.int p1), .val (.int p2), .val (.int (p0 &&& (3 : Int32))), .val (.int ((p0.toUInt32 >>> ((2 : Int32) &&& 31).toUInt32).toInt32 &&& (255 : Int32))), .val (.int ((p0.toUInt32 >>> ((10 : Int32) &&& 31).toUInt32).toInt32 &&& (255 : Int32))), .val (.int ((p0.toUInt32 >>> ((18 : Int32) &&& 31).toUInt32).toInt32 &&& (255 : Int32))), .val (.int (p1 &&& (3 : Int32))), .val (.int ((p1.toUInt32 >>> ((2 : Int32) &&& 31).toUInt32).toInt32 &&& (255 : Int32))), .val (.int ((p1.toUInt32 >>> ((10 : Int32) &&& 31).toUInt32).toInt32 &&& (255 : Int32))), .val (.int ((p1.toUInt32 >>> ((18 : Int32) &&& 31).toUInt32).toInt32 &&& (255 : Int32))), .val (.ref sa_1), .val (.ref sa_13), .val (.ref sa_28), .val (.ref b48), .val (.ref ra_81), .val (.int (1 : Int32)), .unset] [(.int (1 : Int32))]) G
          refine Gl.via (fun _ k => XS.istore X116.here hx rfl (hb hby at_272) rfl (l' := #[.val (.int p0), .val (.int p1), .val (.int p2), .val (.int (p0 &&& (3 : Int32))), .val (.int ((p0.toUInt32 >>> ((2 : Int32) &&& 31).toUInt32).toInt32 &&& (255 : Int32))), .val (.int ((p0.toUInt32 >>> ((10 : Int32) &&& 31).toUInt32).toInt32 &&& (255 : Int32))), .val (.int ((p0.toUInt32 >>> ((18 : Int32) &&& 31).toUInt32).toInt32 &&& (255 : Int32))), .val (.int (p1 &&& (3 : Int32))), .val (.int ((p1.toUInt32 >>> ((2 : Int32) &&& 31).toUInt32).toInt32 &&& (255 : Int32))), .val (.int ((p1.toUInt32 >>> ((10 : Int32) &&& 31).toUInt32).toInt32 &&& (255 : Int32))), .val (.int ((p1.toUInt32 >>> ((18 : Int32) &&& 31).toUInt32).toInt32 &&& (255 : Int32))), .val (.ref sa_1), .val (.ref sa_13), .val (.ref sa_28), .val (.ref b48), .val (.ref ra_81), .val (.int (1 : Int32)), .unset]) rfl k) ?_
          show Gl p.tables e below T116 (mkF m 274 #[.val (.int p0), .val (.int p1), .val (.int p2), .val (.int (p0 &&& (3 : Int32))), .val (.int ((p0.toUInt32 >>> ((2 : Int32) &&& 31).toUInt32).toInt32 &&& (255 : Int32))), .val (.int ((p0.toUInt32 >>> ((10 : Int32) &&& 31).toUInt32).toInt32 &&& (255 : Int32))), .val (.int ((p0.toUInt32 >>> ((18 : Int32) &&& 31).toUInt32).toInt32 &&& (255 : Int32))), .val (.int (p1 &&& (3 : Int32))), .val (.int ((p1.toUInt32 >>> ((2 : Int32) &&& 31).toUInt32).toInt32 &&& (255 : Int32))), .val (.int ((p1.toUInt32 >>> ((10 : Int32) &&& 31).toUInt32).toInt32 &&& (255 : Int32))), .val (.int ((p1.toUInt32 >>> ((18 : Int32) &&& 31).toUInt32).toInt32 &&& (255 : Int32))), .val (.ref sa_1), .val (.ref sa_13), .val (.ref sa_28), .val (.ref b48), .val (.ref ra_81), .val (.int (1 : Int32)), .unset] []) G
          refine Gl.via (fun _ k => XS.iloadN X116.here hx rfl (hb hby at_274) rfl k) ?_
          show Gl p.tables e below T116 (mkF m 275 #[.val (.int p0), .val (.int p1), .val (.int p2), .val (.int (p0 &&& (3 : Int32))), .val (.int ((p0.toUInt32 >>> ((2 : Int32) &&& 31).toUInt32).toInt32 &&& (255 : Int32))), .val (.int ((p0.toUInt32 >>> ((10 : Int32) &&& 31).toUInt32).toInt32 &&& (255 : Int32))), .val (.int ((p0.toUInt32 >>> ((18 : Int32) &&& 31).toUInt32).toInt32 &&& (255 : Int32))), .val (.int (p1 &&& (3 : Int32))), .val (.int ((p1.toUInt32 >>> ((2 : Int32) &&& 31).toUInt32).toInt32 &&& (255 : Int32))), .val (.int ((p1.toUInt32 >>> ((10 : Int32) &&& 31).toUInt32).toInt32 &&& (255 : Int32))), .val (.int ((p1.toUInt32 >>> ((18 : Int32) &&& 31).toUInt32).toInt32 &&& (255 : Int32))), .val (.ref sa_1), .val (.ref sa_13), .val (.ref sa_28), .val (.ref b48), .val (.ref ra_81), .val (.int (1 : Int32)), .unset] [(.int (p0 &&& (3 : Int32)))]) G
          refine Gl.via (fun _ k => XS.iconst X116.here hx rfl (hb hby at_275) k) ?_
          show Gl p.tables e below T116 (mkF m 276 #[.val (.int p0), .val (.int p1), .val (.int p2), .val (.int (p0 &&& (3 : Int32))), .val (.int ((p0.toUInt32 >>> ((2 : Int32) &&& 31).toUInt32).toInt32 &&& (255 : Int32))), .val (.int ((p0.toUInt32 >>> ((10 : Int32) &&& 31).toUInt32).toInt32 &&& (255 : Int32))), .val (.int ((p0.toUInt32 >>> ((18 : Int32) &&& 31).toUInt32).toInt32 &&& (255 : Int32))), .val (.int (p1 &&& (3 : Int32))), .val (.int ((p1.toUInt32 >>> ((2 : Int32) &&& 31).toUInt32).toInt32 &&& (255 : Int32))), .val (.int ((p1.toUInt32 >>> ((10 : Int32) &&& 31).toUInt32).toInt32 &&& (255 : Int32))), .val (.int ((p1.toUInt32 >>> ((18 : Int32) &&& 31).toUInt32).toInt32 &&& (255 : Int32))), .val (.ref sa_1), .val (.ref sa_13), .val (.ref sa_28), .val (.ref b48), .val (.ref ra_81), .val (.int (1 : Int32)), .unset] [(.int (1 : Int32)), (.int (p0 &&& (3 : Int32)))]) G
          refine Gl.via (fun _ k => XS.iadd X116.here hx rfl (hb hby at_276) rfl k) ?_
          show Gl p.tables e below T116 (mkF m 277 #[.val (.int p0), .val (.int p1), .val (.int p2), .val (.int (p0 &&& (3 : Int32))), .val (.int ((p0.toUInt32 >>> ((2 : Int32) &&& 31).toUInt32).toInt32 &&& (255 : Int32))), .val (.int ((p0.toUInt32 >>> ((10 : Int32) &&& 31).toUInt32).toInt32 &&& (255 : Int32))), .val (.int ((p0.toUInt32 >>> ((18 : Int32) &&& 31).toUInt32).toInt32 &&& (255 : Int32))), .val (.int (p1 &&& (3 : Int32))), .val (.int ((p1.toUInt32 >>> ((2 : Int32) &&& 31).toUInt32).toInt32 &&& (255 : Int32))), .val (.int ((p1.toUInt32 >>> ((10 : Int32) &&& 31).toUInt32).toInt32 &&& (255 : Int32))), .val (.int ((p1.toUInt32 >>> ((18 : Int32) &&& 31).toUInt32).toInt32 &&& (255 : Int32))), .val (.ref sa_1), .val (.ref sa_13), .val (.ref sa_28), .val (.ref b48), .val (.ref ra_81), .val (.int (1 : Int32)), .unset] [(.int ((p0 &&& (3 : Int32)) + (1 : Int32)))]) G
          refine Gl.via (fun _ k => XS.istore X116.here hx rfl (hb hby at_277) rfl (l' := #[.val (.int p0), .val (.int p1), .val (.int p2), .val (.int (p0 &&& (3 : Int32))), .val (.int ((p0.toUInt32 >>> ((2 : Int32) &&& 31).toUInt32).toInt32 &&& (255 : Int32))), .val (.int ((p0.toUInt32 >>> ((10 : Int32) &&& 31).toUInt32).toInt32 &&& (255 : Int32))), .val (.int ((p0.toUInt32 >>> ((18 : Int32) &&& 31).toUInt32).toInt32 &&& (255 : Int32))), .val (.int (p1 &&& (3 : Int32))), .val (.int ((p1.toUInt32 >>> ((2 : Int32) &&& 31).toUInt32).toInt32 &&& (255 : Int32))), .val (.int ((p1.toUInt32 >>> ((10 : Int32) &&& 31).toUInt32).toInt32 &&& (255 : Int32))), .val (.int ((p1.toUInt32 >>> ((18 : Int32) &&& 31).toUInt32).toInt32 &&& (255 : Int32))), .val (.ref sa_1), .val (.ref sa_13), .val (.ref sa_28), .val (.ref b48), .val (.ref ra_81), .val (.int (1 : Int32)), .val (.int ((p0 &&& (3 : Int32)) + (1 : Int32)))]) rfl k) ?_
          show Gl p.tables e below T116 (mkF m 279 #[.val (.int p0), .val (.int p1), .val (.int p2), .val (.int (p0 &&& (3 : Int32))), .val (.int ((p0.toUInt32 >>> ((2 : Int32) &&& 31).toUInt32).toInt32 &&& (255 : Int32))), .val (.int ((p0.toUInt32 >>> ((10 : Int32) &&& 31).toUInt32).toInt32 &&& (255 : Int32))), .val (.int ((p0.toUInt32 >>> ((18 : Int32) &&& 31).toUInt32).toInt32 &&& (255 : Int32))), .val (.int (p1 &&& (3 : Int32))), .val (.int ((p1.toUInt32 >>> ((2 : Int32) &&& 31).toUInt32).toInt32 &&& (255 : Int32))), .val (.int ((p1.toUInt32 >>> ((10 : Int32) &&& 31).toUInt32).toInt32 &&& (255 : Int32))), .val (.int ((p1.toUInt32 >>> ((18 : Int32) &&& 31).toUInt32).toInt32 &&& (255 : Int32))), .val (.ref sa_1), .val (.ref sa_13), .val (.ref sa_28), .val (.ref b48), .val (.ref ra_81), .val (.int (1 : Int32)), .val (.int ((p0 &&& (3 : Int32)) + (1 : Int32)))] []) G
          have J308 : ∀ (TJ308 : State) (LJ308 : List Loc), Stand p l e room_1 (s.setVm T81.vm) m #[(.int p0), (.int p1), (.int p2)] below meth c TJ308 LJ308 21 81 → TJ308.heap = T81.heap → Fr n0 LJ308 → Gl p.tables e below TJ308 (mkF m 308 #[.val (.int p0), .val (.int p1), .val (.int p2), .val (.int (p0 &&& (3 : Int32))), .val (.int ((p0.toUInt32 >>> ((2 : Int32) &&& 31).toUInt32).toInt32 &&& (255 : Int32))), .val (.int ((p0.toUInt32 >>> ((10 : Int32) &&& 31).toUInt32).toInt32 &&& (255 : Int32))), .val (.int ((p0.toUInt32 >>> ((18 : Int32) &&& 31).toUInt32).toInt32 &&& (255 : Int32))), .val (.int (p1 &&& (3 : Int32))), .val (.int ((p1.toUInt32 >>> ((2 : Int32) &&& 31).toUInt32).toInt32 &&& (255 : Int32))), .val (.int ((p1.toUInt32 >>> ((10 : Int32) &&& 31).toUInt32).toInt32 &&& (255 : Int32))), .val (.int ((p1.toUInt32 >>> ((18 : Int32) &&& 31).toUInt32).toInt32 &&& (255 : Int32))), .val (.ref sa_1), .val (.ref sa_13), .val (.ref sa_28), .val (.ref b48), .val (.ref ra_81), .val (.int (1 : Int32)), .val (.int ((p0 &&& (3 : Int32)) + (1 : Int32)))] []) G := by
            intro TJ308 LJ308 XJ308 EJ308 NJ308
            show Gl p.tables e below TJ308 (mkF m 308 #[.val (.int p0), .val (.int p1), .val (.int p2), .val (.int (p0 &&& (3 : Int32))), .val (.int ((p0.toUInt32 >>> ((2 : Int32) &&& 31).toUInt32).toInt32 &&& (255 : Int32))), .val (.int ((p0.toUInt32 >>> ((10 : Int32) &&& 31).toUInt32).toInt32 &&& (255 : Int32))), .val (.int ((p0.toUInt32 >>> ((18 : Int32) &&& 31).toUInt32).toInt32 &&& (255 : Int32))), .val (.int (p1 &&& (3 : Int32))), .val (.int ((p1.toUInt32 >>> ((2 : Int32) &&& 31).toUInt32).toInt32 &&& (255 : Int32))), .val (.int ((p1.toUInt32 >>> ((10 : Int32) &&& 31).toUInt32).toInt32 &&& (255 : Int32))), .val (.int ((p1.toUInt32 >>> ((18 : Int32) &&& 31).toUInt32).toInt32 &&& (255 : Int32))), .val (.ref sa_1), .val (.ref sa_13), .val (.ref sa_28), .val (.ref b48), .val (.ref ra_81), .val (.int (1 : Int32)), .val (.int ((p0 &&& (3 : Int32)) + (1 : Int32)))] []) G
            have J340 : ∀ (TJ340 : State) (LJ340 : List Loc), Stand p l e room_1 (s.setVm T81.vm) m #[(.int p0), (.int p1), (.int p2)] below meth c TJ340 LJ340 21 81 → TJ340.heap = T81.heap → Fr n0 LJ340 → Gl p.tables e below TJ340 (mkF m 340 #[.val (.int p0), .val (.int p1), .val (.int p2), .val (.int (p0 &&& (3 : Int32))), .val (.int ((p0.toUInt32 >>> ((2 : Int32) &&& 31).toUInt32).toInt32 &&& (255 : Int32))), .val (.int ((p0.toUInt32 >>> ((10 : Int32) &&& 31).toUInt32).toInt32 &&& (255 : Int32))), .val (.int ((p0.toUInt32 >>> ((18 : Int32) &&& 31).toUInt32).toInt32 &&& (255 : Int32))), .val (.int (p1 &&& (3 : Int32))), .val (.int ((p1.toUInt32 >>> ((2 : Int32) &&& 31).toUInt32).toInt32 &&& (255 : Int32))), .val (.int ((p1.toUInt32 >>> ((10 : Int32) &&& 31).toUInt32).toInt32 &&& (255 : Int32))), .val (.int ((p1.toUInt32 >>> ((18 : Int32) &&& 31).toUInt32).toInt32 &&& (255 : Int32))), .val (.ref sa_1), .val (.ref sa_13), .val (.ref sa_28), .val (.ref b48), .val (.ref ra_81), .val (.int (1 : Int32)), .val (.int ((p0 &&& (3 : Int32)) + (1 : Int32)))] []) G := by
              intro TJ340 LJ340 XJ340 EJ340 NJ340
              show Gl p.tables e below TJ340 (mkF m 340 #[.val (.int p0), .val (.int p1), .val (.int p2), .val (.int (p0 &&& (3 : Int32))), .val (.int ((p0.toUInt32 >>> ((2 : Int32) &&& 31).toUInt32).toInt32 &&& (255 : Int32))), .val (.int ((p0.toUInt32 >>> ((10 : Int32) &&& 31).toUInt32).toInt32 &&& (255 : Int32))), .val (.int ((p0.toUInt32 >>> ((18 : Int32) &&& 31).toUInt32).toInt32 &&& (255 : Int32))), .val (.int (p1 &&& (3 : Int32))), .val (.int ((p1.toUInt32 >>> ((2 : Int32) &&& 31).toUInt32).toInt32 &&& (255 : Int32))), .val (.int ((p1.toUInt32 >>> ((10 : Int32) &&& 31).toUInt32).toInt32 &&& (255 : Int32))), .val (.int ((p1.toUInt32 >>> ((18 : Int32) &&& 31).toUInt32).toInt32 &&& (255 : Int32))), .val (.ref sa_1), .val (.ref sa_13), .val (.ref sa_28), .val (.ref b48), .val (.ref ra_81), .val (.int (1 : Int32)), .val (.int ((p0 &&& (3 : Int32)) + (1 : Int32)))] []) G
              have J372 : ∀ (TJ372 : State) (LJ372 : List Loc), Stand p l e room_1 (s.setVm T81.vm) m #[(.int p0), (.int p1), (.int p2)] below meth c TJ372 LJ372 21 81 → TJ372.heap = T81.heap → Fr n0 LJ372 → Gl p.tables e below TJ372 (mkF m 372 #[.val (.int p0), .val (.int p1), .val (.int p2), .val (.int (p0 &&& (3 : Int32))), .val (.int ((p0.toUInt32 >>> ((2 : Int32) &&& 31).toUInt32).toInt32 &&& (255 : Int32))), .val (.int ((p0.toUInt32 >>> ((10 : Int32) &&& 31).toUInt32).toInt32 &&& (255 : Int32))), .val (.int ((p0.toUInt32 >>> ((18 : Int32) &&& 31).toUInt32).toInt32 &&& (255 : Int32))), .val (.int (p1 &&& (3 : Int32))), .val (.int ((p1.toUInt32 >>> ((2 : Int32) &&& 31).toUInt32).toInt32 &&& (255 : Int32))), .val (.int ((p1.toUInt32 >>> ((10 : Int32) &&& 31).toUInt32).toInt32 &&& (255 : Int32))), .val (.int ((p1.toUInt32 >>> ((18 : Int32) &&& 31).toUInt32).toInt32 &&& (255 : Int32))), .val (.ref sa_1), .val (.ref sa_13), .val (.ref sa_28), .val (.ref b48), .val (.ref ra_81), .val (.int (1 : Int32)), .val (.int ((p0 &&& (3 : Int32)) + (1 : Int32)))] []) G := by
                intro TJ372 LJ372 XJ372 EJ372 NJ372
                show Gl p.tables e below TJ372 (mkF m 372 #[.val (.int p0), .val (.int p1), .val (.int p2), .val (.int (p0 &&& (3 : Int32))), .val (.int ((p0.toUInt32 >>> ((2 : Int32) &&& 31).toUInt32).toInt32 &&& (255 : Int32))), .val (.int ((p0.toUInt32 >>> ((10 : Int32) &&& 31).toUInt32).toInt32 &&& (255 : Int32))), .val (.int ((p0.toUInt32 >>> ((18 : Int32) &&& 31).toUInt32).toInt32 &&& (255 : Int32))), .val (.int (p1 &&& (3 : Int32))), .val (.int ((p1.toUInt32 >>> ((2 : Int32) &&& 31).toUInt32).toInt32 &&& (255 : Int32))), .val (.int ((p1.toUInt32 >>> ((10 : Int32) &&& 31).toUInt32).toInt32 &&& (255 : Int32))), .val (.int ((p1.toUInt32 >>> ((18 : Int32) &&& 31).toUInt32).toInt32 &&& (255 : Int32))), .val (.ref sa_1), .val (.ref sa_13), .val (.ref sa_28), .val (.ref b48), .val (.ref ra_81), .val (.int (1 : Int32)), .val (.int ((p0 &&& (3 : Int32)) + (1 : Int32)))] []) G
                refine Gl.via (fun _ k => XS.iload XJ372.here hx rfl (hb hby at_372) rfl k) ?_
                show Gl p.tables e below TJ372 (mkF m 374 #[.val (.int p0), .val (.int p1), .val (.int p2), .val (.int (p0 &&& (3 : Int32))), .val (.int ((p0.toUInt32 >>> ((2 : Int32) &&& 31).toUInt32).toInt32 &&& (255 : Int32))), .val (.int ((p0.toUInt32 >>> ((10 : Int32) &&& 31).toUInt32).toInt32 &&& (255 : Int32))), .val (.int ((p0.toUInt32 >>> ((18 : Int32) &&& 31).toUInt32).toInt32 &&& (255 : Int32))), .val (.int (p1 &&& (3 : Int32))), .val (.int ((p1.toUInt32 >>> ((2 : Int32) &&& 31).toUInt32).toInt32 &&& (255 : Int32))), .val (.int ((p1.toUInt32 >>> ((10 : Int32) &&& 31).toUInt32).toInt32 &&& (255 : Int32))), .val (.int ((p1.toUInt32 >>> ((18 : Int32) &&& 31).toUInt32).toInt32 &&& (255 : Int32))), .val (.ref sa_1), .val (.ref sa_13), .val (.ref sa_28), .val (.ref b48), .val (.ref ra_81), .val (.int (1 : Int32)), .val (.int ((p0 &&& (3 : Int32)) + (1 : Int32)))] [(.int (1 : Int32))]) G
                obtain ⟨fs, hr, hrun, hended, hRW⟩ := XJ372.leaveW hS81 (by rw [EJ372]; exact hk81) (v := some (.int (1 : Int32))) (fun h => by rw [Bd.returns] at h; cases h)
                have hq : ∀ L, Fr n0 L → Q_rm0 Z p0 p1 p2 cps fm h0 n0 (some (.int (1 : Int32))) TJ372.heap L := by
                  intro L hN
                  rw [EJ372]
                  exact ⟨rfl, hN⟩
                rw [hG]
                exact Gl.fin (retN XJ372 hx (t := .boolean) Bd.returns (by simp) (hb hby at_374) hr) ⟨_, hrun, hended, _, _, rfl, hq _ NJ372, ⟨hRW.1, hRW.2.1, hRW.2.2.1, hRW.2.2.2.mono (by decide) (by decide)⟩⟩
              refine Gl.via (fun _ k => XS.iload XJ340.here hx rfl (hb hby at_340) rfl k) ?_
              show Gl p.tables e below TJ340 (mkF m 342 #[.val (.int p0), .val (.int p1), .val (.int p2), .val (.int (p0 &&& (3 : Int32))), .val (.int ((p0.toUInt32 >>> ((2 : Int32) &&& 31).toUInt32).toInt32 &&& (255 : Int32))), .val (.int ((p0.toUInt32 >>> ((10 : Int32) &&& 31).toUInt32).toInt32 &&& (255 : Int32))), .val (.int ((p0.toUInt32 >>> ((18 : Int32) &&& 31).toUInt32).toInt32 &&& (255 : Int32))), .val (.int (p1 &&& (3 : Int32))), .val (.int ((p1.toUInt32 >>> ((2 : Int32) &&& 31).toUInt32).toInt32 &&& (255 : Int32))), .val (.int ((p1.toUInt32 >>> ((10 : Int32) &&& 31).toUInt32).toInt32 &&& (255 : Int32))), .val (.int ((p1.toUInt32 >>> ((18 : Int32) &&& 31).toUInt32).toInt32 &&& (255 : Int32))), .val (.ref sa_1), .val (.ref sa_13), .val (.ref sa_28), .val (.ref b48), .val (.ref ra_81), .val (.int (1 : Int32)), .val (.int ((p0 &&& (3 : Int32)) + (1 : Int32)))] [(.int (p1 &&& (3 : Int32)))]) G
              refine Gl.via (fun _ k => XS.iconst XJ340.here hx rfl (hb hby at_342) k) ?_
              show Gl p.tables e below TJ340 (mkF m 343 #[.val (.int p0), .val (.int p1), .val (.int p2), .val (.int (p0 &&& (3 : Int32))), .val (.int ((p0.toUInt32 >>> ((2 : Int32) &&& 31).toUInt32).toInt32 &&& (255 : Int32))), .val (.int ((p0.toUInt32 >>> ((10 : Int32) &&& 31).toUInt32).toInt32 &&& (255 : Int32))), .val (.int ((p0.toUInt32 >>> ((18 : Int32) &&& 31).toUInt32).toInt32 &&& (255 : Int32))), .val (.int (p1 &&& (3 : Int32))), .val (.int ((p1.toUInt32 >>> ((2 : Int32) &&& 31).toUInt32).toInt32 &&& (255 : Int32))), .val (.int ((p1.toUInt32 >>> ((10 : Int32) &&& 31).toUInt32).toInt32 &&& (255 : Int32))), .val (.int ((p1.toUInt32 >>> ((18 : Int32) &&& 31).toUInt32).toInt32 &&& (255 : Int32))), .val (.ref sa_1), .val (.ref sa_13), .val (.ref sa_28), .val (.ref b48), .val (.ref ra_81), .val (.int (1 : Int32)), .val (.int ((p0 &&& (3 : Int32)) + (1 : Int32)))] [(.int (2 : Int32)), (.int (p1 &&& (3 : Int32)))]) G
              by_cases q6 : (2 : Int32) < (p1 &&& (3 : Int32))
              · refine Gl.via (fun _ k => XS.icmpNo XJ340.here hx rfl (hb hby at_343) rfl (tlt q6).2.2.2 k) ?_
                show Gl p.tables e below TJ340 (mkF m 346 #[.val (.int p0), .val (.int p1), .val (.int p2), .val (.int (p0 &&& (3 : Int32))), .val (.int ((p0.toUInt32 >>> ((2 : Int32) &&& 31).toUInt32).toInt32 &&& (255 : Int32))), .val (.int ((p0.toUInt32 >>> ((10 : Int32) &&& 31).toUInt32).toInt32 &&& (255 : Int32))), .val (.int ((p0.toUInt32 >>> ((18 : Int32) &&& 31).toUInt32).toInt32 &&& (255 : Int32))), .val (.int (p1 &&& (3 : Int32))), .val (.int ((p1.toUInt32 >>> ((2 : Int32) &&& 31).toUInt32).toInt32 &&& (255 : Int32))), .val (.int ((p1.toUInt32 >>> ((10 : Int32) &&& 31).toUInt32).toInt32 &&& (255 : Int32))), .val (.int ((p1.toUInt32 >>> ((18 : Int32) &&& 31).toUInt32).toInt32 &&& (255 : Int32))), .val (.ref sa_1), .val (.ref sa_13), .val (.ref sa_28), .val (.ref b48), .val (.ref ra_81), .val (.int (1 : Int32)), .val (.int ((p0 &&& (3 : Int32)) + (1 : Int32)))] []) G
                refine Gl.via (fun _ k => XS.iload XJ340.here hx rfl (hb hby at_346) rfl k) ?_
                show Gl p.tables e below TJ340 (mkF m 348 #[.val (.int p0), .val (.int p1), .val (.int p2), .val (.int (p0 &&& (3 : Int32))), .val (.int ((p0.toUInt32 >>> ((2 : Int32) &&& 31).toUInt32).toInt32 &&& (255 : Int32))), .val (.int ((p0.toUInt32 >>> ((10 : Int32) &&& 31).toUInt32).toInt32 &&& (255 : Int32))), .val (.int ((p0.toUInt32 >>> ((18 : Int32) &&& 31).toUInt32).toInt32 &&& (255 : Int32))), .val (.int (p1 &&& (3 : Int32))), .val (.int ((p1.toUInt32 >>> ((2 : Int32) &&& 31).toUInt32).toInt32 &&& (255 : Int32))), .val (.int ((p1.toUInt32 >>> ((10 : Int32) &&& 31).toUInt32).toInt32 &&& (255 : Int32))), .val (.int ((p1.toUInt32 >>> ((18 : Int32) &&& 31).toUInt32).toInt32 &&& (255 : Int32))), .val (.ref sa_1), .val (.ref sa_13), .val (.ref sa_28), .val (.ref b48), .val (.ref ra_81), .val (.int (1 : Int32)), .val (.int ((p0 &&& (3 : Int32)) + (1 : Int32)))] [(.int (1 : Int32))]) G
                refine Gl.via (fun _ k => XS.ifNo XJ340.here hx rfl (hb hby at_348) rfl ((if0 _ _).trans (feq (by decide)).1) k) ?_
                show Gl p.tables e below TJ340 (mkF m 351 #[.val (.int p0), .val (.int p1), .val (.int p2), .val (.int (p0 &&& (3 : Int32))), .val (.int ((p0.toUInt32 >>> ((2 : Int32) &&& 31).toUInt32).toInt32 &&& (255 : Int32))), .val (.int ((p0.toUInt32 >>> ((10 : Int32) &&& 31).toUInt32).toInt32 &&& (255 : Int32))), .val (.int ((p0.toUInt32 >>> ((18 : Int32) &&& 31).toUInt32).toInt32 &&& (255 : Int32))), .val (.int (p1 &&& (3 : Int32))), .val (.int ((p1.toUInt32 >>> ((2 : Int32) &&& 31).toUInt32).toInt32 &&& (255 : Int32))), .val (.int ((p1.toUInt32 >>> ((10 : Int32) &&& 31).toUInt32).toInt32 &&& (255 : Int32))), .val (.int ((p1.toUInt32 >>> ((18 : Int32) &&& 31).toUInt32).toInt32 &&& (255 : Int32))), .val (.ref sa_1), .val (.ref sa_13), .val (.ref sa_28), .val (.ref b48), .val (.ref ra_81), .val (.int (1 : Int32)), .val (.int ((p0 &&& (3 : Int32)) + (1 : Int32)))] []) G
                refine Gl.via (fun _ k => XS.aload XJ340.here hx rfl (hb hby at_351) rfl rfl k) ?_
                show Gl p.tables e below TJ340 (mkF m 353 #[.val (.int p0), .val (.int p1), .val (.int p2), .val (.int (p0 &&& (3 : Int32))), .val (.int ((p0.toUInt32 >>> ((2 : Int32) &&& 31).toUInt32).toInt32 &&& (255 : Int32))), .val (.int ((p0.toUInt32 >>> ((10 : Int32) &&& 31).toUInt32).toInt32 &&& (255 : Int32))), .val (.int ((p0.toUInt32 >>> ((18 : Int32) &&& 31).toUInt32).toInt32 &&& (255 : Int32))), .val (.int (p1 &&& (3 : Int32))), .val (.int ((p1.toUInt32 >>> ((2 : Int32) &&& 31).toUInt32).toInt32 &&& (255 : Int32))), .val (.int ((p1.toUInt32 >>> ((10 : Int32) &&& 31).toUInt32).toInt32 &&& (255 : Int32))), .val (.int ((p1.toUInt32 >>> ((18 : Int32) &&& 31).toUInt32).toInt32 &&& (255 : Int32))), .val (.ref sa_1), .val (.ref sa_13), .val (.ref sa_28), .val (.ref b48), .val (.ref ra_81), .val (.int (1 : Int32)), .val (.int ((p0 &&& (3 : Int32)) + (1 : Int32)))] [(.ref ra_81)]) G
                refine Gl.via (fun _ k => XS.iload XJ340.here hx rfl (hb hby at_353) rfl k) ?_
                show Gl p.tables e below TJ340 (mkF m 355 #[.val (.int p0), .val (.int p1), .val (.int p2), .val (.int (p0 &&& (3 : Int32))), .val (.int ((p0.toUInt32 >>> ((2 : Int32) &&& 31).toUInt32).toInt32 &&& (255 : Int32))), .val (.int ((p0.toUInt32 >>> ((10 : Int32) &&& 31).toUInt32).toInt32 &&& (255 : Int32))), .val (.int ((p0.toUInt32 >>> ((18 : Int32) &&& 31).toUInt32).toInt32 &&& (255 : Int32))), .val (.int (p1 &&& (3 : Int32))), .val (.int ((p1.toUInt32 >>> ((2 : Int32) &&& 31).toUInt32).toInt32 &&& (255 : Int32))), .val (.int ((p1.toUInt32 >>> ((10 : Int32) &&& 31).toUInt32).toInt32 &&& (255 : Int32))), .val (.int ((p1.toUInt32 >>> ((18 : Int32) &&& 31).toUInt32).toInt32 &&& (255 : Int32))), .val (.ref sa_1), .val (.ref sa_13), .val (.ref sa_28), .val (.ref b48), .val (.ref ra_81), .val (.int (1 : Int32)), .val (.int ((p0 &&& (3 : Int32)) + (1 : Int32)))] [(.int ((p0 &&& (3 : Int32)) + (1 : Int32))), (.ref ra_81)]) G
                refine Gl.via (fun _ k => XS.iconst XJ340.here hx rfl (hb hby at_355) k) ?_
                show Gl p.tables e below TJ340 (mkF m 356 #[.val (.int p0), .val (.int p1), .val (.int p2), .val (.int (p0 &&& (3 : Int32))), .val (.int ((p0.toUInt32 >>> ((2 : Int32) &&& 31).toUInt32).toInt32 &&& (255 : Int32))), .val (.int ((p0.toUInt32 >>> ((10 : Int32) &&& 31).toUInt32).toInt32 &&& (255 : Int32))), .val (.int ((p0.toUInt32 >>> ((18 : Int32) &&& 31).toUInt32).toInt32 &&& (255 : Int32))), .val (.int (p1 &&& (3 : Int32))), .val (.int ((p1.toUInt32 >>> ((2 : Int32) &&& 31).toUInt32).toInt32 &&& (255 : Int32))), .val (.int ((p1.toUInt32 >>> ((10 : Int32) &&& 31).toUInt32).toInt32 &&& (255 : Int32))), .val (.int ((p1.toUInt32 >>> ((18 : Int32) &&& 31).toUInt32).toInt32 &&& (255 : Int32))), .val (.ref sa_1), .val (.ref sa_13), .val (.ref sa_28), .val (.ref b48), .val (.ref ra_81), .val (.int (1 : Int32)), .val (.int ((p0 &&& (3 : Int32)) + (1 : Int32)))] [(.int (2 : Int32)), (.int ((p0 &&& (3 : Int32)) + (1 : Int32))), (.ref ra_81)]) G
                refine Gl.via (fun _ k => XS.iadd XJ340.here hx rfl (hb hby at_356) rfl k) ?_
                show Gl p.tables e below TJ340 (mkF m 357 #[.val (.int p0), .val (.int p1), .val (.int p2), .val (.int (p0 &&& (3 : Int32))), .val (.int ((p0.toUInt32 >>> ((2 : Int32) &&& 31).toUInt32).toInt32 &&& (255 : Int32))), .val (.int ((p0.toUInt32 >>> ((10 : Int32) &&& 31).toUInt32).toInt32 &&& (255 : Int32))), .val (.int ((p0.toUInt32 >>> ((18 : Int32) &&& 31).toUInt32).toInt32 &&& (255 : Int32))), .val (.int (p1 &&& (3 : Int32))), .val (.int ((p1.toUInt32 >>> ((2 : Int32) &&& 31).toUInt32).toInt32 &&& (255 : Int32))), .val (.int ((p1.toUInt32 >>> ((10 : Int32) &&& 31).toUInt32).toInt32 &&& (255 : Int32))), .val (.int ((p1.toUInt32 >>> ((18 : Int32) &&& 31).toUInt32).toInt32 &&& (255 : Int32))), .val (.ref sa_1), .val (.ref sa_13), .val (.ref sa_28), .val (.ref b48), .val (.ref ra_81), .val (.int (1 : Int32)), .val (.int ((p0 &&& (3 : Int32)) + (1 : Int32)))] [(.int (((p0 &&& (3 : Int32)) + (1 : Int32)) + (2 : Int32))), (.ref ra_81)]) G
                obtain ⟨cq117, kq117, q117a, q117b, q117c⟩ := isOf hZ81 EJ340 P92
                obtain ⟨_, _, ⟨T117, L117, k117, n117⟩, -, X117, ⟨Lc117, hQ117, l117, y117, z117⟩, st117⟩ := XJ340.virtualBack hx (y := (⟨"java/lang/String", "charAt", "(I)C"⟩ : MethodName)) (z := (⟨"java/lang/String", "charAt", "(I)C"⟩ : MethodName)) hown81 (mvT hZ81 (hw _ (List.mem_of_getElem? (i := 188) rfl))) (mvT hZ81 (hw _ (List.mem_of_getElem? (i := 189) rfl))) (notFace_of_selects (args := #[]) (mvT hZ81 (hw _ (List.mem_of_getElem? (i := 191) rfl)))) (mvT hZ81 (hw _ (List.mem_of_getElem? (i := 191) rfl))) (mvT hZ81 (hw _ (List.mem_of_getElem? (i := 190) rfl))) (by decide) (backOf (W := 0) (st_at l Z a0 hw [] ra_81 rb_81 rk_81 (own_scat (32 : Int32) (p0 &&& (3 : Int32)) ((p0.toUInt32 >>> ((2 : Int32) &&& 31).toUInt32).toInt32 &&& (255 : Int32)) ((p0.toUInt32 >>> ((10 : Int32) &&& 31).toUInt32).toInt32 &&& (255 : Int32)) ((p0.toUInt32 >>> ((18 : Int32) &&& 31).toUInt32).toInt32 &&& (255 : Int32)) (p1 &&& (3 : Int32)) ((p1.toUInt32 >>> ((2 : Int32) &&& 31).toUInt32).toInt32 &&& (255 : Int32)) ((p1.toUInt32 >>> ((10 : Int32) &&& 31).toUInt32).toInt32 &&& (255 : Int32)) ((p1.toUInt32 >>> ((18 : Int32) &&& 31).toUInt32).toInt32 &&& (255 : Int32))) (((p0 &&& (3 : Int32)) + (1 : Int32)) + (2 : Int32)) (((p1.toUInt32 >>> ((18 : Int32) &&& 31).toUInt32).toInt32 &&& (255 : Int32)).toInt8.toInt32) fm cps T81.heap n0 Z110 P92 P93 P94 V113 F0_java_lang_String F1_jdk_internal_util_Preconditions G115 hcps hfm (own_g6 (c0 := ((p0.toUInt32 >>> ((2 : Int32) &&& 31).toUInt32).toInt32 &&& (255 : Int32))) (c1 := ((p0.toUInt32 >>> ((10 : Int32) &&& 31).toUInt32).toInt32 &&& (255 : Int32))) (c2 := ((p0.toUInt32 >>> ((18 : Int32) &&& 31).toUInt32).toInt32 &&& (255 : Int32))) (d0 := ((p1.toUInt32 >>> ((2 : Int32) &&& 31).toUInt32).toInt32 &&& (255 : Int32))) (d1 := ((p1.toUInt32 >>> ((10 : Int32) &&& 31).toUInt32).toInt32 &&& (255 : Int32))) (d2 := ((p1.toUInt32 >>> ((18 : Int32) &&& 31).toUInt32).toInt32 &&& (255 : Int32))) (own_and3 p0) (own_and3 p1) q6).1 (own_g6 (c0 := ((p0.toUInt32 >>> ((2 : Int32) &&& 31).toUInt32).toInt32 &&& (255 : Int32))) (c1 := ((p0.toUInt32 >>> ((10 : Int32) &&& 31).toUInt32).toInt32 &&& (255 : Int32))) (c2 := ((p0.toUInt32 >>> ((18 : Int32) &&& 31).toUInt32).toInt32 &&& (255 : Int32))) (d0 := ((p1.toUInt32 >>> ((2 : Int32) &&& 31).toUInt32).toInt32 &&& (255 : Int32))) (d1 := ((p1.toUInt32 >>> ((10 : Int32) &&& 31).toUInt32).toInt32 &&& (255 : Int32))) (d2 := ((p1.toUInt32 >>> ((18 : Int32) &&& 31).toUInt32).toInt32 &&& (255 : Int32))) (own_and3 p0) (own_and3 p1) q6).2.1 (own_g6 (c0 := ((p0.toUInt32 >>> ((2 : Int32) &&& 31).toUInt32).toInt32 &&& (255 : Int32))) (c1 := ((p0.toUInt32 >>> ((10 : Int32) &&& 31).toUInt32).toInt32 &&& (255 : Int32))) (c2 := ((p0.toUInt32 >>> ((18 : Int32) &&& 31).toUInt32).toInt32 &&& (255 : Int32))) (d0 := ((p1.toUInt32 >>> ((2 : Int32) &&& 31).toUInt32).toInt32 &&& (255 : Int32))) (d1 := ((p1.toUInt32 >>> ((10 : Int32) &&& 31).toUInt32).toInt32 &&& (255 : Int32))) (d2 := ((p1.toUInt32 >>> ((18 : Int32) &&& 31).toUInt32).toInt32 &&& (255 : Int32))) (own_and3 p0) (own_and3 p1) q6).2.2) hZ81 (hw _ (List.mem_of_getElem? (i := 192) rfl)) (hw _ (List.mem_of_getElem? (i := 6) rfl)) (by decide) (by decide)) q117a q117c (g := (mkF m 357 #[.val (.int p0), .val (.int p1), .val (.int p2), .val (.int (p0 &&& (3 : Int32))), .val (.int ((p0.toUInt32 >>> ((2 : Int32) &&& 31).toUInt32).toInt32 &&& (255 : Int32))), .val (.int ((p0.toUInt32 >>> ((10 : Int32) &&& 31).toUInt32).toInt32 &&& (255 : Int32))), .val (.int ((p0.toUInt32 >>> ((18 : Int32) &&& 31).toUInt32).toInt32 &&& (255 : Int32))), .val (.int (p1 &&& (3 : Int32))), .val (.int ((p1.toUInt32 >>> ((2 : Int32) &&& 31).toUInt32).toInt32 &&& (255 : Int32))), .val (.int ((p1.toUInt32 >>> ((10 : Int32) &&& 31).toUInt32).toInt32 &&& (255 : Int32))), .val (.int ((p1.toUInt32 >>> ((18 : Int32) &&& 31).toUInt32).toInt32 &&& (255 : Int32))), .val (.ref sa_1), .val (.ref sa_13), .val (.ref sa_28), .val (.ref b48), .val (.ref ra_81), .val (.int (1 : Int32)), .val (.int ((p0 &&& (3 : Int32)) + (1 : Int32)))] [(.int (((p0 &&& (3 : Int32)) + (1 : Int32)) + (2 : Int32))), (.ref ra_81)])) rfl (by rw [hml]; rfl) (Steps.refl _) (argsL := [(.int (((p0 &&& (3 : Int32)) + (1 : Int32)) + (2 : Int32)))]) (rest := []) (lenOf pd_30 rfl) rfl (by show 2 * 0 + _ ≤ _; exact Nat.le_of_eq rfl) (hb hby at_357) (fun _ _ => ⟨rfl, EJ340, (by decide : 21 + 0 ≤ _), (by decide : 81 + 0 ≤ _)⟩)
                dsimp only [Pt.U, Pt.locs, Pt.cells, Pt.slots] at X117 l117 y117 z117 st117 hQ117
                subst l117 y117 z117
                obtain ⟨rfl, N117q, eh117⟩ := hQ117
                have N117_ := Fr.app NJ340 N117q
                refine Gl.via (fun _ k => st117.trans k) ?_
                show Gl p.tables e below T117 (mkF m 360 #[.val (.int p0), .val (.int p1), .val (.int p2), .val (.int (p0 &&& (3 : Int32))), .val (.int ((p0.toUInt32 >>> ((2 : Int32) &&& 31).toUInt32).toInt32 &&& (255 : Int32))), .val (.int ((p0.toUInt32 >>> ((10 : Int32) &&& 31).toUInt32).toInt32 &&& (255 : Int32))), .val (.int ((p0.toUInt32 >>> ((18 : Int32) &&& 31).toUInt32).toInt32 &&& (255 : Int32))), .val (.int (p1 &&& (3 : Int32))), .val (.int ((p1.toUInt32 >>> ((2 : Int32) &&& 31).toUInt32).toInt32 &&& (255 : Int32))), .val (.int ((p1.toUInt32 >>> ((10 : Int32) &&& 31).toUInt32).toInt32 &&& (255 : Int32))), .val (.int ((p1.toUInt32 >>> ((18 : Int32) &&& 31).toUInt32).toInt32 &&& (255 : Int32))), .val (.ref sa_1), .val (.ref sa_13), .val (.ref sa_28), .val (.ref b48), .val (.ref ra_81), .val (.int (1 : Int32)), .val (.int ((p0 &&& (3 : Int32)) + (1 : Int32)))] [(.int ((((p1.toUInt32 >>> ((18 : Int32) &&& 31).toUInt32).toInt32 &&& (255 : Int32)).toInt8.toInt32) &&& (255 : Int32)))]) G
                refine Gl.via (fun _ k => XS.iload X117.here hx rfl (hb hby at_360) rfl k) ?_
                show Gl p.tables e below T117 (mkF m 362 #[.val (.int p0), .val (.int p1), .val (.int p2), .val (.int (p0 &&& (3 : Int32))), .val (.int ((p0.toUInt32 >>> ((2 : Int32) &&& 31).toUInt32).toInt32 &&& (255 : Int32))), .val (.int ((p0.toUInt32 >>> ((10 : Int32) &&& 31).toUInt32).toInt32 &&& (255 : Int32))), .val (.int ((p0.toUInt32 >>> ((18 : Int32) &&& 31).toUInt32).toInt32 &&& (255 : Int32))), .val (.int (p1 &&& (3 : Int32))), .val (.int ((p1.toUInt32 >>> ((2 : Int32) &&& 31).toUInt32).toInt32 &&& (255 : Int32))), .val (.int ((p1.toUInt32 >>> ((10 : Int32) &&& 31).toUInt32).toInt32 &&& (255 : Int32))), .val (.int ((p1.toUInt32 >>> ((18 : Int32) &&& 31).toUInt32).toInt32 &&& (255 : Int32))), .val (.ref sa_1), .val (.ref sa_13), .val (.ref sa_28), .val (.ref b48), .val (.ref ra_81), .val (.int (1 : Int32)), .val (.int ((p0 &&& (3 : Int32)) + (1 : Int32)))] [(.int ((p1.toUInt32 >>> ((18 : Int32) &&& 31).toUInt32).toInt32 &&& (255 : Int32))), (.int ((((p1.toUInt32 >>> ((18 : Int32) &&& 31).toUInt32).toInt32 &&& (255 : Int32)).toInt8.toInt32) &&& (255 : Int32)))]) G
                refine Gl.via (fun _ k => XS.icmpNo X117.here hx rfl (hb hby at_362) rfl (teq (own_msk _ (own_mb _).1 (own_mb _).2)).2 k) ?_
                show Gl p.tables e below T117 (mkF m 365 #[.val (.int p0), .val (.int p1), .val (.int p2), .val (.int (p0 &&& (3 : Int32))), .val (.int ((p0.toUInt32 >>> ((2 : Int32) &&& 31).toUInt32).toInt32 &&& (255 : Int32))), .val (.int ((p0.toUInt32 >>> ((10 : Int32) &&& 31).toUInt32).toInt32 &&& (255 : Int32))), .val (.int ((p0.toUInt32 >>> ((18 : Int32) &&& 31).toUInt32).toInt32 &&& (255 : Int32))), .val (.int (p1 &&& (3 : Int32))), .val (.int ((p1.toUInt32 >>> ((2 : Int32) &&& 31).toUInt32).toInt32 &&& (255 : Int32))), .val (.int ((p1.toUInt32 >>> ((10 : Int32) &&& 31).toUInt32).toInt32 &&& (255 : Int32))), .val (.int ((p1.toUInt32 >>> ((18 : Int32) &&& 31).toUInt32).toInt32 &&& (255 : Int32))), .val (.ref sa_1), .val (.ref sa_13), .val (.ref sa_28), .val (.ref b48), .val (.ref ra_81), .val (.int (1 : Int32)), .val (.int ((p0 &&& (3 : Int32)) + (1 : Int32)))] []) G
                refine Gl.via (fun _ k => XS.iconst X117.here hx rfl (hb hby at_365) k) ?_
                show Gl p.tables e below T117 (mkF m 366 #[.val (.int p0), .val (.int p1), .val (.int p2), .val (.int (p0 &&& (3 : Int32))), .val (.int ((p0.toUInt32 >>> ((2 : Int32) &&& 31).toUInt32).toInt32 &&& (255 : Int32))), .val (.int ((p0.toUInt32 >>> ((10 : Int32) &&& 31).toUInt32).toInt32 &&& (255 : Int32))), .val (.int ((p0.toUInt32 >>> ((18 : Int32) &&& 31).toUInt32).toInt32 &&& (255 : Int32))), .val (.int (p1 &&& (3 : Int32))), .val (.int ((p1.toUInt32 >>> ((2 : Int32) &&& 31).toUInt32).toInt32 &&& (255 : Int32))), .val (.int ((p1.toUInt32 >>> ((10 : Int32) &&& 31).toUInt32).toInt32 &&& (255 : Int32))), .val (.int ((p1.toUInt32 >>> ((18 : Int32) &&& 31).toUInt32).toInt32 &&& (255 : Int32))), .val (.ref sa_1), .val (.ref sa_13), .val (.ref sa_28), .val (.ref b48), .val (.ref ra_81), .val (.int (1 : Int32)), .val (.int ((p0 &&& (3 : Int32)) + (1 : Int32)))] [(.int (1 : Int32))]) G
                refine Gl.via (fun _ k => XS.goto X117.here hx rfl (pc0 := 366) (pc' := 370) rfl (hb hby at_366) (by decide) (by decide) k) ?_
                show Gl p.tables e below T117 (mkF m 370 #[.val (.int p0), .val (.int p1), .val (.int p2), .val (.int (p0 &&& (3 : Int32))), .val (.int ((p0.toUInt32 >>> ((2 : Int32) &&& 31).toUInt32).toInt32 &&& (255 : Int32))), .val (.int ((p0.toUInt32 >>> ((10 : Int32) &&& 31).toUInt32).toInt32 &&& (255 : Int32))), .val (.int ((p0.toUInt32 >>> ((18 : Int32) &&& 31).toUInt32).toInt32 &&& (255 : Int32))), .val (.int (p1 &&& (3 : Int32))), .val (.int ((p1.toUInt32 >>> ((2 : Int32) &&& 31).toUInt32).toInt32 &&& (255 : Int32))), .val (.int ((p1.toUInt32 >>> ((10 : Int32) &&& 31).toUInt32).toInt32 &&& (255 : Int32))), .val (.int ((p1.toUInt32 >>> ((18 : Int32) &&& 31).toUInt32).toInt32 &&& (255 : Int32))), .val (.ref sa_1), .val (.ref sa_13), .val (.ref sa_28), .val (.ref b48), .val (.ref ra_81), .val (.int (1 : Int32)), .val (.int ((p0 &&& (3 : Int32)) + (1 : Int32)))] [(.int (1 : Int32))]) G
                refine Gl.via (fun _ k => XS.istore X117.here hx rfl (hb hby at_370) rfl (l' := #[.val (.int p0), .val (.int p1), .val (.int p2), .val (.int (p0 &&& (3 : Int32))), .val (.int ((p0.toUInt32 >>> ((2 : Int32) &&& 31).toUInt32).toInt32 &&& (255 : Int32))), .val (.int ((p0.toUInt32 >>> ((10 : Int32) &&& 31).toUInt32).toInt32 &&& (255 : Int32))), .val (.int ((p0.toUInt32 >>> ((18 : Int32) &&& 31).toUInt32).toInt32 &&& (255 : Int32))), .val (.int (p1 &&& (3 : Int32))), .val (.int ((p1.toUInt32 >>> ((2 : Int32) &&& 31).toUInt32).toInt32 &&& (255 : Int32))), .val (.int ((p1.toUInt32 >>> ((10 : Int32) &&& 31).toUInt32).toInt32 &&& (255 : Int32))), .val (.int ((p1.toUInt32 >>> ((18 : Int32) &&& 31).toUInt32).toInt32 &&& (255 : Int32))), .val (.ref sa_1), .val (.ref sa_13), .val (.ref sa_28), .val (.ref b48), .val (.ref ra_81), .val (.int (1 : Int32)), .val (.int ((p0 &&& (3 : Int32)) + (1 : Int32)))]) rfl k) ?_
                show Gl p.tables e below T117 (mkF m 372 #[.val (.int p0), .val (.int p1), .val (.int p2), .val (.int (p0 &&& (3 : Int32))), .val (.int ((p0.toUInt32 >>> ((2 : Int32) &&& 31).toUInt32).toInt32 &&& (255 : Int32))), .val (.int ((p0.toUInt32 >>> ((10 : Int32) &&& 31).toUInt32).toInt32 &&& (255 : Int32))), .val (.int ((p0.toUInt32 >>> ((18 : Int32) &&& 31).toUInt32).toInt32 &&& (255 : Int32))), .val (.int (p1 &&& (3 : Int32))), .val (.int ((p1.toUInt32 >>> ((2 : Int32) &&& 31).toUInt32).toInt32 &&& (255 : Int32))), .val (.int ((p1.toUInt32 >>> ((10 : Int32) &&& 31).toUInt32).toInt32 &&& (255 : Int32))), .val (.int ((p1.toUInt32 >>> ((18 : Int32) &&& 31).toUInt32).toInt32 &&& (255 : Int32))), .val (.ref sa_1), .val (.ref sa_13), .val (.ref sa_28), .val (.ref b48), .val (.ref ra_81), .val (.int (1 : Int32)), .val (.int ((p0 &&& (3 : Int32)) + (1 : Int32)))] []) G
                exact J372 T117 _ X117 eh117 N117_ 
              · refine Gl.via (fun _ k => XS.icmpYes XJ340.here hx rfl (pc0 := 343) (pc' := 372) rfl (hb hby at_343) rfl (flt q6).2.2.2 (by decide) (by decide) k) ?_
                show Gl p.tables e below TJ340 (mkF m 372 #[.val (.int p0), .val (.int p1), .val (.int p2), .val (.int (p0 &&& (3 : Int32))), .val (.int ((p0.toUInt32 >>> ((2 : Int32) &&& 31).toUInt32).toInt32 &&& (255 : Int32))), .val (.int ((p0.toUInt32 >>> ((10 : Int32) &&& 31).toUInt32).toInt32 &&& (255 : Int32))), .val (.int ((p0.toUInt32 >>> ((18 : Int32) &&& 31).toUInt32).toInt32 &&& (255 : Int32))), .val (.int (p1 &&& (3 : Int32))), .val (.int ((p1.toUInt32 >>> ((2 : Int32) &&& 31).toUInt32).toInt32 &&& (255 : Int32))), .val (.int ((p1.toUInt32 >>> ((10 : Int32) &&& 31).toUInt32).toInt32 &&& (255 : Int32))), .val (.int ((p1.toUInt32 >>> ((18 : Int32) &&& 31).toUInt32).toInt32 &&& (255 : Int32))), .val (.ref sa_1), .val (.ref sa_13), .val (.ref sa_28), .val (.ref b48), .val (.ref ra_81), .val (.int (1 : Int32)), .val (.int ((p0 &&& (3 : Int32)) + (1 : Int32)))] []) G
                exact J372 TJ340 _ XJ340 EJ340 NJ340 
            refine Gl.via (fun _ k => XS.iload XJ308.here hx rfl (hb hby at_308) rfl k) ?_
            show Gl p.tables e below TJ308 (mkF m 310 #[.val (.int p0), .val (.int p1), .val (.int p2), .val (.int (p0 &&& (3 : Int32))), .val (.int ((p0.toUInt32 >>> ((2 : Int32) &&& 31).toUInt32).toInt32 &&& (255 : Int32))), .val (.int ((p0.toUInt32 >>> ((10 : Int32) &&& 31).toUInt32).toInt32 &&& (255 : Int32))), .val (.int ((p0.toUInt32 >>> ((18 : Int32) &&& 31).toUInt32).toInt32 &&& (255 : Int32))), .val (.int (p1 &&& (3 : Int32))), .val (.int ((p1.toUInt32 >>> ((2 : Int32) &&& 31).toUInt32).toInt32 &&& (255 : Int32))), .val (.int ((p1.toUInt32 >>> ((10 : Int32) &&& 31).toUInt32).toInt32 &&& (255 : Int32))), .val (.int ((p1.toUInt32 >>> ((18 : Int32) &&& 31).toUInt32).toInt32 &&& (255 : Int32))), .val (.ref sa_1), .val (.ref sa_13), .val (.ref sa_28), .val (.ref b48), .val (.ref ra_81), .val (.int (1 : Int32)), .val (.int ((p0 &&& (3 : Int32)) + (1 : Int32)))] [(.int (p1 &&& (3 : Int32)))]) G
            refine Gl.via (fun _ k => XS.iconst XJ308.here hx rfl (hb hby at_310) k) ?_
            show Gl p.tables e below TJ308 (mkF m 311 #[.val (.int p0), .val (.int p1), .val (.int p2), .val (.int (p0 &&& (3 : Int32))), .val (.int ((p0.toUInt32 >>> ((2 : Int32) &&& 31).toUInt32).toInt32 &&& (255 : Int32))), .val (.int ((p0.toUInt32 >>> ((10 : Int32) &&& 31).toUInt32).toInt32 &&& (255 : Int32))), .val (.int ((p0.toUInt32 >>> ((18 : Int32) &&& 31).toUInt32).toInt32 &&& (255 : Int32))), .val (.int (p1 &&& (3 : Int32))), .val (.int ((p1.toUInt32 >>> ((2 : Int32) &&& 31).toUInt32).toInt32 &&& (255 : Int32))), .val (.int ((p1.toUInt32 >>> ((10 : Int32) &&& 31).toUInt32).toInt32 &&& (255 : Int32))), .val (.int ((p1.toUInt32 >>> ((18 : Int32) &&& 31).toUInt32).toInt32 &&& (255 : Int32))), .val (.ref sa_1), .val (.ref sa_13), .val (.ref sa_28), .val (.ref b48), .val (.ref ra_81), .val (.int (1 : Int32)), .val (.int ((p0 &&& (3 : Int32)) + (1 : Int32)))] [(.int (1 : Int32)), (.int (p1 &&& (3 : Int32)))]) G
            by_cases q5 : (1 : Int32) < (p1 &&& (3 : Int32))
            · refine Gl.via (fun _ k => XS.icmpNo XJ308.here hx rfl (hb hby at_311) rfl (tlt q5).2.2.2 k) ?_
              show Gl p.tables e below TJ308 (mkF m 314 #[.val (.int p0), .val (.int p1), .val (.int p2), .val (.int (p0 &&& (3 : Int32))), .val (.int ((p0.toUInt32 >>> ((2 : Int32) &&& 31).toUInt32).toInt32 &&& (255 : Int32))), .val (.int ((p0.toUInt32 >>> ((10 : Int32) &&& 31).toUInt32).toInt32 &&& (255 : Int32))), .val (.int ((p0.toUInt32 >>> ((18 : Int32) &&& 31).toUInt32).toInt32 &&& (255 : Int32))), .val (.int (p1 &&& (3 : Int32))), .val (.int ((p1.toUInt32 >>> ((2 : Int32) &&& 31).toUInt32).toInt32 &&& (255 : Int32))), .val (.int ((p1.toUInt32 >>> ((10 : Int32) &&& 31).toUInt32).toInt32 &&& (255 : Int32))), .val (.int ((p1.toUInt32 >>> ((18 : Int32) &&& 31).toUInt32).toInt32 &&& (255 : Int32))), .val (.ref sa_1), .val (.ref sa_13), .val (.ref sa_28), .val (.ref b48), .val (.ref ra_81), .val (.int (1 : Int32)), .val (.int ((p0 &&& (3 : Int32)) + (1 : Int32)))] []) G
              refine Gl.via (fun _ k => XS.iload XJ308.here hx rfl (hb hby at_314) rfl k) ?_
              show Gl p.tables e below TJ308 (mkF m 316 #[.val (.int p0), .val (.int p1), .val (.int p2), .val (.int (p0 &&& (3 : Int32))), .val (.int ((p0.toUInt32 >>> ((2 : Int32) &&& 31).toUInt32).toInt32 &&& (255 : Int32))), .val (.int ((p0.toUInt32 >>> ((10 : Int32) &&& 31).toUInt32).toInt32 &&& (255 : Int32))), .val (.int ((p0.toUInt32 >>> ((18 : Int32) &&& 31).toUInt32).toInt32 &&& (255 : Int32))), .val (.int (p1 &&& (3 : Int32))), .val (.int ((p1.toUInt32 >>> ((2 : Int32) &&& 31).toUInt32).toInt32 &&& (255 : Int32))), .val (.int ((p1.toUInt32 >>> ((10 : Int32) &&& 31).toUInt32).toInt32 &&& (255 : Int32))), .val (.int ((p1.toUInt32 >>> ((18 : Int32) &&& 31).toUInt32).toInt32 &&& (255 : Int32))), .val (.ref sa_1), .val (.ref sa_13), .val (.ref sa_28), .val (.ref b48), .val (.ref ra_81), .val (.int (1 : Int32)), .val (.int ((p0 &&& (3 : Int32)) + (1 : Int32)))] [(.int (1 : Int32))]) G
              refine Gl.via (fun _ k => XS.ifNo XJ308.here hx rfl (hb hby at_316) rfl ((if0 _ _).trans (feq (by decide)).1) k) ?_
              show Gl p.tables e below TJ308 (mkF m 319 #[.val (.int p0), .val (.int p1), .val (.int p2), .val (.int (p0 &&& (3 : Int32))), .val (.int ((p0.toUInt32 >>> ((2 : Int32) &&& 31).toUInt32).toInt32 &&& (255 : Int32))), .val (.int ((p0.toUInt32 >>> ((10 : Int32) &&& 31).toUInt32).toInt32 &&& (255 : Int32))), .val (.int ((p0.toUInt32 >>> ((18 : Int32) &&& 31).toUInt32).toInt32 &&& (255 : Int32))), .val (.int (p1 &&& (3 : Int32))), .val (.int ((p1.toUInt32 >>> ((2 : Int32) &&& 31).toUInt32).toInt32 &&& (255 : Int32))), .val (.int ((p1.toUInt32 >>> ((10 : Int32) &&& 31).toUInt32).toInt32 &&& (255 : Int32))), .val (.int ((p1.toUInt32 >>> ((18 : Int32) &&& 31).toUInt32).toInt32 &&& (255 : Int32))), .val (.ref sa_1), .val (.ref sa_13), .val (.ref sa_28), .val (.ref b48), .val (.ref ra_81), .val (.int (1 : Int32)), .val (.int ((p0 &&& (3 : Int32)) + (1 : Int32)))] []) G
              refine Gl.via (fun _ k => XS.aload XJ308.here hx rfl (hb hby at_319) rfl rfl k) ?_
              show Gl p.tables e below TJ308 (mkF m 321 #[.val (.int p0), .val (.int p1), .val (.int p2), .val (.int (p0 &&& (3 : Int32))), .val (.int ((p0.toUInt32 >>> ((2 : Int32) &&& 31).toUInt32).toInt32 &&& (255 : Int32))), .val (.int ((p0.toUInt32 >>> ((10 : Int32) &&& 31).toUInt32).toInt32 &&& (255 : Int32))), .val (.int ((p0.toUInt32 >>> ((18 : Int32) &&& 31).toUInt32).toInt32 &&& (255 : Int32))), .val (.int (p1 &&& (3 : Int32))), .val (.int ((p1.toUInt32 >>> ((2 : Int32) &&& 31).toUInt32).toInt32 &&& (255 : Int32))), .val (.int ((p1.toUInt32 >>> ((10 : Int32) &&& 31).toUInt32).toInt32 &&& (255 : Int32))), .val (.int ((p1.toUInt32 >>> ((18 : Int32) &&& 31).toUInt32).toInt32 &&& (255 : Int32))), .val (.ref sa_1), .val (.ref sa_13), .val (.ref sa_28), .val (.ref b48), .val (.ref ra_81), .val (.int (1 : Int32)), .val (.int ((p0 &&& (3 : Int32)) + (1 : Int32)))] [(.ref ra_81)]) G
              refine Gl.via (fun _ k => XS.iload XJ308.here hx rfl (hb hby at_321) rfl k) ?_
              show Gl p.tables e below TJ308 (mkF m 323 #[.val (.int p0), .val (.int p1), .val (.int p2), .val (.int (p0 &&& (3 : Int32))), .val (.int ((p0.toUInt32 >>> ((2 : Int32) &&& 31).toUInt32).toInt32 &&& (255 : Int32))), .val (.int ((p0.toUInt32 >>> ((10 : Int32) &&& 31).toUInt32).toInt32 &&& (255 : Int32))), .val (.int ((p0.toUInt32 >>> ((18 : Int32) &&& 31).toUInt32).toInt32 &&& (255 : Int32))), .val (.int (p1 &&& (3 : Int32))), .val (.int ((p1.toUInt32 >>> ((2 : Int32) &&& 31).toUInt32).toInt32 &&& (255 : Int32))), .val (.int ((p1.toUInt32 >>> ((10 : Int32) &&& 31).toUInt32).toInt32 &&& (255 : Int32))), .val (.int ((p1.toUInt32 >>> ((18 : Int32) &&& 31).toUInt32).toInt32 &&& (255 : Int32))), .val (.ref sa_1), .val (.ref sa_13), .val (.ref sa_28), .val (.ref b48), .val (.ref ra_81), .val (.int (1 : Int32)), .val (.int ((p0 &&& (3 : Int32)) + (1 : Int32)))] [(.int ((p0 &&& (3 : Int32)) + (1 : Int32))), (.ref ra_81)]) G
              refine Gl.via (fun _ k => XS.iconst XJ308.here hx rfl (hb hby at_323) k) ?_
              show Gl p.tables e below TJ308 (mkF m 324 #[.val (.int p0), .val (.int p1), .val (.int p2), .val (.int (p0 &&& (3 : Int32))), .val (.int ((p0.toUInt32 >>> ((2 : Int32) &&& 31).toUInt32).toInt32 &&& (255 : Int32))), .val (.int ((p0.toUInt32 >>> ((10 : Int32) &&& 31).toUInt32).toInt32 &&& (255 : Int32))), .val (.int ((p0.toUInt32 >>> ((18 : Int32) &&& 31).toUInt32).toInt32 &&& (255 : Int32))), .val (.int (p1 &&& (3 : Int32))), .val (.int ((p1.toUInt32 >>> ((2 : Int32) &&& 31).toUInt32).toInt32 &&& (255 : Int32))), .val (.int ((p1.toUInt32 >>> ((10 : Int32) &&& 31).toUInt32).toInt32 &&& (255 : Int32))), .val (.int ((p1.toUInt32 >>> ((18 : Int32) &&& 31).toUInt32).toInt32 &&& (255 : Int32))), .val (.ref sa_1), .val (.ref sa_13), .val (.ref sa_28), .val (.ref b48), .val (.ref ra_81), .val (.int (1 : Int32)), .val (.int ((p0 &&& (3 : Int32)) + (1 : Int32)))] [(.int (1 : Int32)), (.int ((p0 &&& (3 : Int32)) + (1 : Int32))), (.ref ra_81)]) G
              refine Gl.via (fun _ k => XS.iadd XJ308.here hx rfl (hb hby at_324) rfl k) ?_
              show Gl p.tables e below TJ308 (mkF m 325 #[.val (.int p0), .val (.int p1), .val (.int p2), .val (.int (p0 &&& (3 : Int32))), .val (.int ((p0.toUInt32 >>> ((2 : Int32) &&& 31).toUInt32).toInt32 &&& (255 : Int32))), .val (.int ((p0.toUInt32 >>> ((10 : Int32) &&& 31).toUInt32).toInt32 &&& (255 : Int32))), .val (.int ((p0.toUInt32 >>> ((18 : Int32) &&& 31).toUInt32).toInt32 &&& (255 : Int32))), .val (.int (p1 &&& (3 : Int32))), .val (.int ((p1.toUInt32 >>> ((2 : Int32) &&& 31).toUInt32).toInt32 &&& (255 : Int32))), .val (.int ((p1.toUInt32 >>> ((10 : Int32) &&& 31).toUInt32).toInt32 &&& (255 : Int32))), .val (.int ((p1.toUInt32 >>> ((18 : Int32) &&& 31).toUInt32).toInt32 &&& (255 : Int32))), .val (.ref sa_1), .val (.ref sa_13), .val (.ref sa_28), .val (.ref b48), .val (.ref ra_81), .val (.int (1 : Int32)), .val (.int ((p0 &&& (3 : Int32)) + (1 : Int32)))] [(.int (((p0 &&& (3 : Int32)) + (1 : Int32)) + (1 : Int32))), (.ref ra_81)]) G
              obtain ⟨cq118, kq118, q118a, q118b, q118c⟩ := isOf hZ81 EJ308 P92
              obtain ⟨_, _, ⟨T118, L118, k118, n118⟩, -, X118, ⟨Lc118, hQ118, l118, y118, z118⟩, st118⟩ := XJ308.virtualBack hx (y := (⟨"java/lang/String", "charAt", "(I)C"⟩ : MethodName)) (z := (⟨"java/lang/String", "charAt", "(I)C"⟩ : MethodName)) hown81 (mvT hZ81 (hw _ (List.mem_of_getElem? (i := 188) rfl))) (mvT hZ81 (hw _ (List.mem_of_getElem? (i := 189) rfl))) (notFace_of_selects (args := #[]) (mvT hZ81 (hw _ (List.mem_of_getElem? (i := 191) rfl)))) (mvT hZ81 (hw _ (List.mem_of_getElem? (i := 191) rfl))) (mvT hZ81 (hw _ (List.mem_of_getElem? (i := 190) rfl))) (by decide) (backOf (W := 0) (st_at l Z a0 hw [] ra_81 rb_81 rk_81 (own_scat (32 : Int32) (p0 &&& (3 : Int32)) ((p0.toUInt32 >>> ((2 : Int32) &&& 31).toUInt32).toInt32 &&& (255 : Int32)) ((p0.toUInt32 >>> ((10 : Int32) &&& 31).toUInt32).toInt32 &&& (255 : Int32)) ((p0.toUInt32 >>> ((18 : Int32) &&& 31).toUInt32).toInt32 &&& (255 : Int32)) (p1 &&& (3 : Int32)) ((p1.toUInt32 >>> ((2 : Int32) &&& 31).toUInt32).toInt32 &&& (255 : Int32)) ((p1.toUInt32 >>> ((10 : Int32) &&& 31).toUInt32).toInt32 &&& (255 : Int32)) ((p1.toUInt32 >>> ((18 : Int32) &&& 31).toUInt32).toInt32 &&& (255 : Int32))) (((p0 &&& (3 : Int32)) + (1 : Int32)) + (1 : Int32)) (((p1.toUInt32 >>> ((10 : Int32) &&& 31).toUInt32).toInt32 &&& (255 : Int32)).toInt8.toInt32) fm cps T81.heap n0 Z110 P92 P93 P94 V113 F0_java_lang_String F1_jdk_internal_util_Preconditions G115 hcps hfm (own_g5 (c0 := ((p0.toUInt32 >>> ((2 : Int32) &&& 31).toUInt32).toInt32 &&& (255 : Int32))) (c1 := ((p0.toUInt32 >>> ((10 : Int32) &&& 31).toUInt32).toInt32 &&& (255 : Int32))) (c2 := ((p0.toUInt32 >>> ((18 : Int32) &&& 31).toUInt32).toInt32 &&& (255 : Int32))) (d0 := ((p1.toUInt32 >>> ((2 : Int32) &&& 31).toUInt32).toInt32 &&& (255 : Int32))) (d1 := ((p1.toUInt32 >>> ((10 : Int32) &&& 31).toUInt32).toInt32 &&& (255 : Int32))) (d2 := ((p1.toUInt32 >>> ((18 : Int32) &&& 31).toUInt32).toInt32 &&& (255 : Int32))) (own_and3 p0) (own_and3 p1) q5).1 (own_g5 (c0 := ((p0.toUInt32 >>> ((2 : Int32) &&& 31).toUInt32).toInt32 &&& (255 : Int32))) (c1 := ((p0.toUInt32 >>> ((10 : Int32) &&& 31).toUInt32).toInt32 &&& (255 : Int32))) (c2 := ((p0.toUInt32 >>> ((18 : Int32) &&& 31).toUInt32).toInt32 &&& (255 : Int32))) (d0 := ((p1.toUInt32 >>> ((2 : Int32) &&& 31).toUInt32).toInt32 &&& (255 : Int32))) (d1 := ((p1.toUInt32 >>> ((10 : Int32) &&& 31).toUInt32).toInt32 &&& (255 : Int32))) (d2 := ((p1.toUInt32 >>> ((18 : Int32) &&& 31).toUInt32).toInt32 &&& (255 : Int32))) (own_and3 p0) (own_and3 p1) q5).2.1 (own_g5 (c0 := ((p0.toUInt32 >>> ((2 : Int32) &&& 31).toUInt32).toInt32 &&& (255 : Int32))) (c1 := ((p0.toUInt32 >>> ((10 : Int32) &&& 31).toUInt32).toInt32 &&& (255 : Int32))) (c2 := ((p0.toUInt32 >>> ((18 : Int32) &&& 31).toUInt32).toInt32 &&& (255 : Int32))) (d0 := ((p1.toUInt32 >>> ((2 : Int32) &&& 31).toUInt32).toInt32 &&& (255 : Int32))) (d1 := ((p1.toUInt32 >>> ((10 : Int32) &&& 31).toUInt32).toInt32 &&& (255 : Int32))) (d2 := ((p1.toUInt32 >>> ((18 : Int32) &&& 31).toUInt32).toInt32 &&& (255 : Int32))) (own_and3 p0) (own_and3 p1) q5).2.2) hZ81 (hw _ (List.mem_of_getElem? (i := 192) rfl)) (hw _ (List.mem_of_getElem? (i := 6) rfl)) (by decide) (by decide)) q118a q118c (g := (mkF m 325 #[.val (.int p0), .val (.int p1), .val (.int p2), .val (.int (p0 &&& (3 : Int32))), .val (.int ((p0.toUInt32 >>> ((2 : Int32) &&& 31).toUInt32).toInt32 &&& (255 : Int32))), .val (.int ((p0.toUInt32 >>> ((10 : Int32) &&& 31).toUInt32).toInt32 &&& (255 : Int32))), .val (.int ((p0.toUInt32 >>> ((18 : Int32) &&& 31).toUInt32).toInt32 &&& (255 : Int32))), .val (.int (p1 &&& (3 : Int32))), .val (.int ((p1.toUInt32 >>> ((2 : Int32) &&& 31).toUInt32).toInt32 &&& (255 : Int32))), .val (.int ((p1.toUInt32 >>> ((10 : Int32) &&& 31).toUInt32).toInt32 &&& (255 : Int32))), .val (.int ((p1.toUInt32 >>> ((18 : Int32) &&& 31).toUInt32).toInt32 &&& (255 : Int32))), .val (.ref sa_1), .val (.ref sa_13), .val (.ref sa_28), .val (.ref b48), .val (.ref ra_81), .val (.int (1 : Int32)), .val (.int ((p0 &&& (3 : Int32)) + (1 : Int32)))] [(.int (((p0 &&& (3 : Int32)) + (1 : Int32)) + (1 : Int32))), (.ref ra_81)])) rfl (by rw [hml]; rfl) (Steps.refl _) (argsL := [(.int (((p0 &&& (3 : Int32)) + (1 : Int32)) + (1 : Int32)))]) (rest := []) (lenOf pd_30 rfl) rfl (by show 2 * 0 + _ ≤ _; exact Nat.le_of_eq rfl) (hb hby at_325) (fun _ _ => ⟨rfl, EJ308, (by decide : 21 + 0 ≤ _), (by decide : 81 + 0 ≤ _)⟩)
              dsimp only [Pt.U, Pt.locs, Pt.cells, Pt.slots] at X118 l118 y118 z118 st118 hQ118
              subst l118 y118 z118
              obtain ⟨rfl, N118q, eh118⟩ := hQ118
              have N118_ := Fr.app NJ308 N118q
              refine Gl.via (fun _ k => st118.trans k) ?_
              show Gl p.tables e below T118 (mkF m 328 #[.val (.int p0), .val (.int p1), .val (.int p2), .val (.int (p0 &&& (3 : Int32))), .val (.int ((p0.toUInt32 >>> ((2 : Int32) &&& 31).toUInt32).toInt32 &&& (255 : Int32))), .val (.int ((p0.toUInt32 >>> ((10 : Int32) &&& 31).toUInt32).toInt32 &&& (255 : Int32))), .val (.int ((p0.toUInt32 >>> ((18 : Int32) &&& 31).toUInt32).toInt32 &&& (255 : Int32))), .val (.int (p1 &&& (3 : Int32))), .val (.int ((p1.toUInt32 >>> ((2 : Int32) &&& 31).toUInt32).toInt32 &&& (255 : Int32))), .val (.int ((p1.toUInt32 >>> ((10 : Int32) &&& 31).toUInt32).toInt32 &&& (255 : Int32))), .val (.int ((p1.toUInt32 >>> ((18 : Int32) &&& 31).toUInt32).toInt32 &&& (255 : Int32))), .val (.ref sa_1), .val (.ref sa_13), .val (.ref sa_28), .val (.ref b48), .val (.ref ra_81), .val (.int (1 : Int32)), .val (.int ((p0 &&& (3 : Int32)) + (1 : Int32)))] [(.int ((((p1.toUInt32 >>> ((10 : Int32) &&& 31).toUInt32).toInt32 &&& (255 : Int32)).toInt8.toInt32) &&& (255 : Int32)))]) G
              refine Gl.via (fun _ k => XS.iload X118.here hx rfl (hb hby at_328) rfl k) ?_
              show Gl p.tables e below T118 (mkF m 330 #[.val (.int p0), .val (.int p1), .val (.int p2), .val (.int (p0 &&& (3 : Int32))), .val (.int ((p0.toUInt32 >>> ((2 : Int32) &&& 31).toUInt32).toInt32 &&& (255 : Int32))), .val (.int ((p0.toUInt32 >>> ((10 : Int32) &&& 31).toUInt32).toInt32 &&& (255 : Int32))), .val (.int ((p0.toUInt32 >>> ((18 : Int32) &&& 31).toUInt32).toInt32 &&& (255 : Int32))), .val (.int (p1 &&& (3 : Int32))), .val (.int ((p1.toUInt32 >>> ((2 : Int32) &&& 31).toUInt32).toInt32 &&& (255 : Int32))), .val (.int ((p1.toUInt32 >>> ((10 : Int32) &&& 31).toUInt32).toInt32 &&& (255 : Int32))), .val (.int ((p1.toUInt32 >>> ((18 : Int32) &&& 31).toUInt32).toInt32 &&& (255 : Int32))), .val (.ref sa_1), .val (.ref sa_13), .val (.ref sa_28), .val (.ref b48), .val (.ref ra_81), .val (.int (1 : Int32)), .val (.int ((p0 &&& (3 : Int32)) + (1 : Int32)))] [(.int ((p1.toUInt32 >>> ((10 : Int32) &&& 31).toUInt32).toInt32 &&& (255 : Int32))), (.int ((((p1.toUInt32 >>> ((10 : Int32) &&& 31).toUInt32).toInt32 &&& (255 : Int32)).toInt8.toInt32) &&& (255 : Int32)))]) G
              refine Gl.via (fun _ k => XS.icmpNo X118.here hx rfl (hb hby at_330) rfl (teq (own_msk _ (own_mb _).1 (own_mb _).2)).2 k) ?_
              show Gl p.tables e below T118 (mkF m 333 #[.val (.int p0), .val (.int p1), .val (.int p2), .val (.int (p0 &&& (3 : Int32))), .val (.int ((p0.toUInt32 >>> ((2 : Int32) &&& 31).toUInt32).toInt32 &&& (255 : Int32))), .val (.int ((p0.toUInt32 >>> ((10 : Int32) &&& 31).toUInt32).toInt32 &&& (255 : Int32))), .val (.int ((p0.toUInt32 >>> ((18 : Int32) &&& 31).toUInt32).toInt32 &&& (255 : Int32))), .val (.int (p1 &&& (3 : Int32))), .val (.int ((p1.toUInt32 >>> ((2 : Int32) &&& 31).toUInt32).toInt32 &&& (255 : Int32))), .val (.int ((p1.toUInt32 >>> ((10 : Int32) &&& 31).toUInt32).toInt32 &&& (255 : Int32))), .val (.int ((p1.toUInt32 >>> ((18 : Int32) &&& 31).toUInt32).toInt32 &&& (255 : Int32))), .val (.ref sa_1), .val (.ref sa_13), .val (.ref sa_28), .val (.ref b48), .val (.ref ra_81), .val (.int (1 : Int32)), .val (.int ((p0 &&& (3 : Int32)) + (1 : Int32)))] []) G
              refine Gl.via (fun _ k => XS.iconst X118.here hx rfl (hb hby at_333) k) ?_
              show Gl p.tables e below T118 (mkF m 334 #[.val (.int p0), .val (.int p1), .val (.int p2), .val (.int (p0 &&& (3 : Int32))), .val (.int ((p0.toUInt32 >>> ((2 : Int32) &&& 31).toUInt32).toInt32 &&& (255 : Int32))), .val (.int ((p0.toUInt32 >>> ((10 : Int32) &&& 31).toUInt32).toInt32 &&& (255 : Int32))), .val (.int ((p0.toUInt32 >>> ((18 : Int32) &&& 31).toUInt32).toInt32 &&& (255 : Int32))), .val (.int (p1 &&& (3 : Int32))), .val (.int ((p1.toUInt32 >>> ((2 : Int32) &&& 31).toUInt32).toInt32 &&& (255 : Int32))), .val (.int ((p1.toUInt32 >>> ((10 : Int32) &&& 31).toUInt32).toInt32 &&& (255 : Int32))), .val (.int ((p1.toUInt32 >>> ((18 : Int32) &&& 31).toUInt32).toInt32 &&& (255 : Int32))), .val (.ref sa_1), .val (.ref sa_13), .val (.ref sa_28), .val (.ref b48), .val (.ref ra_81), .val (.int (1 : Int32)), .val (.int ((p0 &&& (3 : Int32)) + (1 : Int32)))] [(.int (1 : Int32))]) G
              refine Gl.via (fun _ k => XS.goto X118.here hx rfl (pc0 := 334) (pc' := 338) rfl (hb hby at_334) (by decide) (by decide) k) ?_
              show Gl p.tables e below T118 (mkF m 338 #[.val (.int p0), .val (.int p1), .val (.int p2), .val (.int (p0 &&& (3 : Int32))), .val (.int ((p0.toUInt32 >>> ((2 : Int32) &&& 31).toUInt32).toInt32 &&& (255 : Int32))), .val (.int ((p0.toUInt32 >>> ((10 : Int32) &&& 31).toUInt32).toInt32 &&& (255 : Int32))), .val (.int ((p0.toUInt32 >>> ((18 : Int32) &&& 31).toUInt32).toInt32 &&& (255 : Int32))), .val (.int (p1 &&& (3 : Int32))), .val (.int ((p1.toUInt32 >>> ((2 : Int32) &&& 31).toUInt32).toInt32 &&& (255 : Int32))), .val (.int ((p1.toUInt32 >>> ((10 : Int32) &&& 31).toUInt32).toInt32 &&& (255 : Int32))), .val (.int ((p1.toUInt32 >>> ((18 : Int32) &&& 31).toUInt32).toInt32 &&& (255 : Int32))), .val (.ref sa_1), .val (.ref sa_13), .val (.ref sa_28), .val (.ref b48), .val (.ref ra_81), .val (.int (1 : Int32)), .val (.int ((p0 &&& (3 : Int32)) + (1 : Int32)))] [(.int (1 : Int32))]) G
              refine Gl.via (fun _ k => XS.istore X118.here hx rfl (hb hby at_338) rfl (l' := #[.val (.int p0), .val (.int p1), .val (.int p2), .val (.int (p0 &&& (3 : Int32))), .val (.int ((p0.toUInt32 >>> ((2 : Int32) &&& 31).toUInt32).toInt32 &&& (255 : Int32))), .val (.int ((p0.toUInt32 >>> ((10 : Int32) &&& 31).toUInt32).toInt32 &&& (255 : Int32))), .val (.int ((p0.toUInt32 >>> ((18 : Int32) &&& 31).toUInt32).toInt32 &&& (255 : Int32))), .val (.int (p1 &&& (3 : Int32))), .val (.int ((p1.toUInt32 >>> ((2 : Int32) &&& 31).toUInt32).toInt32 &&& (255 : Int32))), .val (.int ((p1.toUInt32 >>> ((10 : Int32) &&& 31).toUInt32).toInt32 &&& (255 : Int32))), .val (.int ((p1.toUInt32 >>> ((18 : Int32) &&& 31).toUInt32).toInt32 &&& (255 : Int32))), .val (.ref sa_1), .val (.ref sa_13), .val (.ref sa_28), .val (.ref b48), .val (.ref ra_81), .val (.int (1 : Int32)), .val (.int ((p0 &&& (3 : Int32)) + (1 : Int32)))]) rfl k) ?_
              show Gl p.tables e below T118 (mkF m 340 #[.val (.int p0), .val (.int p1), .val (.int p2), .val (.int (p0 &&& (3 : Int32))), .val (.int ((p0.toUInt32 >>> ((2 : Int32) &&& 31).toUInt32).toInt32 &&& (255 : Int32))), .val (.int ((p0.toUInt32 >>> ((10 : Int32) &&& 31).toUInt32).toInt32 &&& (255 : Int32))), .val (.int ((p0.toUInt32 >>> ((18 : Int32) &&& 31).toUInt32).toInt32 &&& (255 : Int32))), .val (.int (p1 &&& (3 : Int32))), .val (.int ((p1.toUInt32 >>> ((2 : Int32) &&& 31).toUInt32).toInt32 &&& (255 : Int32))), .val (.int ((p1.toUInt32 >>> ((10 : Int32) &&& 31).toUInt32).toInt32 &&& (255 : Int32))), .val (.int ((p1.toUInt32 >>> ((18 : Int32) &&& 31).toUInt32).toInt32 &&& (255 : Int32))), .val (.ref sa_1), .val (.ref sa_13), .val (.ref sa_28), .val (.ref b48), .val (.ref ra_81), .val (.int (1 : Int32)), .val (.int ((p0 &&& (3 : Int32)) + (1 : Int32)))] []) G
              exact J340 T118 _ X118 eh118 N118_ 
            · refine Gl.via (fun _ k => XS.icmpYes XJ308.here hx rfl (pc0 := 311) (pc' := 340) rfl (hb hby at_311) rfl (flt q5).2.2.2 (by decide) (by decide) k) ?_
              show Gl p.tables e below TJ308 (mkF m 340 #[.val (.int p0), .val (.int p1), .val (.int p2), .val (.int (p0 &&& (3 : Int32))), .val (.int ((p0.toUInt32 >>> ((2 : Int32) &&& 31).toUInt32).toInt32 &&& (255 : Int32))), .val (.int ((p0.toUInt32 >>> ((10 : Int32) &&& 31).toUInt32).toInt32 &&& (255 : Int32))), .val (.int ((p0.toUInt32 >>> ((18 : Int32) &&& 31).toUInt32).toInt32 &&& (255 : Int32))), .val (.int (p1 &&& (3 : Int32))), .val (.int ((p1.toUInt32 >>> ((2 : Int32) &&& 31).toUInt32).toInt32 &&& (255 : Int32))), .val (.int ((p1.toUInt32 >>> ((10 : Int32) &&& 31).toUInt32).toInt32 &&& (255 : Int32))), .val (.int ((p1.toUInt32 >>> ((18 : Int32) &&& 31).toUInt32).toInt32 &&& (255 : Int32))), .val (.ref sa_1), .val (.ref sa_13), .val (.ref sa_28), .val (.ref b48), .val (.ref ra_81), .val (.int (1 : Int32)), .val (.int ((p0 &&& (3 : Int32)) + (1 : Int32)))] []) G
              exact J340 TJ308 _ XJ308 EJ308 NJ308 
          refine Gl.via (fun _ k => XS.iload X116.here hx rfl (hb hby at_279) rfl k) ?_
          show Gl p.tables e below T116 (mkF m 281 #[.val (.int p0), .val (.int p1), .val (.int p2), .val (.int (p0 &&& (3 : Int32))), .val (.int ((p0.toUInt32 >>> ((2 : Int32) &&& 31).toUInt32).toInt32 &&& (255 : Int32))), .val (.int ((p0.toUInt32 >>> ((10 : Int32) &&& 31).toUInt32).toInt32 &&& (255 : Int32))), .val (.int ((p0.toUInt32 >>> ((18 : Int32) &&& 31).toUInt32).toInt32 &&& (255 : Int32))), .val (.int (p1 &&& (3 : Int32))), .val (.int ((p1.toUInt32 >>> ((2 : Int32) &&& 31).toUInt32).toInt32 &&& (255 : Int32))), .val (.int ((p1.toUInt32 >>> ((10 : Int32) &&& 31).toUInt32).toInt32 &&& (255 : Int32))), .val (.int ((p1.toUInt32 >>> ((18 : Int32) &&& 31).toUInt32).toInt32 &&& (255 : Int32))), .val (.ref sa_1), .val (.ref sa_13), .val (.ref sa_28), .val (.ref b48), .val (.ref ra_81), .val (.int (1 : Int32)), .val (.int ((p0 &&& (3 : Int32)) + (1 : Int32)))] [(.int (p1 &&& (3 : Int32)))]) G
          by_cases q4 : (0 : Int32) < (p1 &&& (3 : Int32))
          · refine Gl.via (fun _ k => XS.ifNo X116.here hx rfl (hb hby at_281) rfl ((if0 _ _).trans (tlt q4).2.2.2) k) ?_
            show Gl p.tables e below T116 (mkF m 284 #[.val (.int p0), .val (.int p1), .val (.int p2), .val (.int (p0 &&& (3 : Int32))), .val (.int ((p0.toUInt32 >>> ((2 : Int32) &&& 31).toUInt32).toInt32 &&& (255 : Int32))), .val (.int ((p0.toUInt32 >>> ((10 : Int32) &&& 31).toUInt32).toInt32 &&& (255 : Int32))), .val (.int ((p0.toUInt32 >>> ((18 : Int32) &&& 31).toUInt32).toInt32 &&& (255 : Int32))), .val (.int (p1 &&& (3 : Int32))), .val (.int ((p1.toUInt32 >>> ((2 : Int32) &&& 31).toUInt32).toInt32 &&& (255 : Int32))), .val (.int ((p1.toUInt32 >>> ((10 : Int32) &&& 31).toUInt32).toInt32 &&& (255 : Int32))), .val (.int ((p1.toUInt32 >>> ((18 : Int32) &&& 31).toUInt32).toInt32 &&& (255 : Int32))), .val (.ref sa_1), .val (.ref sa_13), .val (.ref sa_28), .val (.ref b48), .val (.ref ra_81), .val (.int (1 : Int32)), .val (.int ((p0 &&& (3 : Int32)) + (1 : Int32)))] []) G
            refine Gl.via (fun _ k => XS.iload X116.here hx rfl (hb hby at_284) rfl k) ?_
            show Gl p.tables e below T116 (mkF m 286 #[.val (.int p0), .val (.int p1), .val (.int p2), .val (.int (p0 &&& (3 : Int32))), .val (.int ((p0.toUInt32 >>> ((2 : Int32) &&& 31).toUInt32).toInt32 &&& (255 : Int32))), .val (.int ((p0.toUInt32 >>> ((10 : Int32) &&& 31).toUInt32).toInt32 &&& (255 : Int32))), .val (.int ((p0.toUInt32 >>> ((18 : Int32) &&& 31).toUInt32).toInt32 &&& (255 : Int32))), .val (.int (p1 &&& (3 : Int32))), .val (.int ((p1.toUInt32 >>> ((2 : Int32) &&& 31).toUInt32).toInt32 &&& (255 : Int32))), .val (.int ((p1.toUInt32 >>> ((10 : Int32) &&& 31).toUInt32).toInt32 &&& (255 : Int32))), .val (.int ((p1.toUInt32 >>> ((18 : Int32) &&& 31).toUInt32).toInt32 &&& (255 : Int32))), .val (.ref sa_1), .val (.ref sa_13), .val (.ref sa_28), .val (.ref b48), .val (.ref ra_81), .val (.int (1 : Int32)), .val (.int ((p0 &&& (3 : Int32)) + (1 : Int32)))] [(.int (1 : Int32))]) G
            refine Gl.via (fun _ k => XS.ifNo X116.here hx rfl (hb hby at_286) rfl ((if0 _ _).trans (feq (by decide)).1) k) ?_
            show Gl p.tables e below T116 (mkF m 289 #[.val (.int p0), .val (.int p1), .val (.int p2), .val (.int (p0 &&& (3 : Int32))), .val (.int ((p0.toUInt32 >>> ((2 : Int32) &&& 31).toUInt32).toInt32 &&& (255 : Int32))), .val (.int ((p0.toUInt32 >>> ((10 : Int32) &&& 31).toUInt32).toInt32 &&& (255 : Int32))), .val (.int ((p0.toUInt32 >>> ((18 : Int32) &&& 31).toUInt32).toInt32 &&& (255 : Int32))), .val (.int (p1 &&& (3 : Int32))), .val (.int ((p1.toUInt32 >>> ((2 : Int32) &&& 31).toUInt32).toInt32 &&& (255 : Int32))), .val (.int ((p1.toUInt32 >>> ((10 : Int32) &&& 31).toUInt32).toInt32 &&& (255 : Int32))), .val (.int ((p1.toUInt32 >>> ((18 : Int32) &&& 31).toUInt32).toInt32 &&& (255 : Int32))), .val (.ref sa_1), .val (.ref sa_13), .val (.ref sa_28), .val (.ref b48), .val (.ref ra_81), .val (.int (1 : Int32)), .val (.int ((p0 &&& (3 : Int32)) + (1 : Int32)))] []) G
            refine Gl.via (fun _ k => XS.aload X116.here hx rfl (hb hby at_289) rfl rfl k) ?_
            show Gl p.tables e below T116 (mkF m 291 #[.val (.int p0), .val (.int p1), .val (.int p2), .val (.int (p0 &&& (3 : Int32))), .val (.int ((p0.toUInt32 >>> ((2 : Int32) &&& 31).toUInt32).toInt32 &&& (255 : Int32))), .val (.int ((p0.toUInt32 >>> ((10 : Int32) &&& 31).toUInt32).toInt32 &&& (255 : Int32))), .val (.int ((p0.toUInt32 >>> ((18 : Int32) &&& 31).toUInt32).toInt32 &&& (255 : Int32))), .val (.int (p1 &&& (3 : Int32))), .val (.int ((p1.toUInt32 >>> ((2 : Int32) &&& 31).toUInt32).toInt32 &&& (255 : Int32))), .val (.int ((p1.toUInt32 >>> ((10 : Int32) &&& 31).toUInt32).toInt32 &&& (255 : Int32))), .val (.int ((p1.toUInt32 >>> ((18 : Int32) &&& 31).toUInt32).toInt32 &&& (255 : Int32))), .val (.ref sa_1), .val (.ref sa_13), .val (.ref sa_28), .val (.ref b48), .val (.ref ra_81), .val (.int (1 : Int32)), .val (.int ((p0 &&& (3 : Int32)) + (1 : Int32)))] [(.ref ra_81)]) G
            refine Gl.via (fun _ k => XS.iload X116.here hx rfl (hb hby at_291) rfl k) ?_
            show Gl p.tables e below T116 (mkF m 293 #[.val (.int p0), .val (.int p1), .val (.int p2), .val (.int (p0 &&& (3 : Int32))), .val (.int ((p0.toUInt32 >>> ((2 : Int32) &&& 31).toUInt32).toInt32 &&& (255 : Int32))), .val (.int ((p0.toUInt32 >>> ((10 : Int32) &&& 31).toUInt32).toInt32 &&& (255 : Int32))), .val (.int ((p0.toUInt32 >>> ((18 : Int32) &&& 31).toUInt32).toInt32 &&& (255 : Int32))), .val (.int (p1 &&& (3 : Int32))), .val (.int ((p1.toUInt32 >>> ((2 : Int32) &&& 31).toUInt32).toInt32 &&& (255 : Int32))), .val (.int ((p1.toUInt32 >>> ((10 : Int32) &&& 31).toUInt32).toInt32 &&& (255 : Int32))), .val (.int ((p1.toUInt32 >>> ((18 : Int32) &&& 31).toUInt32).toInt32 &&& (255 : Int32))), .val (.ref sa_1), .val (.ref sa_13), .val (.ref sa_28), .val (.ref b48), .val (.ref ra_81), .val (.int (1 : Int32)), .val (.int ((p0 &&& (3 : Int32)) + (1 : Int32)))] [(.int ((p0 &&& (3 : Int32)) + (1 : Int32))), (.ref ra_81)]) G
            obtain ⟨cq119, kq119, q119a, q119b, q119c⟩ := isOf hZ81 eh116 P92
            obtain ⟨_, _, ⟨T119, L119, k119, n119⟩, -, X119, ⟨Lc119, hQ119, l119, y119, z119⟩, st119⟩ := X116.virtualBack hx (y := (⟨"java/lang/String", "charAt", "(I)C"⟩ : MethodName)) (z := (⟨"java/lang/String", "charAt", "(I)C"⟩ : MethodName)) hown81 (mvT hZ81 (hw _ (List.mem_of_getElem? (i := 188) rfl))) (mvT hZ81 (hw _ (List.mem_of_getElem? (i := 189) rfl))) (notFace_of_selects (args := #[]) (mvT hZ81 (hw _ (List.mem_of_getElem? (i := 191) rfl)))) (mvT hZ81 (hw _ (List.mem_of_getElem? (i := 191) rfl))) (mvT hZ81 (hw _ (List.mem_of_getElem? (i := 190) rfl))) (by decide) (backOf (W := 0) (st_at l Z a0 hw [] ra_81 rb_81 rk_81 (own_scat (32 : Int32) (p0 &&& (3 : Int32)) ((p0.toUInt32 >>> ((2 : Int32) &&& 31).toUInt32).toInt32 &&& (255 : Int32)) ((p0.toUInt32 >>> ((10 : Int32) &&& 31).toUInt32).toInt32 &&& (255 : Int32)) ((p0.toUInt32 >>> ((18 : Int32) &&& 31).toUInt32).toInt32 &&& (255 : Int32)) (p1 &&& (3 : Int32)) ((p1.toUInt32 >>> ((2 : Int32) &&& 31).toUInt32).toInt32 &&& (255 : Int32)) ((p1.toUInt32 >>> ((10 : Int32) &&& 31).toUInt32).toInt32 &&& (255 : Int32)) ((p1.toUInt32 >>> ((18 : Int32) &&& 31).toUInt32).toInt32 &&& (255 : Int32))) ((p0 &&& (3 : Int32)) + (1 : Int32)) (((p1.toUInt32 >>> ((2 : Int32) &&& 31).toUInt32).toInt32 &&& (255 : Int32)).toInt8.toInt32) fm cps T81.heap n0 Z110 P92 P93 P94 V113 F0_java_lang_String F1_jdk_internal_util_Preconditions G115 hcps hfm (own_g4 (c0 := ((p0.toUInt32 >>> ((2 : Int32) &&& 31).toUInt32).toInt32 &&& (255 : Int32))) (c1 := ((p0.toUInt32 >>> ((10 : Int32) &&& 31).toUInt32).toInt32 &&& (255 : Int32))) (c2 := ((p0.toUInt32 >>> ((18 : Int32) &&& 31).toUInt32).toInt32 &&& (255 : Int32))) (d0 := ((p1.toUInt32 >>> ((2 : Int32) &&& 31).toUInt32).toInt32 &&& (255 : Int32))) (d1 := ((p1.toUInt32 >>> ((10 : Int32) &&& 31).toUInt32).toInt32 &&& (255 : Int32))) (d2 := ((p1.toUInt32 >>> ((18 : Int32) &&& 31).toUInt32).toInt32 &&& (255 : Int32))) (own_and3 p0) (own_and3 p1) q4).1 (own_g4 (c0 := ((p0.toUInt32 >>> ((2 : Int32) &&& 31).toUInt32).toInt32 &&& (255 : Int32))) (c1 := ((p0.toUInt32 >>> ((10 : Int32) &&& 31).toUInt32).toInt32 &&& (255 : Int32))) (c2 := ((p0.toUInt32 >>> ((18 : Int32) &&& 31).toUInt32).toInt32 &&& (255 : Int32))) (d0 := ((p1.toUInt32 >>> ((2 : Int32) &&& 31).toUInt32).toInt32 &&& (255 : Int32))) (d1 := ((p1.toUInt32 >>> ((10 : Int32) &&& 31).toUInt32).toInt32 &&& (255 : Int32))) (d2 := ((p1.toUInt32 >>> ((18 : Int32) &&& 31).toUInt32).toInt32 &&& (255 : Int32))) (own_and3 p0) (own_and3 p1) q4).2.1 (own_g4 (c0 := ((p0.toUInt32 >>> ((2 : Int32) &&& 31).toUInt32).toInt32 &&& (255 : Int32))) (c1 := ((p0.toUInt32 >>> ((10 : Int32) &&& 31).toUInt32).toInt32 &&& (255 : Int32))) (c2 := ((p0.toUInt32 >>> ((18 : Int32) &&& 31).toUInt32).toInt32 &&& (255 : Int32))) (d0 := ((p1.toUInt32 >>> ((2 : Int32) &&& 31).toUInt32).toInt32 &&& (255 : Int32))) (d1 := ((p1.toUInt32 >>> ((10 : Int32) &&& 31).toUInt32).toInt32 &&& (255 : Int32))) (d2 := ((p1.toUInt32 >>> ((18 : Int32) &&& 31).toUInt32).toInt32 &&& (255 : Int32))) (own_and3 p0) (own_and3 p1) q4).2.2) hZ81 (hw _ (List.mem_of_getElem? (i := 192) rfl)) (hw _ (List.mem_of_getElem? (i := 6) rfl)) (by decide) (by decide)) q119a q119c (g := (mkF m 293 #[.val (.int p0), .val (.int p1), .val (.int p2), .val (.int (p0 &&& (3 : Int32))), .val (.int ((p0.toUInt32 >>> ((2 : Int32) &&& 31).toUInt32).toInt32 &&& (255 : Int32))), .val (.int ((p0.toUInt32 >>> ((10 : Int32) &&& 31).toUInt32).toInt32 &&& (255 : Int32))), .val (.int ((p0.toUInt32 >>> ((18 : Int32) &&& 31).toUInt32).toInt32 &&& (255 : Int32))), .val (.int (p1 &&& (3 : Int32))), .val (.int ((p1.toUInt32 >>> ((2 : Int32) &&& 31).toUInt32).toInt32 &&& (255 : Int32))), .val (.int ((p1.toUInt32 >>> ((10 : Int32) &&& 31).toUInt32).toInt32 &&& (255 : Int32))), .val (.int ((p1.toUInt32 >>> ((18 : Int32) &&& 31).toUInt32).toInt32 &&& (255 : Int32))), .val (.ref sa_1), .val (.ref sa_13), .val (.ref sa_28), .val (.ref b48), .val (.ref ra_81), .val (.int (1 : Int32)), .val (.int ((p0 &&& (3 : Int32)) + (1 : Int32)))] [(.int ((p0 &&& (3 : Int32)) + (1 : Int32))), (.ref ra_81)])) rfl (by rw [hml]; rfl) (Steps.refl _) (argsL := [(.int ((p0 &&& (3 : Int32)) + (1 : Int32)))]) (rest := []) (lenOf pd_30 rfl) rfl (by show 2 * 0 + _ ≤ _; exact Nat.le_of_eq rfl) (hb hby at_293) (fun _ _ => ⟨rfl, eh116, (by decide : 21 + 0 ≤ _), (by decide : 81 + 0 ≤ _)⟩)
            dsimp only [Pt.U, Pt.locs, Pt.cells, Pt.slots] at X119 l119 y119 z119 st119 hQ119
            subst l119 y119 z119
            obtain ⟨rfl, N119q, eh119⟩ := hQ119
            have N119_ := Fr.app N116_ N119q
            refine Gl.via (fun _ k => st119.trans k) ?_
            show Gl p.tables e below T119 (mkF m 296 #[.val (.int p0), .val (.int p1), .val (.int p2), .val (.int (p0 &&& (3 : Int32))), .val (.int ((p0.toUInt32 >>> ((2 : Int32) &&& 31).toUInt32).toInt32 &&& (255 : Int32))), .val (.int ((p0.toUInt32 >>> ((10 : Int32) &&& 31).toUInt32).toInt32 &&& (255 : Int32))), .val (.int ((p0.toUInt32 >>> ((18 : Int32) &&& 31).toUInt32).toInt32 &&& (255 : Int32))), .val (.int (p1 &&& (3 : Int32))), .val (.int ((p1.toUInt32 >>> ((2 : Int32) &&& 31).toUInt32).toInt32 &&& (255 : Int32))), .val (.int ((p1.toUInt32 >>> ((10 : Int32) &&& 31).toUInt32).toInt32 &&& (255 : Int32))), .val (.int ((p1.toUInt32 >>> ((18 : Int32) &&& 31).toUInt32).toInt32 &&& (255 : Int32))), .val (.ref sa_1), .val (.ref sa_13), .val (.ref sa_28), .val (.ref b48), .val (.ref ra_81), .val (.int (1 : Int32)), .val (.int ((p0 &&& (3 : Int32)) + (1 : Int32)))] [(.int ((((p1.toUInt32 >>> ((2 : Int32) &&& 31).toUInt32).toInt32 &&& (255 : Int32)).toInt8.toInt32) &&& (255 : Int32)))]) G
            refine Gl.via (fun _ k => XS.iload X119.here hx rfl (hb hby at_296) rfl k) ?_
            show Gl p.tables e below T119 (mkF m 298 #[.val (.int p0), .val (.int p1), .val (.int p2), .val (.int (p0 &&& (3 : Int32))), .val (.int ((p0.toUInt32 >>> ((2 : Int32) &&& 31).toUInt32).toInt32 &&& (255 : Int32))), .val (.int ((p0.toUInt32 >>> ((10 : Int32) &&& 31).toUInt32).toInt32 &&& (255 : Int32))), .val (.int ((p0.toUInt32 >>> ((18 : Int32) &&& 31).toUInt32).toInt32 &&& (255 : Int32))), .val (.int (p1 &&& (3 : Int32))), .val (.int ((p1.toUInt32 >>> ((2 : Int32) &&& 31).toUInt32).toInt32 &&& (255 : Int32))), .val (.int ((p1.toUInt32 >>> ((10 : Int32) &&& 31).toUInt32).toInt32 &&& (255 : Int32))), .val (.int ((p1.toUInt32 >>> ((18 : Int32) &&& 31).toUInt32).toInt32 &&& (255 : Int32))), .val (.ref sa_1), .val (.ref sa_13), .val (.ref sa_28), .val (.ref b48), .val (.ref ra_81), .val (.int (1 : Int32)), .val (.int ((p0 &&& (3 : Int32)) + (1 : Int32)))] [(.int ((p1.toUInt32 >>> ((2 : Int32) &&& 31).toUInt32).toInt32 &&& (255 : Int32))), (.int ((((p1.toUInt32 >>> ((2 : Int32) &&& 31).toUInt32).toInt32 &&& (255 : Int32)).toInt8.toInt32) &&& (255 : Int32)))]) G
            refine Gl.via (fun _ k => XS.icmpNo X119.here hx rfl (hb hby at_298) rfl (teq (own_msk _ (own_mb _).1 (own_mb _).2)).2 k) ?_
            show Gl p.tables e below T119 (mkF m 301 #[.val (.int p0), .val (.int p1), .val (.int p2), .val (.int (p0 &&& (3 : Int32))), .val (.int ((p0.toUInt32 >>> ((2 : Int32) &&& 31).toUInt32).toInt32 &&& (255 : Int32))), .val (.int ((p0.toUInt32 >>> ((10 : Int32) &&& 31).toUInt32).toInt32 &&& (255 : Int32))), .val (.int ((p0.toUInt32 >>> ((18 : Int32) &&& 31).toUInt32).toInt32 &&& (255 : Int32))), .val (.int (p1 &&& (3 : Int32))), .val (.int ((p1.toUInt32 >>> ((2 : Int32) &&& 31).toUInt32).toInt32 &&& (255 : Int32))), .val (.int ((p1.toUInt32 >>> ((10 : Int32) &&& 31).toUInt32).toInt32 &&& (255 : Int32))), .val (.int ((p1.toUInt32 >>> ((18 : Int32) &&& 31).toUInt32).toInt32 &&& (255 : Int32))), .val (.ref sa_1), .val (.ref sa_13), .val (.ref sa_28), .val (.ref b48), .val (.ref ra_81), .val (.int (1 : Int32)), .val (.int ((p0 &&& (3 : Int32)) + (1 : Int32)))] []) G
            refine Gl.via (fun _ k => XS.iconst X119.here hx rfl (hb hby at_301) k) ?_
            show Gl p.tables e below T119 (mkF m 302 #[.val (.int p0), .val (.int p1), .val (.int p2), .val (.int (p0 &&& (3 : Int32))), .val (.int ((p0.toUInt32 >>> ((2 : Int32) &&& 31).toUInt32).toInt32 &&& (255 : Int32))), .val (.int ((p0.toUInt32 >>> ((10 : Int32) &&& 31).toUInt32).toInt32 &&& (255 : Int32))), .val (.int ((p0.toUInt32 >>> ((18 : Int32) &&& 31).toUInt32).toInt32 &&& (255 : Int32))), .val (.int (p1 &&& (3 : Int32))), .val (.int ((p1.toUInt32 >>> ((2 : Int32) &&& 31).toUInt32).toInt32 &&& (255 : Int32))), .val (.int ((p1.toUInt32 >>> ((10 : Int32) &&& 31).toUInt32).toInt32 &&& (255 : Int32))), .val (.int ((p1.toUInt32 >>> ((18 : Int32) &&& 31).toUInt32).toInt32 &&& (255 : Int32))), .val (.ref sa_1), .val (.ref sa_13), .val (.ref sa_28), .val (.ref b48), .val (.ref ra_81), .val (.int (1 : Int32)), .val (.int ((p0 &&& (3 : Int32)) + (1 : Int32)))] [(.int (1 : Int32))]) G
            refine Gl.via (fun _ k => XS.goto X119.here hx rfl (pc0 := 302) (pc' := 306) rfl (hb hby at_302) (by decide) (by decide) k) ?_
            show Gl p.tables e below T119 (mkF m 306 #[.val (.int p0), .val (.int p1), .val (.int p2), .val (.int (p0 &&& (3 : Int32))), .val (.int ((p0.toUInt32 >>> ((2 : Int32) &&& 31).toUInt32).toInt32 &&& (255 : Int32))), .val (.int ((p0.toUInt32 >>> ((10 : Int32) &&& 31).toUInt32).toInt32 &&& (255 : Int32))), .val (.int ((p0.toUInt32 >>> ((18 : Int32) &&& 31).toUInt32).toInt32 &&& (255 : Int32))), .val (.int (p1 &&& (3 : Int32))), .val (.int ((p1.toUInt32 >>> ((2 : Int32) &&& 31).toUInt32).toInt32 &&& (255 : Int32))), .val (.int ((p1.toUInt32 >>> ((10 : Int32) &&& 31).toUInt32).toInt32 &&& (255 : Int32))), .val (.int ((p1.toUInt32 >>> ((18 : Int32) &&& 31).toUInt32).toInt32 &&& (255 : Int32))), .val (.ref sa_1), .val (.ref sa_13), .val (.ref sa_28), .val (.ref b48), .val (.ref ra_81), .val (.int (1 : Int32)), .val (.int ((p0 &&& (3 : Int32)) + (1 : Int32)))] [(.int (1 : Int32))]) G
            refine Gl.via (fun _ k => XS.istore X119.here hx rfl (hb hby at_306) rfl (l' := #[.val (.int p0), .val (.int p1), .val (.int p2), .val (.int (p0 &&& (3 : Int32))), .val (.int ((p0.toUInt32 >>> ((2 : Int32) &&& 31).toUInt32).toInt32 &&& (255 : Int32))), .val (.int ((p0.toUInt32 >>> ((10 : Int32) &&& 31).toUInt32).toInt32 &&& (255 : Int32))), .val (.int ((p0.toUInt32 >>> ((18 : Int32) &&& 31).toUInt32).toInt32 &&& (255 : Int32))), .val (.int (p1 &&& (3 : Int32))), .val (.int ((p1.toUInt32 >>> ((2 : Int32) &&& 31).toUInt32).toInt32 &&& (255 : Int32))), .val (.int ((p1.toUInt32 >>> ((10 : Int32) &&& 31).toUInt32).toInt32 &&& (255 : Int32))), .val (.int ((p1.toUInt32 >>> ((18 : Int32) &&& 31).toUInt32).toInt32 &&& (255 : Int32))), .val (.ref sa_1), .val (.ref sa_13), .val (.ref sa_28), .val (.ref b48), .val (.ref ra_81), .val (.int (1 : Int32)), .val (.int ((p0 &&& (3 : Int32)) + (1 : Int32)))]) rfl k) ?_
            show Gl p.tables e below T119 (mkF m 308 #[.val (.int p0), .val (.int p1), .val (.int p2), .val (.int (p0 &&& (3 : Int32))), .val (.int ((p0.toUInt32 >>> ((2 : Int32) &&& 31).toUInt32).toInt32 &&& (255 : Int32))), .val (.int ((p0.toUInt32 >>> ((10 : Int32) &&& 31).toUInt32).toInt32 &&& (255 : Int32))), .val (.int ((p0.toUInt32 >>> ((18 : Int32) &&& 31).toUInt32).toInt32 &&& (255 : Int32))), .val (.int (p1 &&& (3 : Int32))), .val (.int ((p1.toUInt32 >>> ((2 : Int32) &&& 31).toUInt32).toInt32 &&& (255 : Int32))), .val (.int ((p1.toUInt32 >>> ((10 : Int32) &&& 31).toUInt32).toInt32 &&& (255 : Int32))), .val (.int ((p1.toUInt32 >>> ((18 : Int32) &&& 31).toUInt32).toInt32 &&& (255 : Int32))), .val (.ref sa_1), .val (.ref sa_13), .val (.ref sa_28), .val (.ref b48), .val (.ref ra_81), .val (.int (1 : Int32)), .val (.int ((p0 &&& (3 : Int32)) + (1 : Int32)))] []) G
            exact J308 T119 _ X119 eh119 N119_ 
          · refine Gl.via (fun _ k => XS.ifYes X116.here hx rfl (pc0 := 281) (pc' := 308) rfl (hb hby at_281) rfl ((if0 _ _).trans (flt q4).2.2.2) (by decide) (by decide) k) ?_
            show Gl p.tables e below T116 (mkF m 308 #[.val (.int p0), .val (.int p1), .val (.int p2), .val (.int (p0 &&& (3 : Int32))), .val (.int ((p0.toUInt32 >>> ((2 : Int32) &&& 31).toUInt32).toInt32 &&& (255 : Int32))), .val (.int ((p0.toUInt32 >>> ((10 : Int32) &&& 31).toUInt32).toInt32 &&& (255 : Int32))), .val (.int ((p0.toUInt32 >>> ((18 : Int32) &&& 31).toUInt32).toInt32 &&& (255 : Int32))), .val (.int (p1 &&& (3 : Int32))), .val (.int ((p1.toUInt32 >>> ((2 : Int32) &&& 31).toUInt32).toInt32 &&& (255 : Int32))), .val (.int ((p1.toUInt32 >>> ((10 : Int32) &&& 31).toUInt32).toInt32 &&& (255 : Int32))), .val (.int ((p1.toUInt32 >>> ((18 : Int32) &&& 31).toUInt32).toInt32 &&& (255 : Int32))), .val (.ref sa_1), .val (.ref sa_13), .val (.ref sa_28), .val (.ref b48), .val (.ref ra_81), .val (.int (1 : Int32)), .val (.int ((p0 &&& (3 : Int32)) + (1 : Int32)))] []) G
            exact J308 T116 _ X116 eh116 N116_ 
        refine Gl.via (fun _ k => XS.iloadN XJ223.here hx rfl (hb hby at_223) rfl k) ?_
        show Gl p.tables e below TJ223 (mkF m 224 #[.val (.int p0), .val (.int p1), .val (.int p2), .val (.int (p0 &&& (3 : Int32))), .val (.int ((p0.toUInt32 >>> ((2 : Int32) &&& 31).toUInt32).toInt32 &&& (255 : Int32))), .val (.int ((p0.toUInt32 >>> ((10 : Int32) &&& 31).toUInt32).toInt32 &&& (255 : Int32))), .val (.int ((p0.toUInt32 >>> ((18 : Int32) &&& 31).toUInt32).toInt32 &&& (255 : Int32))), .val (.int (p1 &&& (3 : Int32))), .val (.int ((p1.toUInt32 >>> ((2 : Int32) &&& 31).toUInt32).toInt32 &&& (255 : Int32))), .val (.int ((p1.toUInt32 >>> ((10 : Int32) &&& 31).toUInt32).toInt32 &&& (255 : Int32))), .val (.int ((p1.toUInt32 >>> ((18 : Int32) &&& 31).toUInt32).toInt32 &&& (255 : Int32))), .val (.ref sa_1), .val (.ref sa_13), .val (.ref sa_28), .val (.ref b48), .val (.ref ra_81), .val (.int (1 : Int32)), .unset] [(.int (p0 &&& (3 : Int32)))]) G
        refine Gl.via (fun _ k => XS.iconst XJ223.here hx rfl (hb hby at_224) k) ?_
        show Gl p.tables e below TJ223 (mkF m 225 #[.val (.int p0), .val (.int p1), .val (.int p2), .val (.int (p0 &&& (3 : Int32))), .val (.int ((p0.toUInt32 >>> ((2 : Int32) &&& 31).toUInt32).toInt32 &&& (255 : Int32))), .val (.int ((p0.toUInt32 >>> ((10 : Int32) &&& 31).toUInt32).toInt32 &&& (255 : Int32))), .val (.int ((p0.toUInt32 >>> ((18 : Int32) &&& 31).toUInt32).toInt32 &&& (255 : Int32))), .val (.int (p1 &&& (3 : Int32))), .val (.int ((p1.toUInt32 >>> ((2 : Int32) &&& 31).toUInt32).toInt32 &&& (255 : Int32))), .val (.int ((p1.toUInt32 >>> ((10 : Int32) &&& 31).toUInt32).toInt32 &&& (255 : Int32))), .val (.int ((p1.toUInt32 >>> ((18 : Int32) &&& 31).toUInt32).toInt32 &&& (255 : Int32))), .val (.ref sa_1), .val (.ref sa_13), .val (.ref sa_28), .val (.ref b48), .val (.ref ra_81), .val (.int (1 : Int32)), .unset] [(.int (2 : Int32)), (.int (p0 &&& (3 : Int32)))]) G
        by_cases q2 : (2 : Int32) < (p0 &&& (3 : Int32))
        · refine Gl.via (fun _ k => XS.icmpNo XJ223.here hx rfl (hb hby at_225) rfl (tlt q2).2.2.2 k) ?_
          show Gl p.tables e below TJ223 (mkF m 228 #[.val (.int p0), .val (.int p1), .val (.int p2), .val (.int (p0 &&& (3 : Int32))), .val (.int ((p0.toUInt32 >>> ((2 : Int32) &&& 31).toUInt32).toInt32 &&& (255 : Int32))), .val (.int ((p0.toUInt32 >>> ((10 : Int32) &&& 31).toUInt32).toInt32 &&& (255 : Int32))), .val (.int ((p0.toUInt32 >>> ((18 : Int32) &&& 31).toUInt32).toInt32 &&& (255 : Int32))), .val (.int (p1 &&& (3 : Int32))), .val (.int ((p1.toUInt32 >>> ((2 : Int32) &&& 31).toUInt32).toInt32 &&& (255 : Int32))), .val (.int ((p1.toUInt32 >>> ((10 : Int32) &&& 31).toUInt32).toInt32 &&& (255 : Int32))), .val (.int ((p1.toUInt32 >>> ((18 : Int32) &&& 31).toUInt32).toInt32 &&& (255 : Int32))), .val (.ref sa_1), .val (.ref sa_13), .val (.ref sa_28), .val (.ref b48), .val (.ref ra_81), .val (.int (1 : Int32)), .unset] []) G
          refine Gl.via (fun _ k => XS.iload XJ223.here hx rfl (hb hby at_228) rfl k) ?_
          show Gl p.tables e below TJ223 (mkF m 230 #[.val (.int p0), .val (.int p1), .val (.int p2), .val (.int (p0 &&& (3 : Int32))), .val (.int ((p0.toUInt32 >>> ((2 : Int32) &&& 31).toUInt32).toInt32 &&& (255 : Int32))), .val (.int ((p0.toUInt32 >>> ((10 : Int32) &&& 31).toUInt32).toInt32 &&& (255 : Int32))), .val (.int ((p0.toUInt32 >>> ((18 : Int32) &&& 31).toUInt32).toInt32 &&& (255 : Int32))), .val (.int (p1 &&& (3 : Int32))), .val (.int ((p1.toUInt32 >>> ((2 : Int32) &&& 31).toUInt32).toInt32 &&& (255 : Int32))), .val (.int ((p1.toUInt32 >>> ((10 : Int32) &&& 31).toUInt32).toInt32 &&& (255 : Int32))), .val (.int ((p1.toUInt32 >>> ((18 : Int32) &&& 31).toUInt32).toInt32 &&& (255 : Int32))), .val (.ref sa_1), .val (.ref sa_13), .val (.ref sa_28), .val (.ref b48), .val (.ref ra_81), .val (.int (1 : Int32)), .unset] [(.int (1 : Int32))]) G
          refine Gl.via (fun _ k => XS.ifNo XJ223.here hx rfl (hb hby at_230) rfl ((if0 _ _).trans (feq (by decide)).1) k) ?_
          show Gl p.tables e below TJ223 (mkF m 233 #[.val (.int p0), .val (.int p1), .val (.int p2), .val (.int (p0 &&& (3 : Int32))), .val (.int ((p0.toUInt32 >>> ((2 : Int32) &&& 31).toUInt32).toInt32 &&& (255 : Int32))), .val (.int ((p0.toUInt32 >>> ((10 : Int32) &&& 31).toUInt32).toInt32 &&& (255 : Int32))), .val (.int ((p0.toUInt32 >>> ((18 : Int32) &&& 31).toUInt32).toInt32 &&& (255 : Int32))), .val (.int (p1 &&& (3 : Int32))), .val (.int ((p1.toUInt32 >>> ((2 : Int32) &&& 31).toUInt32).toInt32 &&& (255 : Int32))), .val (.int ((p1.toUInt32 >>> ((10 : Int32) &&& 31).toUInt32).toInt32 &&& (255 : Int32))), .val (.int ((p1.toUInt32 >>> ((18 : Int32) &&& 31).toUInt32).toInt32 &&& (255 : Int32))), .val (.ref sa_1), .val (.ref sa_13), .val (.ref sa_28), .val (.ref b48), .val (.ref ra_81), .val (.int (1 : Int32)), .unset] []) G
          refine Gl.via (fun _ k => XS.aload XJ223.here hx rfl (hb hby at_233) rfl rfl k) ?_
          show Gl p.tables e below TJ223 (mkF m 235 #[.val (.int p0), .val (.int p1), .val (.int p2), .val (.int (p0 &&& (3 : Int32))), .val (.int ((p0.toUInt32 >>> ((2 : Int32) &&& 31).toUInt32).toInt32 &&& (255 : Int32))), .val (.int ((p0.toUInt32 >>> ((10 : Int32) &&& 31).toUInt32).toInt32 &&& (255 : Int32))), .val (.int ((p0.toUInt32 >>> ((18 : Int32) &&& 31).toUInt32).toInt32 &&& (255 : Int32))), .val (.int (p1 &&& (3 : Int32))), .val (.int ((p1.toUInt32 >>> ((2 : Int32) &&& 31).toUInt32).toInt32 &&& (255 : Int32))), .val (.int ((p1.toUInt32 >>> ((10 : Int32) &&& 31).toUInt32).toInt32 &&& (255 : Int32))), .val (.int ((p1.toUInt32 >>> ((18 : Int32) &&& 31).toUInt32).toInt32 &&& (255 : Int32))), .val (.ref sa_1), .val (.ref sa_13), .val (.ref sa_28), .val (.ref b48), .val (.ref ra_81), .val (.int (1 : Int32)), .unset] [(.ref ra_81)]) G
          refine Gl.via (fun _ k => XS.iconst XJ223.here hx rfl (hb hby at_235) k) ?_
          show Gl p.tables e below TJ223 (mkF m 236 #[.val (.int p0), .val (.int p1), .val (.int p2), .val (.int (p0 &&& (3 : Int32))), .val (.int ((p0.toUInt32 >>> ((2 : Int32) &&& 31).toUInt32).toInt32 &&& (255 : Int32))), .val (.int ((p0.toUInt32 >>> ((10 : Int32) &&& 31).toUInt32).toInt32 &&& (255 : Int32))), .val (.int ((p0.toUInt32 >>> ((18 : Int32) &&& 31).toUInt32).toInt32 &&& (255 : Int32))), .val (.int (p1 &&& (3 : Int32))), .val (.int ((p1.toUInt32 >>> ((2 : Int32) &&& 31).toUInt32).toInt32 &&& (255 : Int32))), .val (.int ((p1.toUInt32 >>> ((10 : Int32) &&& 31).toUInt32).toInt32 &&& (255 : Int32))), .val (.int ((p1.toUInt32 >>> ((18 : Int32) &&& 31).toUInt32).toInt32 &&& (255 : Int32))), .val (.ref sa_1), .val (.ref sa_13), .val (.ref sa_28), .val (.ref b48), .val (.ref ra_81), .val (.int (1 : Int32)), .unset] [(.int (2 : Int32)), (.ref ra_81)]) G
          obtain ⟨cq120, kq120, q120a, q120b, q120c⟩ := isOf hZ81 EJ223 P92
          obtain ⟨_, _, ⟨T120, L120, k120, n120⟩, -, X120, ⟨Lc120, hQ120, l120, y120, z120⟩, st120⟩ := XJ223.virtualBack hx (y := (⟨"java/lang/String", "charAt", "(I)C"⟩ : MethodName)) (z := (⟨"java/lang/String", "charAt", "(I)C"⟩ : MethodName)) hown81 (mvT hZ81 (hw _ (List.mem_of_getElem? (i := 188) rfl))) (mvT hZ81 (hw _ (List.mem_of_getElem? (i := 189) rfl))) (notFace_of_selects (args := #[]) (mvT hZ81 (hw _ (List.mem_of_getElem? (i := 191) rfl)))) (mvT hZ81 (hw _ (List.mem_of_getElem? (i := 191) rfl))) (mvT hZ81 (hw _ (List.mem_of_getElem? (i := 190) rfl))) (by decide) (backOf (W := 0) (st_at l Z a0 hw [] ra_81 rb_81 rk_81 (own_scat (32 : Int32) (p0 &&& (3 : Int32)) ((p0.toUInt32 >>> ((2 : Int32) &&& 31).toUInt32).toInt32 &&& (255 : Int32)) ((p0.toUInt32 >>> ((10 : Int32) &&& 31).toUInt32).toInt32 &&& (255 : Int32)) ((p0.toUInt32 >>> ((18 : Int32) &&& 31).toUInt32).toInt32 &&& (255 : Int32)) (p1 &&& (3 : Int32)) ((p1.toUInt32 >>> ((2 : Int32) &&& 31).toUInt32).toInt32 &&& (255 : Int32)) ((p1.toUInt32 >>> ((10 : Int32) &&& 31).toUInt32).toInt32 &&& (255 : Int32)) ((p1.toUInt32 >>> ((18 : Int32) &&& 31).toUInt32).toInt32 &&& (255 : Int32))) (2 : Int32) (((p0.toUInt32 >>> ((18 : Int32) &&& 31).toUInt32).toInt32 &&& (255 : Int32)).toInt8.toInt32) fm cps T81.heap n0 Z110 P92 P93 P94 V113 F0_java_lang_String F1_jdk_internal_util_Preconditions G115 hcps hfm (own_g2 (c0 := ((p0.toUInt32 >>> ((2 : Int32) &&& 31).toUInt32).toInt32 &&& (255 : Int32))) (c1 := ((p0.toUInt32 >>> ((10 : Int32) &&& 31).toUInt32).toInt32 &&& (255 : Int32))) (c2 := ((p0.toUInt32 >>> ((18 : Int32) &&& 31).toUInt32).toInt32 &&& (255 : Int32))) (d0 := ((p1.toUInt32 >>> ((2 : Int32) &&& 31).toUInt32).toInt32 &&& (255 : Int32))) (d1 := ((p1.toUInt32 >>> ((10 : Int32) &&& 31).toUInt32).toInt32 &&& (255 : Int32))) (d2 := ((p1.toUInt32 >>> ((18 : Int32) &&& 31).toUInt32).toInt32 &&& (255 : Int32))) (own_and3 p0) (own_and3 p1) q2).1 (own_g2 (c0 := ((p0.toUInt32 >>> ((2 : Int32) &&& 31).toUInt32).toInt32 &&& (255 : Int32))) (c1 := ((p0.toUInt32 >>> ((10 : Int32) &&& 31).toUInt32).toInt32 &&& (255 : Int32))) (c2 := ((p0.toUInt32 >>> ((18 : Int32) &&& 31).toUInt32).toInt32 &&& (255 : Int32))) (d0 := ((p1.toUInt32 >>> ((2 : Int32) &&& 31).toUInt32).toInt32 &&& (255 : Int32))) (d1 := ((p1.toUInt32 >>> ((10 : Int32) &&& 31).toUInt32).toInt32 &&& (255 : Int32))) (d2 := ((p1.toUInt32 >>> ((18 : Int32) &&& 31).toUInt32).toInt32 &&& (255 : Int32))) (own_and3 p0) (own_and3 p1) q2).2.1 (own_g2 (c0 := ((p0.toUInt32 >>> ((2 : Int32) &&& 31).toUInt32).toInt32 &&& (255 : Int32))) (c1 := ((p0.toUInt32 >>> ((10 : Int32) &&& 31).toUInt32).toInt32 &&& (255 : Int32))) (c2 := ((p0.toUInt32 >>> ((18 : Int32) &&& 31).toUInt32).toInt32 &&& (255 : Int32))) (d0 := ((p1.toUInt32 >>> ((2 : Int32) &&& 31).toUInt32).toInt32 &&& (255 : Int32))) (d1 := ((p1.toUInt32 >>> ((10 : Int32) &&& 31).toUInt32).toInt32 &&& (255 : Int32))) (d2 := ((p1.toUInt32 >>> ((18 : Int32) &&& 31).toUInt32).toInt32 &&& (255 : Int32))) (own_and3 p0) (own_and3 p1) q2).2.2) hZ81 (hw _ (List.mem_of_getElem? (i := 192) rfl)) (hw _ (List.mem_of_getElem? (i := 6) rfl)) (by decide) (by decide)) q120a q120c (g := (mkF m 236 #[.val (.int p0), .val (.int p1), .val (.int p2), .val (.int (p0 &&& (3 : Int32))), .val (.int ((p0.toUInt32 >>> ((2 : Int32) &&& 31).toUInt32).toInt32 &&& (255 : Int32))), .val (.int ((p0.toUInt32 >>> ((10 : Int32) &&& 31).toUInt32).toInt32 &&& (255 : Int32))), .val (.int ((p0.toUInt32 >>> ((18 : Int32) &&& 31).toUInt32).toInt32 &&& (255 : Int32))), .val (.int (p1 &&& (3 : Int32))), .val (.int ((p1.toUInt32 >>> ((2 : Int32) &&& 31).toUInt32).toInt32 &&& (255 : Int32))), .val (.int ((p1.toUInt32 >>> ((10 : Int32) &&& 31).toUInt32).toInt32 &&& (255 : Int32))), .val (.int ((p1.toUInt32 >>> ((18 : Int32) &&& 31).toUInt32).toInt32 &&& (255 : Int32))), .val (.ref sa_1), .val (.ref sa_13), .val (.ref sa_28), .val (.ref b48), .val (.ref ra_81), .val (.int (1 : Int32)), .unset] [(.int (2 : Int32)), (.ref ra_81)])) rfl (by rw [hml]; rfl) (Steps.refl _) (argsL := [(.int (2 : Int32))]) (rest := []) (lenOf pd_30 rfl) rfl (by show 2 * 0 + _ ≤ _; exact Nat.le_of_eq rfl) (hb hby at_236) (fun _ _ => ⟨rfl, EJ223, (by decide : 21 + 0 ≤ _), (by decide : 81 + 0 ≤ _)⟩)
          dsimp only [Pt.U, Pt.locs, Pt.cells, Pt.slots] at X120 l120 y120 z120 st120 hQ120
          subst l120 y120 z120
          obtain ⟨rfl, N120q, eh120⟩ := hQ120
          have N120_ := Fr.app NJ223 N120q
          refine Gl.via (fun _ k => st120.trans k) ?_
          show Gl p.tables e below T120 (mkF m 239 #[.val (.int p0), .val (.int p1), .val (.int p2), .val (.int (p0 &&& (3 : Int32))), .val (.int ((p0.toUInt32 >>> ((2 : Int32) &&& 31).toUInt32).toInt32 &&& (255 : Int32))), .val (.int ((p0.toUInt32 >>> ((10 : Int32) &&& 31).toUInt32).toInt32 &&& (255 : Int32))), .val (.int ((p0.toUInt32 >>> ((18 : Int32) &&& 31).toUInt32).toInt32 &&& (255 : Int32))), .val (.int (p1 &&& (3 : Int32))), .val (.int ((p1.toUInt32 >>> ((2 : Int32) &&& 31).toUInt32).toInt32 &&& (255 : Int32))), .val (.int ((p1.toUInt32 >>> ((10 : Int32) &&& 31).toUInt32).toInt32 &&& (255 : Int32))), .val (.int ((p1.toUInt32 >>> ((18 : Int32) &&& 31).toUInt32).toInt32 &&& (255 : Int32))), .val (.ref sa_1), .val (.ref sa_13), .val (.ref sa_28), .val (.ref b48), .val (.ref ra_81), .val (.int (1 : Int32)), .unset] [(.int ((((p0.toUInt32 >>> ((18 : Int32) &&& 31).toUInt32).toInt32 &&& (255 : Int32)).toInt8.toInt32) &&& (255 : Int32)))]) G
          refine Gl.via (fun _ k => XS.iload X120.here hx rfl (hb hby at_239) rfl k) ?_
          show Gl p.tables e below T120 (mkF m 241 #[.val (.int p0), .val (.int p1), .val (.int p2), .val (.int (p0 &&& (3 : Int32))), .val (.int ((p0.toUInt32 >>> ((2 : Int32) &&& 31).toUInt32).toInt32 &&& (255 : Int32))), .val (.int ((p0.toUInt32 >>> ((10 : Int32) &&& 31).toUInt32).toInt32 &&& (255 : Int32))), .val (.int ((p0.toUInt32 >>> ((18 : Int32) &&& 31).toUInt32).toInt32 &&& (255 : Int32))), .val (.int (p1 &&& (3 : Int32))), .val (.int ((p1.toUInt32 >>> ((2 : Int32) &&& 31).toUInt32).toInt32 &&& (255 : Int32))), .val (.int ((p1.toUInt32 >>> ((10 : Int32) &&& 31).toUInt32).toInt32 &&& (255 : Int32))), .val (.int ((p1.toUInt32 >>> ((18 : Int32) &&& 31).toUInt32).toInt32 &&& (255 : Int32))), .val (.ref sa_1), .val (.ref sa_13), .val (.ref sa_28), .val (.ref b48), .val (.ref ra_81), .val (.int (1 : Int32)), .unset] [(.int ((p0.toUInt32 >>> ((18 : Int32) &&& 31).toUInt32).toInt32 &&& (255 : Int32))), (.int ((((p0.toUInt32 >>> ((18 : Int32) &&& 31).toUInt32).toInt32 &&& (255 : Int32)).toInt8.toInt32) &&& (255 : Int32)))]) G
          refine Gl.via (fun _ k => XS.icmpNo X120.here hx rfl (hb hby at_241) rfl (teq (own_msk _ (own_mb _).1 (own_mb _).2)).2 k) ?_
          show Gl p.tables e below T120 (mkF m 244 #[.val (.int p0), .val (.int p1), .val (.int p2), .val (.int (p0 &&& (3 : Int32))), .val (.int ((p0.toUInt32 >>> ((2 : Int32) &&& 31).toUInt32).toInt32 &&& (255 : Int32))), .val (.int ((p0.toUInt32 >>> ((10 : Int32) &&& 31).toUInt32).toInt32 &&& (255 : Int32))), .val (.int ((p0.toUInt32 >>> ((18 : Int32) &&& 31).toUInt32).toInt32 &&& (255 : Int32))), .val (.int (p1 &&& (3 : Int32))), .val (.int ((p1.toUInt32 >>> ((2 : Int32) &&& 31).toUInt32).toInt32 &&& (255 : Int32))), .val (.int ((p1.toUInt32 >>> ((10 : Int32) &&& 31).toUInt32).toInt32 &&& (255 : Int32))), .val (.int ((p1.toUInt32 >>> ((18 : Int32) &&& 31).toUInt32).toInt32 &&& (255 : Int32))), .val (.ref sa_1), .val (.ref sa_13), .val (.ref sa_28), .val (.ref b48), .val (.ref ra_81), .val (.int (1 : Int32)), .unset] []) G
          refine Gl.via (fun _ k => XS.iconst X120.here hx rfl (hb hby at_244) k) ?_
          show Gl p.tables e below T120 (mkF m 245 #[.val (.int p0), .val (.int p1), .val (.int p2), .val (.int (p0 &&& (3 : Int32))), .val (.int ((p0.toUInt32 >>> ((2 : Int32) &&& 31).toUInt32).toInt32 &&& (255 : Int32))), .val (.int ((p0.toUInt32 >>> ((10 : Int32) &&& 31).toUInt32).toInt32 &&& (255 : Int32))), .val (.int ((p0.toUInt32 >>> ((18 : Int32) &&& 31).toUInt32).toInt32 &&& (255 : Int32))), .val (.int (p1 &&& (3 : Int32))), .val (.int ((p1.toUInt32 >>> ((2 : Int32) &&& 31).toUInt32).toInt32 &&& (255 : Int32))), .val (.int ((p1.toUInt32 >>> ((10 : Int32) &&& 31).toUInt32).toInt32 &&& (255 : Int32))), .val (.int ((p1.toUInt32 >>> ((18 : Int32) &&& 31).toUInt32).toInt32 &&& (255 : Int32))), .val (.ref sa_1), .val (.ref sa_13), .val (.ref sa_28), .val (.ref b48), .val (.ref ra_81), .val (.int (1 : Int32)), .unset] [(.int (1 : Int32))]) G
          refine Gl.via (fun _ k => XS.goto X120.here hx rfl (pc0 := 245) (pc' := 249) rfl (hb hby at_245) (by decide) (by decide) k) ?_
          show Gl p.tables e below T120 (mkF m 249 #[.val (.int p0), .val (.int p1), .val (.int p2), .val (.int (p0 &&& (3 : Int32))), .val (.int ((p0.toUInt32 >>> ((2 : Int32) &&& 31).toUInt32).toInt32 &&& (255 : Int32))), .val (.int ((p0.toUInt32 >>> ((10 : Int32) &&& 31).toUInt32).toInt32 &&& (255 : Int32))), .val (.int ((p0.toUInt32 >>> ((18 : Int32) &&& 31).toUInt32).toInt32 &&& (255 : Int32))), .val (.int (p1 &&& (3 : Int32))), .val (.int ((p1.toUInt32 >>> ((2 : Int32) &&& 31).toUInt32).toInt32 &&& (255 : Int32))), .val (.int ((p1.toUInt32 >>> ((10 : Int32) &&& 31).toUInt32).toInt32 &&& (255 : Int32))), .val (.int ((p1.toUInt32 >>> ((18 : Int32) &&& 31).toUInt32).toInt32 &&& (255 : Int32))), .val (.ref sa_1), .val (.ref sa_13), .val (.ref sa_28), .val (.ref b48), .val (.ref ra_81), .val (.int (1 : Int32)), .unset] [(.int (1 : Int32))]) G
          refine Gl.via (fun _ k => XS.istore X120.here hx rfl (hb hby at_249) rfl (l' := #[.val (.int p0), .val (.int p1), .val (.int p2), .val (.int (p0 &&& (3 : Int32))), .val (.int ((p0.toUInt32 >>> ((2 : Int32) &&& 31).toUInt32).toInt32 &&& (255 : Int32))), .val (.int ((p0.toUInt32 >>> ((10 : Int32) &&& 31).toUInt32).toInt32 &&& (255 : Int32))), .val (.int ((p0.toUInt32 >>> ((18 : Int32) &&& 31).toUInt32).toInt32 &&& (255 : Int32))), .val (.int (p1 &&& (3 : Int32))), .val (.int ((p1.toUInt32 >>> ((2 : Int32) &&& 31).toUInt32).toInt32 &&& (255 : Int32))), .val (.int ((p1.toUInt32 >>> ((10 : Int32) &&& 31).toUInt32).toInt32 &&& (255 : Int32))), .val (.int ((p1.toUInt32 >>> ((18 : Int32) &&& 31).toUInt32).toInt32 &&& (255 : Int32))), .val (.ref sa_1), .val (.ref sa_13), .val (.ref sa_28), .val (.ref b48), .val (.ref ra_81), .val (.int (1 : Int32)), .unset]) rfl k) ?_
          show Gl p.tables e below T120 (mkF m 251 #[.val (.int p0), .val (.int p1), .val (.int p2), .val (.int (p0 &&& (3 : Int32))), .val (.int ((p0.toUInt32 >>> ((2 : Int32) &&& 31).toUInt32).toInt32 &&& (255 : Int32))), .val (.int ((p0.toUInt32 >>> ((10 : Int32) &&& 31).toUInt32).toInt32 &&& (255 : Int32))), .val (.int ((p0.toUInt32 >>> ((18 : Int32) &&& 31).toUInt32).toInt32 &&& (255 : Int32))), .val (.int (p1 &&& (3 : Int32))), .val (.int ((p1.toUInt32 >>> ((2 : Int32) &&& 31).toUInt32).toInt32 &&& (255 : Int32))), .val (.int ((p1.toUInt32 >>> ((10 : Int32) &&& 31).toUInt32).toInt32 &&& (255 : Int32))), .val (.int ((p1.toUInt32 >>> ((18 : Int32) &&& 31).toUInt32).toInt32 &&& (255 : Int32))), .val (.ref sa_1), .val (.ref sa_13), .val (.ref sa_28), .val (.ref b48), .val (.ref ra_81), .val (.int (1 : Int32)), .unset] []) G
          exact J251 T120 _ X120 eh120 N120_ 
        · refine Gl.via (fun _ k => XS.icmpYes XJ223.here hx rfl (pc0 := 225) (pc' := 251) rfl (hb hby at_225) rfl (flt q2).2.2.2 (by decide) (by decide) k) ?_
          show Gl p.tables e below TJ223 (mkF m 251 #[.val (.int p0), .val (.int p1), .val (.int p2), .val (.int (p0 &&& (3 : Int32))), .val (.int ((p0.toUInt32 >>> ((2 : Int32) &&& 31).toUInt32).toInt32 &&& (255 : Int32))), .val (.int ((p0.toUInt32 >>> ((10 : Int32) &&& 31).toUInt32).toInt32 &&& (255 : Int32))), .val (.int ((p0.toUInt32 >>> ((18 : Int32) &&& 31).toUInt32).toInt32 &&& (255 : Int32))), .val (.int (p1 &&& (3 : Int32))), .val (.int ((p1.toUInt32 >>> ((2 : Int32) &&& 31).toUInt32).toInt32 &&& (255 : Int32))), .val (.int ((p1.toUInt32 >>> ((10 : Int32) &&& 31).toUInt32).toInt32 &&& (255 : Int32))), .val (.int ((p1.toUInt32 >>> ((18 : Int32) &&& 31).toUInt32).toInt32 &&& (255 : Int32))), .val (.ref sa_1), .val (.ref sa_13), .val (.ref sa_28), .val (.ref b48), .val (.ref ra_81), .val (.int (1 : Int32)), .unset] []) G
          exact J251 TJ223 _ XJ223 EJ223 NJ223 
      refine Gl.via (fun _ k => XS.iloadN XJ195.here hx rfl (hb hby at_195) rfl k) ?_
      show Gl p.tables e below TJ195 (mkF m 196 #[.val (.int p0), .val (.int p1), .val (.int p2), .val (.int (p0 &&& (3 : Int32))), .val (.int ((p0.toUInt32 >>> ((2 : Int32) &&& 31).toUInt32).toInt32 &&& (255 : Int32))), .val (.int ((p0.toUInt32 >>> ((10 : Int32) &&& 31).toUInt32).toInt32 &&& (255 : Int32))), .val (.int ((p0.toUInt32 >>> ((18 : Int32) &&& 31).toUInt32).toInt32 &&& (255 : Int32))), .val (.int (p1 &&& (3 : Int32))), .val (.int ((p1.toUInt32 >>> ((2 : Int32) &&& 31).toUInt32).toInt32 &&& (255 : Int32))), .val (.int ((p1.toUInt32 >>> ((10 : Int32) &&& 31).toUInt32).toInt32 &&& (255 : Int32))), .val (.int ((p1.toUInt32 >>> ((18 : Int32) &&& 31).toUInt32).toInt32 &&& (255 : Int32))), .val (.ref sa_1), .val (.ref sa_13), .val (.ref sa_28), .val (.ref b48), .val (.ref ra_81), .val (.int (1 : Int32)), .unset] [(.int (p0 &&& (3 : Int32)))]) G
      refine Gl.via (fun _ k => XS.iconst XJ195.here hx rfl (hb hby at_196) k) ?_
      show Gl p.tables e below TJ195 (mkF m 197 #[.val (.int p0), .val (.int p1), .val (.int p2), .val (.int (p0 &&& (3 : Int32))), .val (.int ((p0.toUInt32 >>> ((2 : Int32) &&& 31).toUInt32).toInt32 &&& (255 : Int32))), .val (.int ((p0.toUInt32 >>> ((10 : Int32) &&& 31).toUInt32).toInt32 &&& (255 : Int32))), .val (.int ((p0.toUInt32 >>> ((18 : Int32) &&& 31).toUInt32).toInt32 &&& (255 : Int32))), .val (.int (p1 &&& (3 : Int32))), .val (.int ((p1.toUInt32 >>> ((2 : Int32) &&& 31).toUInt32).toInt32 &&& (255 : Int32))), .val (.int ((p1.toUInt32 >>> ((10 : Int32) &&& 31).toUInt32).toInt32 &&& (255 : Int32))), .val (.int ((p1.toUInt32 >>> ((18 : Int32) &&& 31).toUInt32).toInt32 &&& (255 : Int32))), .val (.ref sa_1), .val (.ref sa_13), .val (.ref sa_28), .val (.ref b48), .val (.ref ra_81), .val (.int (1 : Int32)), .unset] [(.int (1 : Int32)), (.int (p0 &&& (3 : Int32)))]) G
      by_cases q1 : (1 : Int32) < (p0 &&& (3 : Int32))
      · refine Gl.via (fun _ k => XS.icmpNo XJ195.here hx rfl (hb hby at_197) rfl (tlt q1).2.2.2 k) ?_
        show Gl p.tables e below TJ195 (mkF m 200 #[.val (.int p0), .val (.int p1), .val (.int p2), .val (.int (p0 &&& (3 : Int32))), .val (.int ((p0.toUInt32 >>> ((2 : Int32) &&& 31).toUInt32).toInt32 &&& (255 : Int32))), .val (.int ((p0.toUInt32 >>> ((10 : Int32) &&& 31).toUInt32).toInt32 &&& (255 : Int32))), .val (.int ((p0.toUInt32 >>> ((18 : Int32) &&& 31).toUInt32).toInt32 &&& (255 : Int32))), .val (.int (p1 &&& (3 : Int32))), .val (.int ((p1.toUInt32 >>> ((2 : Int32) &&& 31).toUInt32).toInt32 &&& (255 : Int32))), .val (.int ((p1.toUInt32 >>> ((10 : Int32) &&& 31).toUInt32).toInt32 &&& (255 : Int32))), .val (.int ((p1.toUInt32 >>> ((18 : Int32) &&& 31).toUInt32).toInt32 &&& (255 : Int32))), .val (.ref sa_1), .val (.ref sa_13), .val (.ref sa_28), .val (.ref b48), .val (.ref ra_81), .val (.int (1 : Int32)), .unset] []) G
        refine Gl.via (fun _ k => XS.iload XJ195.here hx rfl (hb hby at_200) rfl k) ?_
        show Gl p.tables e below TJ195 (mkF m 202 #[.val (.int p0), .val (.int p1), .val (.int p2), .val (.int (p0 &&& (3 : Int32))), .val (.int ((p0.toUInt32 >>> ((2 : Int32) &&& 31).toUInt32).toInt32 &&& (255 : Int32))), .val (.int ((p0.toUInt32 >>> ((10 : Int32) &&& 31).toUInt32).toInt32 &&& (255 : Int32))), .val (.int ((p0.toUInt32 >>> ((18 : Int32) &&& 31).toUInt32).toInt32 &&& (255 : Int32))), .val (.int (p1 &&& (3 : Int32))), .val (.int ((p1.toUInt32 >>> ((2 : Int32) &&& 31).toUInt32).toInt32 &&& (255 : Int32))), .val (.int ((p1.toUInt32 >>> ((10 : Int32) &&& 31).toUInt32).toInt32 &&& (255 : Int32))), .val (.int ((p1.toUInt32 >>> ((18 : Int32) &&& 31).toUInt32).toInt32 &&& (255 : Int32))), .val (.ref sa_1), .val (.ref sa_13), .val (.ref sa_28), .val (.ref b48), .val (.ref ra_81), .val (.int (1 : Int32)), .unset] [(.int (1 : Int32))]) G
        refine Gl.via (fun _ k => XS.ifNo XJ195.here hx rfl (hb hby at_202) rfl ((if0 _ _).trans (feq (by decide)).1) k) ?_
        show Gl p.tables e below TJ195 (mkF m 205 #[.val (.int p0), .val (.int p1), .val (.int p2), .val (.int (p0 &&& (3 : Int32))), .val (.int ((p0.toUInt32 >>> ((2 : Int32) &&& 31).toUInt32).toInt32 &&& (255 : Int32))), .val (.int ((p0.toUInt32 >>> ((10 : Int32) &&& 31).toUInt32).toInt32 &&& (255 : Int32))), .val (.int ((p0.toUInt32 >>> ((18 : Int32) &&& 31).toUInt32).toInt32 &&& (255 : Int32))), .val (.int (p1 &&& (3 : Int32))), .val (.int ((p1.toUInt32 >>> ((2 : Int32) &&& 31).toUInt32).toInt32 &&& (255 : Int32))), .val (.int ((p1.toUInt32 >>> ((10 : Int32) &&& 31).toUInt32).toInt32 &&& (255 : Int32))), .val (.int ((p1.toUInt32 >>> ((18 : Int32) &&& 31).toUInt32).toInt32 &&& (255 : Int32))), .val (.ref sa_1), .val (.ref sa_13), .val (.ref sa_28), .val (.ref b48), .val (.ref ra_81), .val (.int (1 : Int32)), .unset] []) G
        refine Gl.via (fun _ k => XS.aload XJ195.here hx rfl (hb hby at_205) rfl rfl k) ?_
        show Gl p.tables e below TJ195 (mkF m 207 #[.val (.int p0), .val (.int p1), .val (.int p2), .val (.int (p0 &&& (3 : Int32))), .val (.int ((p0.toUInt32 >>> ((2 : Int32) &&& 31).toUInt32).toInt32 &&& (255 : Int32))), .val (.int ((p0.toUInt32 >>> ((10 : Int32) &&& 31).toUInt32).toInt32 &&& (255 : Int32))), .val (.int ((p0.toUInt32 >>> ((18 : Int32) &&& 31).toUInt32).toInt32 &&& (255 : Int32))), .val (.int (p1 &&& (3 : Int32))), .val (.int ((p1.toUInt32 >>> ((2 : Int32) &&& 31).toUInt32).toInt32 &&& (255 : Int32))), .val (.int ((p1.toUInt32 >>> ((10 : Int32) &&& 31).toUInt32).toInt32 &&& (255 : Int32))), .val (.int ((p1.toUInt32 >>> ((18 : Int32) &&& 31).toUInt32).toInt32 &&& (255 : Int32))), .val (.ref sa_1), .val (.ref sa_13), .val (.ref sa_28), .val (.ref b48), .val (.ref ra_81), .val (.int (1 : Int32)), .unset] [(.ref ra_81)]) G
        refine Gl.via (fun _ k => XS.iconst XJ195.here hx rfl (hb hby at_207) k) ?_
        show Gl p.tables e below TJ195 (mkF m 208 #[.val (.int p0), .val (.int p1), .val (.int p2), .val (.int (p0 &&& (3 : Int32))), .val (.int ((p0.toUInt32 >>> ((2 : Int32) &&& 31).toUInt32).toInt32 &&& (255 : Int32))), .val (.int ((p0.toUInt32 >>> ((10 : Int32) &&& 31).toUInt32).toInt32 &&& (255 : Int32))), .val (.int ((p0.toUInt32 >>> ((18 : Int32) &&& 31).toUInt32).toInt32 &&& (255 : Int32))), .val (.int (p1 &&& (3 : Int32))), .val (.int ((p1.toUInt32 >>> ((2 : Int32) &&& 31).toUInt32).toInt32 &&& (255 : Int32))), .val (.int ((p1.toUInt32 >>> ((10 : Int32) &&& 31).toUInt32).toInt32 &&& (255 : Int32))), .val (.int ((p1.toUInt32 >>> ((18 : Int32) &&& 31).toUInt32).toInt32 &&& (255 : Int32))), .val (.ref sa_1), .val (.ref sa_13), .val (.ref sa_28), .val (.ref b48), .val (.ref ra_81), .val (.int (1 : Int32)), .unset] [(.int (1 : Int32)), (.ref ra_81)]) G
        obtain ⟨cq121, kq121, q121a, q121b, q121c⟩ := isOf hZ81 EJ195 P92
        obtain ⟨_, _, ⟨T121, L121, k121, n121⟩, -, X121, ⟨Lc121, hQ121, l121, y121, z121⟩, st121⟩ := XJ195.virtualBack hx (y := (⟨"java/lang/String", "charAt", "(I)C"⟩ : MethodName)) (z := (⟨"java/lang/String", "charAt", "(I)C"⟩ : MethodName)) hown81 (mvT hZ81 (hw _ (List.mem_of_getElem? (i := 188) rfl))) (mvT hZ81 (hw _ (List.mem_of_getElem? (i := 189) rfl))) (notFace_of_selects (args := #[]) (mvT hZ81 (hw _ (List.mem_of_getElem? (i := 191) rfl)))) (mvT hZ81 (hw _ (List.mem_of_getElem? (i := 191) rfl))) (mvT hZ81 (hw _ (List.mem_of_getElem? (i := 190) rfl))) (by decide) (backOf (W := 0) (st_at l Z a0 hw [] ra_81 rb_81 rk_81 (own_scat (32 : Int32) (p0 &&& (3 : Int32)) ((p0.toUInt32 >>> ((2 : Int32) &&& 31).toUInt32).toInt32 &&& (255 : Int32)) ((p0.toUInt32 >>> ((10 : Int32) &&& 31).toUInt32).toInt32 &&& (255 : Int32)) ((p0.toUInt32 >>> ((18 : Int32) &&& 31).toUInt32).toInt32 &&& (255 : Int32)) (p1 &&& (3 : Int32)) ((p1.toUInt32 >>> ((2 : Int32) &&& 31).toUInt32).toInt32 &&& (255 : Int32)) ((p1.toUInt32 >>> ((10 : Int32) &&& 31).toUInt32).toInt32 &&& (255 : Int32)) ((p1.toUInt32 >>> ((18 : Int32) &&& 31).toUInt32).toInt32 &&& (255 : Int32))) (1 : Int32) (((p0.toUInt32 >>> ((10 : Int32) &&& 31).toUInt32).toInt32 &&& (255 : Int32)).toInt8.toInt32) fm cps T81.heap n0 Z110 P92 P93 P94 V113 F0_java_lang_String F1_jdk_internal_util_Preconditions G115 hcps hfm (own_g1 (c0 := ((p0.toUInt32 >>> ((2 : Int32) &&& 31).toUInt32).toInt32 &&& (255 : Int32))) (c1 := ((p0.toUInt32 >>> ((10 : Int32) &&& 31).toUInt32).toInt32 &&& (255 : Int32))) (c2 := ((p0.toUInt32 >>> ((18 : Int32) &&& 31).toUInt32).toInt32 &&& (255 : Int32))) (d0 := ((p1.toUInt32 >>> ((2 : Int32) &&& 31).toUInt32).toInt32 &&& (255 : Int32))) (d1 := ((p1.toUInt32 >>> ((10 : Int32) &&& 31).toUInt32).toInt32 &&& (255 : Int32))) (d2 := ((p1.toUInt32 >>> ((18 : Int32) &&& 31).toUInt32).toInt32 &&& (255 : Int32))) (own_and3 p0) (own_and3 p1) q1).1 (own_g1 (c0 := ((p0.toUInt32 >>> ((2 : Int32) &&& 31).toUInt32).toInt32 &&& (255 : Int32))) (c1 := ((p0.toUInt32 >>> ((10 : Int32) &&& 31).toUInt32).toInt32 &&& (255 : Int32))) (c2 := ((p0.toUInt32 >>> ((18 : Int32) &&& 31).toUInt32).toInt32 &&& (255 : Int32))) (d0 := ((p1.toUInt32 >>> ((2 : Int32) &&& 31).toUInt32).toInt32 &&& (255 : Int32))) (d1 := ((p1.toUInt32 >>> ((10 : Int32) &&& 31).toUInt32).toInt32 &&& (255 : Int32))) (d2 := ((p1.toUInt32 >>> ((18 : Int32) &&& 31).toUInt32).toInt32 &&& (255 : Int32))) (own_and3 p0) (own_and3 p1) q1).2.1 (own_g1 (c0 := ((p0.toUInt32 >>> ((2 : Int32) &&& 31).toUInt32).toInt32 &&& (255 : Int32))) (c1 := ((p0.toUInt32 >>> ((10 : Int32) &&& 31).toUInt32).toInt32 &&& (255 : Int32))) (c2 := ((p0.toUInt32 >>> ((18 : Int32) &&& 31).toUInt32).toInt32 &&& (255 : Int32))) (d0 := ((p1.toUInt32 >>> ((2 : Int32) &&& 31).toUInt32).toInt32 &&& (255 : Int32))) (d1 := ((p1.toUInt32 >>> ((10 : Int32) &&& 31).toUInt32).toInt32 &&& (255 : Int32))) (d2 := ((p1.toUInt32 >>> ((18 : Int32) &&& 31).toUInt32).toInt32 &&& (255 : Int32))) (own_and3 p0) (own_and3 p1) q1).2.2) hZ81 (hw _ (List.mem_of_getElem? (i := 192) rfl)) (hw _ (List.mem_of_getElem? (i := 6) rfl)) (by decide) (by decide)) q121a q121c (g := (mkF m 208 #[.val (.int p0), .val (.int p1), .val (.int p2), .val (.int (p0 &&& (3 : Int32))), .val (.int ((p0.toUInt32 >>> ((2 : Int32) &&& 31).toUInt32).toInt32 &&& (255 : Int32))), .val (.int ((p0.toUInt32 >>> ((10 : Int32) &&& 31).toUInt32).toInt32 &&& (255 : Int32))), .val (.int ((p0.toUInt32 >>> ((18 : Int32) &&& 31).toUInt32).toInt32 &&& (255 : Int32))), .val (.int (p1 &&& (3 : Int32))), .val (.int ((p1.toUInt32 >>> ((2 : Int32) &&& 31).toUInt32).toInt32 &&& (255 : Int32))), .val (.int ((p1.toUInt32 >>> ((10 : Int32) &&& 31).toUInt32).toInt32 &&& (255 : Int32))), .val (.int ((p1.toUInt32 >>> ((18 : Int32) &&& 31).toUInt32).toInt32 &&& (255 : Int32))), .val (.ref sa_1), .val (.ref sa_13), .val (.ref sa_28), .val (.ref b48), .val (.ref ra_81), .val (.int (1 : Int32)), .unset] [(.int (1 : Int32)), (.ref ra_81)])) rfl (by rw [hml]; rfl) (Steps.refl _) (argsL := [(.int (1 : Int32))]) (rest := []) (lenOf pd_30 rfl) rfl (by show 2 * 0 + _ ≤ _; exact Nat.le_of_eq rfl) (hb hby at_208) (fun _ _ => ⟨rfl, EJ195, (by decide : 21 + 0 ≤ _), (by decide : 81 + 0 ≤ _)⟩)
        dsimp only [Pt.U, Pt.locs, Pt.cells, Pt.slots] at X121 l121 y121 z121 st121 hQ121
        subst l121 y121 z121
        obtain ⟨rfl, N121q, eh121⟩ := hQ121
        have N121_ := Fr.app NJ195 N121q
        refine Gl.via (fun _ k => st121.trans k) ?_
        show Gl p.tables e below T121 (mkF m 211 #[.val (.int p0), .val (.int p1), .val (.int p2), .val (.int (p0 &&& (3 : Int32))), .val (.int ((p0.toUInt32 >>> ((2 : Int32) &&& 31).toUInt32).toInt32 &&& (255 : Int32))), .val (.int ((p0.toUInt32 >>> ((10 : Int32) &&& 31).toUInt32).toInt32 &&& (255 : Int32))), .val (.int ((p0.toUInt32 >>> ((18 : Int32) &&& 31).toUInt32).toInt32 &&& (255 : Int32))), .val (.int (p1 &&& (3 : Int32))), .val (.int ((p1.toUInt32 >>> ((2 : Int32) &&& 31).toUInt32).toInt32 &&& (255 : Int32))), .val (.int ((p1.toUInt32 >>> ((10 : Int32) &&& 31).toUInt32).toInt32 &&& (255 : Int32))), .val (.int ((p1.toUInt32 >>> ((18 : Int32) &&& 31).toUInt32).toInt32 &&& (255 : Int32))), .val (.ref sa_1), .val (.ref sa_13), .val (.ref sa_28), .val (.ref b48), .val (.ref ra_81), .val (.int (1 : Int32)), .unset] [(.int ((((p0.toUInt32 >>> ((10 : Int32) &&& 31).toUInt32).toInt32 &&& (255 : Int32)).toInt8.toInt32) &&& (255 : Int32)))]) G
        refine Gl.via (fun _ k => XS.iload X121.here hx rfl (hb hby at_211) rfl k) ?_
        show Gl p.tables e below T121 (mkF m 213 #[.val (.int p0), .val (.int p1), .val (.int p2), .val (.int (p0 &&& (3 : Int32))), .val (.int ((p0.toUInt32 >>> ((2 : Int32) &&& 31).toUInt32).toInt32 &&& (255 : Int32))), .val (.int ((p0.toUInt32 >>> ((10 : Int32) &&& 31).toUInt32).toInt32 &&& (255 : Int32))), .val (.int ((p0.toUInt32 >>> ((18 : Int32) &&& 31).toUInt32).toInt32 &&& (255 : Int32))), .val (.int (p1 &&& (3 : Int32))), .val (.int ((p1.toUInt32 >>> ((2 : Int32) &&& 31).toUInt32).toInt32 &&& (255 : Int32))), .val (.int ((p1.toUInt32 >>> ((10 : Int32) &&& 31).toUInt32).toInt32 &&& (255 : Int32))), .val (.int ((p1.toUInt32 >>> ((18 : Int32) &&& 31).toUInt32).toInt32 &&& (255 : Int32))), .val (.ref sa_1), .val (.ref sa_13), .val (.ref sa_28), .val (.ref b48), .val (.ref ra_81), .val (.int (1 : Int32)), .unset] [(.int ((p0.toUInt32 >>> ((10 : Int32) &&& 31).toUInt32).toInt32 &&& (255 : Int32))), (.int ((((p0.toUInt32 >>> ((10 : Int32) &&& 31).toUInt32).toInt32 &&& (255 : Int32)).toInt8.toInt32) &&& (255 : Int32)))]) G
        refine Gl.via (fun _ k => XS.icmpNo X121.here hx rfl (hb hby at_213) rfl (teq (own_msk _ (own_mb _).1 (own_mb _).2)).2 k) ?_
        show Gl p.tables e below T121 (mkF m 216 #[.val (.int p0), .val (.int p1), .val (.int p2), .val (.int (p0 &&& (3 : Int32))), .val (.int ((p0.toUInt32 >>> ((2 : Int32) &&& 31).toUInt32).toInt32 &&& (255 : Int32))), .val (.int ((p0.toUInt32 >>> ((10 : Int32) &&& 31).toUInt32).toInt32 &&& (255 : Int32))), .val (.int ((p0.toUInt32 >>> ((18 : Int32) &&& 31).toUInt32).toInt32 &&& (255 : Int32))), .val (.int (p1 &&& (3 : Int32))), .val (.int ((p1.toUInt32 >>> ((2 : Int32) &&& 31).toUInt32).toInt32 &&& (255 : Int32))), .val (.int ((p1.toUInt32 >>> ((10 : Int32) &&& 31).toUInt32).toInt32 &&& (255 : Int32))), .val (.int ((p1.toUInt32 >>> ((18 : Int32) &&& 31).toUInt32).toInt32 &&& (255 : Int32))), .val (.ref sa_1), .val (.ref sa_13), .val (.ref sa_28), .val (.ref b48), .val (.ref ra_81), .val (.int (1 : Int32)), .unset] []) G
        refine Gl.via (fun _ k => XS.iconst X121.here hx rfl (hb hby at_216) k) ?_
        show Gl p.tables e below T121 (mkF m 217 #[.val (.int p0), .val (.int p1), .val (.int p2), .val (.int (p0 &&& (3 : Int32))), .val (.int ((p0.toUInt32 >>> ((2 : Int32) &&& 31).toUInt32).toInt32 &&& (255 : Int32))), .val (.int ((p0.toUInt32 >>> ((10 : Int32) &&& 31).toUInt32).toInt32 &&& (255 : Int32))), .val (.int ((p0.toUInt32 >>> ((18 : Int32) &&& 31).toUInt32).toInt32 &&& (255 : Int32))), .val (.int (p1 &&& (3 : Int32))), .val (.int ((p1.toUInt32 >>> ((2 : Int32) &&& 31).toUInt32).toInt32 &&& (255 : Int32))), .val (.int ((p1.toUInt32 >>> ((10 : Int32) &&& 31).toUInt32).toInt32 &&& (255 : Int32))), .val (.int ((p1.toUInt32 >>> ((18 : Int32) &&& 31).toUInt32).toInt32 &&& (255 : Int32))), .val (.ref sa_1), .val (.ref sa_13), .val (.ref sa_28), .val (.ref b48), .val (.ref ra_81), .val (.int (1 : Int32)), .unset] [(.int (1 : Int32))]) G
        refine Gl.via (fun _ k => XS.goto X121.here hx rfl (pc0 := 217) (pc' := 221) rfl (hb hby at_217) (by decide) (by decide) k) ?_
        show Gl p.tables e below T121 (mkF m 221 #[.val (.int p0), .val (.int p1), .val (.int p2), .val (.int (p0 &&& (3 : Int32))), .val (.int ((p0.toUInt32 >>> ((2 : Int32) &&& 31).toUInt32).toInt32 &&& (255 : Int32))), .val (.int ((p0.toUInt32 >>> ((10 : Int32) &&& 31).toUInt32).toInt32 &&& (255 : Int32))), .val (.int ((p0.toUInt32 >>> ((18 : Int32) &&& 31).toUInt32).toInt32 &&& (255 : Int32))), .val (.int (p1 &&& (3 : Int32))), .val (.int ((p1.toUInt32 >>> ((2 : Int32) &&& 31).toUInt32).toInt32 &&& (255 : Int32))), .val (.int ((p1.toUInt32 >>> ((10 : Int32) &&& 31).toUInt32).toInt32 &&& (255 : Int32))), .val (.int ((p1.toUInt32 >>> ((18 : Int32) &&& 31).toUInt32).toInt32 &&& (255 : Int32))), .val (.ref sa_1), .val (.ref sa_13), .val (.ref sa_28), .val (.ref b48), .val (.ref ra_81), .val (.int (1 : Int32)), .unset] [(.int (1 : Int32))]) G
        refine Gl.via (fun _ k => XS.istore X121.here hx rfl (hb hby at_221) rfl (l' := #[.val (.int p0), .val (.int p1), .val (.int p2), .val (.int (p0 &&& (3 : Int32))), .val (.int ((p0.toUInt32 >>> ((2 : Int32) &&& 31).toUInt32).toInt32 &&& (255 : Int32))), .val (.int ((p0.toUInt32 >>> ((10 : Int32) &&& 31).toUInt32).toInt32 &&& (255 : Int32))), .val (.int ((p0.toUInt32 >>> ((18 : Int32) &&& 31).toUInt32).toInt32 &&& (255 : Int32))), .val (.int (p1 &&& (3 : Int32))), .val (.int ((p1.toUInt32 >>> ((2 : Int32) &&& 31).toUInt32).toInt32 &&& (255 : Int32))), .val (.int ((p1.toUInt32 >>> ((10 : Int32) &&& 31).toUInt32).toInt32 &&& (255 : Int32))), .val (.int ((p1.toUInt32 >>> ((18 : Int32) &&& 31).toUInt32).toInt32 &&& (255 : Int32))), .val (.ref sa_1), .val (.ref sa_13), .val (.ref sa_28), .val (.ref b48), .val (.ref ra_81), .val (.int (1 : Int32)), .unset]) rfl k) ?_
        show Gl p.tables e below T121 (mkF m 223 #[.val (.int p0), .val (.int p1), .val (.int p2), .val (.int (p0 &&& (3 : Int32))), .val (.int ((p0.toUInt32 >>> ((2 : Int32) &&& 31).toUInt32).toInt32 &&& (255 : Int32))), .val (.int ((p0.toUInt32 >>> ((10 : Int32) &&& 31).toUInt32).toInt32 &&& (255 : Int32))), .val (.int ((p0.toUInt32 >>> ((18 : Int32) &&& 31).toUInt32).toInt32 &&& (255 : Int32))), .val (.int (p1 &&& (3 : Int32))), .val (.int ((p1.toUInt32 >>> ((2 : Int32) &&& 31).toUInt32).toInt32 &&& (255 : Int32))), .val (.int ((p1.toUInt32 >>> ((10 : Int32) &&& 31).toUInt32).toInt32 &&& (255 : Int32))), .val (.int ((p1.toUInt32 >>> ((18 : Int32) &&& 31).toUInt32).toInt32 &&& (255 : Int32))), .val (.ref sa_1), .val (.ref sa_13), .val (.ref sa_28), .val (.ref b48), .val (.ref ra_81), .val (.int (1 : Int32)), .unset] []) G
        exact J223 T121 _ X121 eh121 N121_ 
      · refine Gl.via (fun _ k => XS.icmpYes XJ195.here hx rfl (pc0 := 197) (pc' := 223) rfl (hb hby at_197) rfl (flt q1).2.2.2 (by decide) (by decide) k) ?_
        show Gl p.tables e below TJ195 (mkF m 223 #[.val (.int p0), .val (.int p1), .val (.int p2), .val (.int (p0 &&& (3 : Int32))), .val (.int ((p0.toUInt32 >>> ((2 : Int32) &&& 31).toUInt32).toInt32 &&& (255 : Int32))), .val (.int ((p0.toUInt32 >>> ((10 : Int32) &&& 31).toUInt32).toInt32 &&& (255 : Int32))), .val (.int ((p0.toUInt32 >>> ((18 : Int32) &&& 31).toUInt32).toInt32 &&& (255 : Int32))), .val (.int (p1 &&& (3 : Int32))), .val (.int ((p1.toUInt32 >>> ((2 : Int32) &&& 31).toUInt32).toInt32 &&& (255 : Int32))), .val (.int ((p1.toUInt32 >>> ((10 : Int32) &&& 31).toUInt32).toInt32 &&& (255 : Int32))), .val (.int ((p1.toUInt32 >>> ((18 : Int32) &&& 31).toUInt32).toInt32 &&& (255 : Int32))), .val (.ref sa_1), .val (.ref sa_13), .val (.ref sa_28), .val (.ref b48), .val (.ref ra_81), .val (.int (1 : Int32)), .unset] []) G
        exact J223 TJ195 _ XJ195 EJ195 NJ195 
    refine Gl.via (fun _ k => XS.iloadN X114.here hx rfl (hb hby at_168) rfl k) ?_
    show Gl p.tables e below T114 (mkF m 169 #[.val (.int p0), .val (.int p1), .val (.int p2), .val (.int (p0 &&& (3 : Int32))), .val (.int ((p0.toUInt32 >>> ((2 : Int32) &&& 31).toUInt32).toInt32 &&& (255 : Int32))), .val (.int ((p0.toUInt32 >>> ((10 : Int32) &&& 31).toUInt32).toInt32 &&& (255 : Int32))), .val (.int ((p0.toUInt32 >>> ((18 : Int32) &&& 31).toUInt32).toInt32 &&& (255 : Int32))), .val (.int (p1 &&& (3 : Int32))), .val (.int ((p1.toUInt32 >>> ((2 : Int32) &&& 31).toUInt32).toInt32 &&& (255 : Int32))), .val (.int ((p1.toUInt32 >>> ((10 : Int32) &&& 31).toUInt32).toInt32 &&& (255 : Int32))), .val (.int ((p1.toUInt32 >>> ((18 : Int32) &&& 31).toUInt32).toInt32 &&& (255 : Int32))), .val (.ref sa_1), .val (.ref sa_13), .val (.ref sa_28), .val (.ref b48), .val (.ref ra_81), .val (.int (1 : Int32)), .unset] [(.int (p0 &&& (3 : Int32)))]) G
    by_cases q0 : (0 : Int32) < (p0 &&& (3 : Int32))
    · refine Gl.via (fun _ k => XS.ifNo X114.here hx rfl (hb hby at_169) rfl ((if0 _ _).trans (tlt q0).2.2.2) k) ?_
      show Gl p.tables e below T114 (mkF m 172 #[.val (.int p0), .val (.int p1), .val (.int p2), .val (.int (p0 &&& (3 : Int32))), .val (.int ((p0.toUInt32 >>> ((2 : Int32) &&& 31).toUInt32).toInt32 &&& (255 : Int32))), .val (.int ((p0.toUInt32 >>> ((10 : Int32) &&& 31).toUInt32).toInt32 &&& (255 : Int32))), .val (.int ((p0.toUInt32 >>> ((18 : Int32) &&& 31).toUInt32).toInt32 &&& (255 : Int32))), .val (.int (p1 &&& (3 : Int32))), .val (.int ((p1.toUInt32 >>> ((2 : Int32) &&& 31).toUInt32).toInt32 &&& (255 : Int32))), .val (.int ((p1.toUInt32 >>> ((10 : Int32) &&& 31).toUInt32).toInt32 &&& (255 : Int32))), .val (.int ((p1.toUInt32 >>> ((18 : Int32) &&& 31).toUInt32).toInt32 &&& (255 : Int32))), .val (.ref sa_1), .val (.ref sa_13), .val (.ref sa_28), .val (.ref b48), .val (.ref ra_81), .val (.int (1 : Int32)), .unset] []) G
      refine Gl.via (fun _ k => XS.iload X114.here hx rfl (hb hby at_172) rfl k) ?_
      show Gl p.tables e below T114 (mkF m 174 #[.val (.int p0), .val (.int p1), .val (.int p2), .val (.int (p0 &&& (3 : Int32))), .val (.int ((p0.toUInt32 >>> ((2 : Int32) &&& 31).toUInt32).toInt32 &&& (255 : Int32))), .val (.int ((p0.toUInt32 >>> ((10 : Int32) &&& 31).toUInt32).toInt32 &&& (255 : Int32))), .val (.int ((p0.toUInt32 >>> ((18 : Int32) &&& 31).toUInt32).toInt32 &&& (255 : Int32))), .val (.int (p1 &&& (3 : Int32))), .val (.int ((p1.toUInt32 >>> ((2 : Int32) &&& 31).toUInt32).toInt32 &&& (255 : Int32))), .val (.int ((p1.toUInt32 >>> ((10 : Int32) &&& 31).toUInt32).toInt32 &&& (255 : Int32))), .val (.int ((p1.toUInt32 >>> ((18 : Int32) &&& 31).toUInt32).toInt32 &&& (255 : Int32))), .val (.ref sa_1), .val (.ref sa_13), .val (.ref sa_28), .val (.ref b48), .val (.ref ra_81), .val (.int (1 : Int32)), .unset] [(.int (1 : Int32))]) G
      refine Gl.via (fun _ k => XS.ifNo X114.here hx rfl (hb hby at_174) rfl ((if0 _ _).trans (feq (by decide)).1) k) ?_
      show Gl p.tables e below T114 (mkF m 177 #[.val (.int p0), .val (.int p1), .val (.int p2), .val (.int (p0 &&& (3 : Int32))), .val (.int ((p0.toUInt32 >>> ((2 : Int32) &&& 31).toUInt32).toInt32 &&& (255 : Int32))), .val (.int ((p0.toUInt32 >>> ((10 : Int32) &&& 31).toUInt32).toInt32 &&& (255 : Int32))), .val (.int ((p0.toUInt32 >>> ((18 : Int32) &&& 31).toUInt32).toInt32 &&& (255 : Int32))), .val (.int (p1 &&& (3 : Int32))), .val (.int ((p1.toUInt32 >>> ((2 : Int32) &&& 31).toUInt32).toInt32 &&& (255 : Int32))), .val (.int ((p1.toUInt32 >>> ((10 : Int32) &&& 31).toUInt32).toInt32 &&& (255 : Int32))), .val (.int ((p1.toUInt32 >>> ((18 : Int32) &&& 31).toUInt32).toInt32 &&& (255 : Int32))), .val (.ref sa_1), .val (.ref sa_13), .val (.ref sa_28), .val (.ref b48), .val (.ref ra_81), .val (.int (1 : Int32)), .unset] []) G
      refine Gl.via (fun _ k => XS.aload X114.here hx rfl (hb hby at_177) rfl rfl k) ?_
      show Gl p.tables e below T114 (mkF m 179 #[.val (.int p0), .val (.int p1), .val (.int p2), .val (.int (p0 &&& (3 : Int32))), .val (.int ((p0.toUInt32 >>> ((2 : Int32) &&& 31).toUInt32).toInt32 &&& (255 : Int32))), .val (.int ((p0.toUInt32 >>> ((10 : Int32) &&& 31).toUInt32).toInt32 &&& (255 : Int32))), .val (.int ((p0.toUInt32 >>> ((18 : Int32) &&& 31).toUInt32).toInt32 &&& (255 : Int32))), .val (.int (p1 &&& (3 : Int32))), .val (.int ((p1.toUInt32 >>> ((2 : Int32) &&& 31).toUInt32).toInt32 &&& (255 : Int32))), .val (.int ((p1.toUInt32 >>> ((10 : Int32) &&& 31).toUInt32).toInt32 &&& (255 : Int32))), .val (.int ((p1.toUInt32 >>> ((18 : Int32) &&& 31).toUInt32).toInt32 &&& (255 : Int32))), .val (.ref sa_1), .val (.ref sa_13), .val (.ref sa_28), .val (.ref b48), .val (.ref ra_81), .val (.int (1 : Int32)), .unset] [(.ref ra_81)]) G
      refine Gl.via (fun _ k => XS.iconst X114.here hx rfl (hb hby at_179) k) ?_
      show Gl p.tables e below T114 (mkF m 180 #[.val (.int p0), .val (.int p1), .val (.int p2), .val (.int (p0 &&& (3 : Int32))), .val (.int ((p0.toUInt32 >>> ((2 : Int32) &&& 31).toUInt32).toInt32 &&& (255 : Int32))), .val (.int ((p0.toUInt32 >>> ((10 : Int32) &&& 31).toUInt32).toInt32 &&& (255 : Int32))), .val (.int ((p0.toUInt32 >>> ((18 : Int32) &&& 31).toUInt32).toInt32 &&& (255 : Int32))), .val (.int (p1 &&& (3 : Int32))), .val (.int ((p1.toUInt32 >>> ((2 : Int32) &&& 31).toUInt32).toInt32 &&& (255 : Int32))), .val (.int ((p1.toUInt32 >>> ((10 : Int32) &&& 31).toUInt32).toInt32 &&& (255 : Int32))), .val (.int ((p1.toUInt32 >>> ((18 : Int32) &&& 31).toUInt32).toInt32 &&& (255 : Int32))), .val (.ref sa_1), .val (.ref sa_13), .val (.ref sa_28), .val (.ref b48), .val (.ref ra_81), .val (.int (1 : Int32)), .unset] [(.int (0 : Int32)), (.ref ra_81)]) G
      obtain ⟨cq122, kq122, q122a, q122b, q122c⟩ := isOf hZ81 eh114 P92
      obtain ⟨_, _, ⟨T122, L122, k122, n122⟩, -, X122, ⟨Lc122, hQ122, l122, y122, z122⟩, st122⟩ := X114.virtualBack hx (y := (⟨"java/lang/String", "charAt", "(I)C"⟩ : MethodName)) (z := (⟨"java/lang/String", "charAt", "(I)C"⟩ : MethodName)) hown81 (mvT hZ81 (hw _ (List.mem_of_getElem? (i := 188) rfl))) (mvT hZ81 (hw _ (List.mem_of_getElem? (i := 189) rfl))) (notFace_of_selects (args := #[]) (mvT hZ81 (hw _ (List.mem_of_getElem? (i := 191) rfl)))) (mvT hZ81 (hw _ (List.mem_of_getElem? (i := 191) rfl))) (mvT hZ81 (hw _ (List.mem_of_getElem? (i := 190) rfl))) (by decide) (backOf (W := 0) (st_at l Z a0 hw [] ra_81 rb_81 rk_81 (own_scat (32 : Int32) (p0 &&& (3 : Int32)) ((p0.toUInt32 >>> ((2 : Int32) &&& 31).toUInt32).toInt32 &&& (255 : Int32)) ((p0.toUInt32 >>> ((10 : Int32) &&& 31).toUInt32).toInt32 &&& (255 : Int32)) ((p0.toUInt32 >>> ((18 : Int32) &&& 31).toUInt32).toInt32 &&& (255 : Int32)) (p1 &&& (3 : Int32)) ((p1.toUInt32 >>> ((2 : Int32) &&& 31).toUInt32).toInt32 &&& (255 : Int32)) ((p1.toUInt32 >>> ((10 : Int32) &&& 31).toUInt32).toInt32 &&& (255 : Int32)) ((p1.toUInt32 >>> ((18 : Int32) &&& 31).toUInt32).toInt32 &&& (255 : Int32))) (0 : Int32) (((p0.toUInt32 >>> ((2 : Int32) &&& 31).toUInt32).toInt32 &&& (255 : Int32)).toInt8.toInt32) fm cps T81.heap n0 Z110 P92 P93 P94 V113 F0_java_lang_String F1_jdk_internal_util_Preconditions G115 hcps hfm (own_g0 (c0 := ((p0.toUInt32 >>> ((2 : Int32) &&& 31).toUInt32).toInt32 &&& (255 : Int32))) (c1 := ((p0.toUInt32 >>> ((10 : Int32) &&& 31).toUInt32).toInt32 &&& (255 : Int32))) (c2 := ((p0.toUInt32 >>> ((18 : Int32) &&& 31).toUInt32).toInt32 &&& (255 : Int32))) (d0 := ((p1.toUInt32 >>> ((2 : Int32) &&& 31).toUInt32).toInt32 &&& (255 : Int32))) (d1 := ((p1.toUInt32 >>> ((10 : Int32) &&& 31).toUInt32).toInt32 &&& (255 : Int32))) (d2 := ((p1.toUInt32 >>> ((18 : Int32) &&& 31).toUInt32).toInt32 &&& (255 : Int32))) (own_and3 p0) (own_and3 p1) q0).1 (own_g0 (c0 := ((p0.toUInt32 >>> ((2 : Int32) &&& 31).toUInt32).toInt32 &&& (255 : Int32))) (c1 := ((p0.toUInt32 >>> ((10 : Int32) &&& 31).toUInt32).toInt32 &&& (255 : Int32))) (c2 := ((p0.toUInt32 >>> ((18 : Int32) &&& 31).toUInt32).toInt32 &&& (255 : Int32))) (d0 := ((p1.toUInt32 >>> ((2 : Int32) &&& 31).toUInt32).toInt32 &&& (255 : Int32))) (d1 := ((p1.toUInt32 >>> ((10 : Int32) &&& 31).toUInt32).toInt32 &&& (255 : Int32))) (d2 := ((p1.toUInt32 >>> ((18 : Int32) &&& 31).toUInt32).toInt32 &&& (255 : Int32))) (own_and3 p0) (own_and3 p1) q0).2.1 (own_g0 (c0 := ((p0.toUInt32 >>> ((2 : Int32) &&& 31).toUInt32).toInt32 &&& (255 : Int32))) (c1 := ((p0.toUInt32 >>> ((10 : Int32) &&& 31).toUInt32).toInt32 &&& (255 : Int32))) (c2 := ((p0.toUInt32 >>> ((18 : Int32) &&& 31).toUInt32).toInt32 &&& (255 : Int32))) (d0 := ((p1.toUInt32 >>> ((2 : Int32) &&& 31).toUInt32).toInt32 &&& (255 : Int32))) (d1 := ((p1.toUInt32 >>> ((10 : Int32) &&& 31).toUInt32).toInt32 &&& (255 : Int32))) (d2 := ((p1.toUInt32 >>> ((18 : Int32) &&& 31).toUInt32).toInt32 &&& (255 : Int32))) (own_and3 p0) (own_and3 p1) q0).2.2) hZ81 (hw _ (List.mem_of_getElem? (i := 192) rfl)) (hw _ (List.mem_of_getElem? (i := 6) rfl)) (by decide) (by decide)) q122a q122c (g := (mkF m 180 #[.val (.int p0), .val (.int p1), .val (.int p2), .val (.int (p0 &&& (3 : Int32))), .val (.int ((p0.toUInt32 >>> ((2 : Int32) &&& 31).toUInt32).toInt32 &&& (255 : Int32))), .val (.int ((p0.toUInt32 >>> ((10 : Int32) &&& 31).toUInt32).toInt32 &&& (255 : Int32))), .val (.int ((p0.toUInt32 >>> ((18 : Int32) &&& 31).toUInt32).toInt32 &&& (255 : Int32))), .val (.int (p1 &&& (3 : Int32))), .val (.int ((p1.toUInt32 >>> ((2 : Int32) &&& 31).toUInt32).toInt32 &&& (255 : Int32))), .val (.int ((p1.toUInt32 >>> ((10 : Int32) &&& 31).toUInt32).toInt32 &&& (255 : Int32))), .val (.int ((p1.toUInt32 >>> ((18 : Int32) &&& 31).toUInt32).toInt32 &&& (255 : Int32))), .val (.ref sa_1), .val (.ref sa_13), .val (.ref sa_28), .val (.ref b48), .val (.ref ra_81), .val (.int (1 : Int32)), .unset] [(.int (0 : Int32)), (.ref ra_81)])) rfl (by rw [hml]; rfl) (Steps.refl _) (argsL := [(.int (0 : Int32))]) (rest := []) (lenOf pd_30 rfl) rfl (by show 2 * 0 + _ ≤ _; exact Nat.le_of_eq rfl) (hb hby at_180) (fun _ _ => ⟨rfl, eh114, (by decide : 21 + 0 ≤ _), (by decide : 81 + 0 ≤ _)⟩)
      dsimp only [Pt.U, Pt.locs, Pt.cells, Pt.slots] at X122 l122 y122 z122 st122 hQ122
      subst l122 y122 z122
      obtain ⟨rfl, N122q, eh122⟩ := hQ122
      have N122_ := Fr.app N114_ N122q
      refine Gl.via (fun _ k => st122.trans k) ?_
      show Gl p.tables e below T122 (mkF m 183 #[.val (.int p0), .val (.int p1), .val (.int p2), .val (.int (p0 &&& (3 : Int32))), .val (.int ((p0.toUInt32 >>> ((2 : Int32) &&& 31).toUInt32).toInt32 &&& (255 : Int32))), .val (.int ((p0.toUInt32 >>> ((10 : Int32) &&& 31).toUInt32).toInt32 &&& (255 : Int32))), .val (.int ((p0.toUInt32 >>> ((18 : Int32) &&& 31).toUInt32).toInt32 &&& (255 : Int32))), .val (.int (p1 &&& (3 : Int32))), .val (.int ((p1.toUInt32 >>> ((2 : Int32) &&& 31).toUInt32).toInt32 &&& (255 : Int32))), .val (.int ((p1.toUInt32 >>> ((10 : Int32) &&& 31).toUInt32).toInt32 &&& (255 : Int32))), .val (.int ((p1.toUInt32 >>> ((18 : Int32) &&& 31).toUInt32).toInt32 &&& (255 : Int32))), .val (.ref sa_1), .val (.ref sa_13), .val (.ref sa_28), .val (.ref b48), .val (.ref ra_81), .val (.int (1 : Int32)), .unset] [(.int ((((p0.toUInt32 >>> ((2 : Int32) &&& 31).toUInt32).toInt32 &&& (255 : Int32)).toInt8.toInt32) &&& (255 : Int32)))]) G
      refine Gl.via (fun _ k => XS.iload X122.here hx rfl (hb hby at_183) rfl k) ?_
      show Gl p.tables e below T122 (mkF m 185 #[.val (.int p0), .val (.int p1), .val (.int p2), .val (.int (p0 &&& (3 : Int32))), .val (.int ((p0.toUInt32 >>> ((2 : Int32) &&& 31).toUInt32).toInt32 &&& (255 : Int32))), .val (.int ((p0.toUInt32 >>> ((10 : Int32) &&& 31).toUInt32).toInt32 &&& (255 : Int32))), .val (.int ((p0.toUInt32 >>> ((18 : Int32) &&& 31).toUInt32).toInt32 &&& (255 : Int32))), .val (.int (p1 &&& (3 : Int32))), .val (.int ((p1.toUInt32 >>> ((2 : Int32) &&& 31).toUInt32).toInt32 &&& (255 : Int32))), .val (.int ((p1.toUInt32 >>> ((10 : Int32) &&& 31).toUInt32).toInt32 &&& (255 : Int32))), .val (.int ((p1.toUInt32 >>> ((18 : Int32) &&& 31).toUInt32).toInt32 &&& (255 : Int32))), .val (.ref sa_1), .val (.ref sa_13), .val (.ref sa_28), .val (.ref b48), .val (.ref ra_81), .val (.int (1 : Int32)), .unset] [(.int ((p0.toUInt32 >>> ((2 : Int32) &&& 31).toUInt32).toInt32 &&& (255 : Int32))), (.int ((((p0.toUInt32 >>> ((2 : Int32) &&& 31).toUInt32).toInt32 &&& (255 : Int32)).toInt8.toInt32) &&& (255 : Int32)))]) G
      refine Gl.via (fun _ k => XS.icmpNo X122.here hx rfl (hb hby at_185) rfl (teq (own_msk _ (own_mb _).1 (own_mb _).2)).2 k) ?_
      show Gl p.tables e below T122 (mkF m 188 #[.val (.int p0), .val (.int p1), .val (.int p2), .val (.int (p0 &&& (3 : Int32))), .val (.int ((p0.toUInt32 >>> ((2 : Int32) &&& 31).toUInt32).toInt32 &&& (255 : Int32))), .val (.int ((p0.toUInt32 >>> ((10 : Int32) &&& 31).toUInt32).toInt32 &&& (255 : Int32))), .val (.int ((p0.toUInt32 >>> ((18 : Int32) &&& 31).toUInt32).toInt32 &&& (255 : Int32))), .val (.int (p1 &&& (3 : Int32))), .val (.int ((p1.toUInt32 >>> ((2 : Int32) &&& 31).toUInt32).toInt32 &&& (255 : Int32))), .val (.int ((p1.toUInt32 >>> ((10 : Int32) &&& 31).toUInt32).toInt32 &&& (255 : Int32))), .val (.int ((p1.toUInt32 >>> ((18 : Int32) &&& 31).toUInt32).toInt32 &&& (255 : Int32))), .val (.ref sa_1), .val (.ref sa_13), .val (.ref sa_28), .val (.ref b48), .val (.ref ra_81), .val (.int (1 : Int32)), .unset] []) G
      refine Gl.via (fun _ k => XS.iconst X122.here hx rfl (hb hby at_188) k) ?_
      show Gl p.tables e below T122 (mkF m 189 #[.val (.int p0), .val (.int p1), .val (.int p2), .val (.int (p0 &&& (3 : Int32))), .val (.int ((p0.toUInt32 >>> ((2 : Int32) &&& 31).toUInt32).toInt32 &&& (255 : Int32))), .val (.int ((p0.toUInt32 >>> ((10 : Int32) &&& 31).toUInt32).toInt32 &&& (255 : Int32))), .val (.int ((p0.toUInt32 >>> ((18 : Int32) &&& 31).toUInt32).toInt32 &&& (255 : Int32))), .val (.int (p1 &&& (3 : Int32))), .val (.int ((p1.toUInt32 >>> ((2 : Int32) &&& 31).toUInt32).toInt32 &&& (255 : Int32))), .val (.int ((p1.toUInt32 >>> ((10 : Int32) &&& 31).toUInt32).toInt32 &&& (255 : Int32))), .val (.int ((p1.toUInt32 >>> ((18 : Int32) &&& 31).toUInt32).toInt32 &&& (255 : Int32))), .val (.ref sa_1), .val (.ref sa_13), .val (.ref sa_28), .val (.ref b48), .val (.ref ra_81), .val (.int (1 : Int32)), .unset] [(.int (1 : Int32))]) G
      refine Gl.via (fun _ k => XS.goto X122.here hx rfl (pc0 := 189) (pc' := 193) rfl (hb hby at_189) (by decide) (by decide) k) ?_
      show Gl p.tables e below T122 (mkF m 193 #[.val (.int p0), .val (.int p1), .val (.int p2), .val (.int (p0 &&& (3 : Int32))), .val (.int ((p0.toUInt32 >>> ((2 : Int32) &&& 31).toUInt32).toInt32 &&& (255 : Int32))), .val (.int ((p0.toUInt32 >>> ((10 : Int32) &&& 31).toUInt32).toInt32 &&& (255 : Int32))), .val (.int ((p0.toUInt32 >>> ((18 : Int32) &&& 31).toUInt32).toInt32 &&& (255 : Int32))), .val (.int (p1 &&& (3 : Int32))), .val (.int ((p1.toUInt32 >>> ((2 : Int32) &&& 31).toUInt32).toInt32 &&& (255 : Int32))), .val (.int ((p1.toUInt32 >>> ((10 : Int32) &&& 31).toUInt32).toInt32 &&& (255 : Int32))), .val (.int ((p1.toUInt32 >>> ((18 : Int32) &&& 31).toUInt32).toInt32 &&& (255 : Int32))), .val (.ref sa_1), .val (.ref sa_13), .val (.ref sa_28), .val (.ref b48), .val (.ref ra_81), .val (.int (1 : Int32)), .unset] [(.int (1 : Int32))]) G
      refine Gl.via (fun _ k => XS.istore X122.here hx rfl (hb hby at_193) rfl (l' := #[.val (.int p0), .val (.int p1), .val (.int p2), .val (.int (p0 &&& (3 : Int32))), .val (.int ((p0.toUInt32 >>> ((2 : Int32) &&& 31).toUInt32).toInt32 &&& (255 : Int32))), .val (.int ((p0.toUInt32 >>> ((10 : Int32) &&& 31).toUInt32).toInt32 &&& (255 : Int32))), .val (.int ((p0.toUInt32 >>> ((18 : Int32) &&& 31).toUInt32).toInt32 &&& (255 : Int32))), .val (.int (p1 &&& (3 : Int32))), .val (.int ((p1.toUInt32 >>> ((2 : Int32) &&& 31).toUInt32).toInt32 &&& (255 : Int32))), .val (.int ((p1.toUInt32 >>> ((10 : Int32) &&& 31).toUInt32).toInt32 &&& (255 : Int32))), .val (.int ((p1.toUInt32 >>> ((18 : Int32) &&& 31).toUInt32).toInt32 &&& (255 : Int32))), .val (.ref sa_1), .val (.ref sa_13), .val (.ref sa_28), .val (.ref b48), .val (.ref ra_81), .val (.int (1 : Int32)), .unset]) rfl k) ?_
      show Gl p.tables e below T122 (mkF m 195 #[.val (.int p0), .val (.int p1), .val (.int p2), .val (.int (p0 &&& (3 : Int32))), .val (.int ((p0.toUInt32 >>> ((2 : Int32) &&& 31).toUInt32).toInt32 &&& (255 : Int32))), .val (.int ((p0.toUInt32 >>> ((10 : Int32) &&& 31).toUInt32).toInt32 &&& (255 : Int32))), .val (.int ((p0.toUInt32 >>> ((18 : Int32) &&& 31).toUInt32).toInt32 &&& (255 : Int32))), .val (.int (p1 &&& (3 : Int32))), .val (.int ((p1.toUInt32 >>> ((2 : Int32) &&& 31).toUInt32).toInt32 &&& (255 : Int32))), .val (.int ((p1.toUInt32 >>> ((10 : Int32) &&& 31).toUInt32).toInt32 &&& (255 : Int32))), .val (.int ((p1.toUInt32 >>> ((18 : Int32) &&& 31).toUInt32).toInt32 &&& (255 : Int32))), .val (.ref sa_1), .val (.ref sa_13), .val (.ref sa_28), .val (.ref b48), .val (.ref ra_81), .val (.int (1 : Int32)), .unset] []) G
      exact J195 T122 _ X122 eh122 N122_ 
    · refine Gl.via (fun _ k => XS.ifYes X114.here hx rfl (pc0 := 169) (pc' := 195) rfl (hb hby at_169) rfl ((if0 _ _).trans (flt q0).2.2.2) (by decide) (by decide) k) ?_
      show Gl p.tables e below T114 (mkF m 195 #[.val (.int p0), .val (.int p1), .val (.int p2), .val (.int (p0 &&& (3 : Int32))), .val (.int ((p0.toUInt32 >>> ((2 : Int32) &&& 31).toUInt32).toInt32 &&& (255 : Int32))), .val (.int ((p0.toUInt32 >>> ((10 : Int32) &&& 31).toUInt32).toInt32 &&& (255 : Int32))), .val (.int ((p0.toUInt32 >>> ((18 : Int32) &&& 31).toUInt32).toInt32 &&& (255 : Int32))), .val (.int (p1 &&& (3 : Int32))), .val (.int ((p1.toUInt32 >>> ((2 : Int32) &&& 31).toUInt32).toInt32 &&& (255 : Int32))), .val (.int ((p1.toUInt32 >>> ((10 : Int32) &&& 31).toUInt32).toInt32 &&& (255 : Int32))), .val (.int ((p1.toUInt32 >>> ((18 : Int32) &&& 31).toUInt32).toInt32 &&& (255 : Int32))), .val (.ref sa_1), .val (.ref sa_13), .val (.ref sa_28), .val (.ref b48), .val (.ref ra_81), .val (.int (1 : Int32)), .unset] []) G
      exact J195 T114 _ X114 eh114 N114_ 
  refine Gl.via (fun _ k => XS.iloadN X48.here hx rfl (hb hby at_121) rfl k) ?_
  show Gl p.tables e below T48 (mkF m 122 #[.val (.int p0), .val (.int p1), .val (.int p2), .val (.int (p0 &&& (3 : Int32))), .val (.int ((p0.toUInt32 >>> ((2 : Int32) &&& 31).toUInt32).toInt32 &&& (255 : Int32))), .val (.int ((p0.toUInt32 >>> ((10 : Int32) &&& 31).toUInt32).toInt32 &&& (255 : Int32))), .val (.int ((p0.toUInt32 >>> ((18 : Int32) &&& 31).toUInt32).toInt32 &&& (255 : Int32))), .val (.int (p1 &&& (3 : Int32))), .val (.int ((p1.toUInt32 >>> ((2 : Int32) &&& 31).toUInt32).toInt32 &&& (255 : Int32))), .val (.int ((p1.toUInt32 >>> ((10 : Int32) &&& 31).toUInt32).toInt32 &&& (255 : Int32))), .val (.int ((p1.toUInt32 >>> ((18 : Int32) &&& 31).toUInt32).toInt32 &&& (255 : Int32))), .val (.ref sa_1), .val (.ref sa_13), .val (.ref sa_28), .unset, .unset, .unset, .unset] [(.int p2), (.ref sa_28), (.ref sa_13), (.ref sa_1), (.ref b48), (.ref b48)]) G
  refine Gl.via (fun _ k => XS.iconst X48.here hx rfl (hb hby at_122) k) ?_
  show Gl p.tables e below T48 (mkF m 123 #[.val (.int p0), .val (.int p1), .val (.int p2), .val (.int (p0 &&& (3 : Int32))), .val (.int ((p0.toUInt32 >>> ((2 : Int32) &&& 31).toUInt32).toInt32 &&& (255 : Int32))), .val (.int ((p0.toUInt32 >>> ((10 : Int32) &&& 31).toUInt32).toInt32 &&& (255 : Int32))), .val (.int ((p0.toUInt32 >>> ((18 : Int32) &&& 31).toUInt32).toInt32 &&& (255 : Int32))), .val (.int (p1 &&& (3 : Int32))), .val (.int ((p1.toUInt32 >>> ((2 : Int32) &&& 31).toUInt32).toInt32 &&& (255 : Int32))), .val (.int ((p1.toUInt32 >>> ((10 : Int32) &&& 31).toUInt32).toInt32 &&& (255 : Int32))), .val (.int ((p1.toUInt32 >>> ((18 : Int32) &&& 31).toUInt32).toInt32 &&& (255 : Int32))), .val (.ref sa_1), .val (.ref sa_13), .val (.ref sa_28), .unset, .unset, .unset, .unset] [(.int (1 : Int32)), (.int p2), (.ref sa_28), (.ref sa_13), (.ref sa_1), (.ref b48), (.ref b48)]) G
  refine Gl.via (fun _ k => XS.iand X48.here hx rfl (hb hby at_123) rfl k) ?_
  show Gl p.tables e below T48 (mkF m 124 #[.val (.int p0), .val (.int p1), .val (.int p2), .val (.int (p0 &&& (3 : Int32))), .val (.int ((p0.toUInt32 >>> ((2 : Int32) &&& 31).toUInt32).toInt32 &&& (255 : Int32))), .val (.int ((p0.toUInt32 >>> ((10 : Int32) &&& 31).toUInt32).toInt32 &&& (255 : Int32))), .val (.int ((p0.toUInt32 >>> ((18 : Int32) &&& 31).toUInt32).toInt32 &&& (255 : Int32))), .val (.int (p1 &&& (3 : Int32))), .val (.int ((p1.toUInt32 >>> ((2 : Int32) &&& 31).toUInt32).toInt32 &&& (255 : Int32))), .val (.int ((p1.toUInt32 >>> ((10 : Int32) &&& 31).toUInt32).toInt32 &&& (255 : Int32))), .val (.int ((p1.toUInt32 >>> ((18 : Int32) &&& 31).toUInt32).toInt32 &&& (255 : Int32))), .val (.ref sa_1), .val (.ref sa_13), .val (.ref sa_28), .unset, .unset, .unset, .unset] [(.int (p2 &&& (1 : Int32))), (.ref sa_28), (.ref sa_13), (.ref sa_1), (.ref b48), (.ref b48)]) G
  by_cases hz : (p2 &&& (1 : Int32)) = (0 : Int32)
  · refine Gl.via (fun _ k => XS.ifYes X48.here hx rfl (pc0 := 124) (pc' := 131) rfl (hb hby at_124) rfl ((if0 _ _).trans (teq hz).1) (by decide) (by decide) k) ?_
    show Gl p.tables e below T48 (mkF m 131 #[.val (.int p0), .val (.int p1), .val (.int p2), .val (.int (p0 &&& (3 : Int32))), .val (.int ((p0.toUInt32 >>> ((2 : Int32) &&& 31).toUInt32).toInt32 &&& (255 : Int32))), .val (.int ((p0.toUInt32 >>> ((10 : Int32) &&& 31).toUInt32).toInt32 &&& (255 : Int32))), .val (.int ((p0.toUInt32 >>> ((18 : Int32) &&& 31).toUInt32).toInt32 &&& (255 : Int32))), .val (.int (p1 &&& (3 : Int32))), .val (.int ((p1.toUInt32 >>> ((2 : Int32) &&& 31).toUInt32).toInt32 &&& (255 : Int32))), .val (.int ((p1.toUInt32 >>> ((10 : Int32) &&& 31).toUInt32).toInt32 &&& (255 : Int32))), .val (.int ((p1.toUInt32 >>> ((18 : Int32) &&& 31).toUInt32).toInt32 &&& (255 : Int32))), .val (.ref sa_1), .val (.ref sa_13), .val (.ref sa_28), .unset, .unset, .unset, .unset] [(.ref sa_28), (.ref sa_13), (.ref sa_1), (.ref b48), (.ref b48)]) G
    refine Gl.via (fun _ k => XS.iconst X48.here hx rfl (hb hby at_131) k) ?_
    show Gl p.tables e below T48 (mkF m 132 #[.val (.int p0), .val (.int p1), .val (.int p2), .val (.int (p0 &&& (3 : Int32))), .val (.int ((p0.toUInt32 >>> ((2 : Int32) &&& 31).toUInt32).toInt32 &&& (255 : Int32))), .val (.int ((p0.toUInt32 >>> ((10 : Int32) &&& 31).toUInt32).toInt32 &&& (255 : Int32))), .val (.int ((p0.toUInt32 >>> ((18 : Int32) &&& 31).toUInt32).toInt32 &&& (255 : Int32))), .val (.int (p1 &&& (3 : Int32))), .val (.int ((p1.toUInt32 >>> ((2 : Int32) &&& 31).toUInt32).toInt32 &&& (255 : Int32))), .val (.int ((p1.toUInt32 >>> ((10 : Int32) &&& 31).toUInt32).toInt32 &&& (255 : Int32))), .val (.int ((p1.toUInt32 >>> ((18 : Int32) &&& 31).toUInt32).toInt32 &&& (255 : Int32))), .val (.ref sa_1), .val (.ref sa_13), .val (.ref sa_28), .unset, .unset, .unset, .unset] [(.int (0 : Int32)), (.ref sa_28), (.ref sa_13), (.ref sa_1), (.ref b48), (.ref b48)]) G
    exact J132 (0 : Int32) rfl rfl
  · refine Gl.via (fun _ k => XS.ifNo X48.here hx rfl (hb hby at_124) rfl ((if0 _ _).trans (feq hz).1) k) ?_
    show Gl p.tables e below T48 (mkF m 127 #[.val (.int p0), .val (.int p1), .val (.int p2), .val (.int (p0 &&& (3 : Int32))), .val (.int ((p0.toUInt32 >>> ((2 : Int32) &&& 31).toUInt32).toInt32 &&& (255 : Int32))), .val (.int ((p0.toUInt32 >>> ((10 : Int32) &&& 31).toUInt32).toInt32 &&& (255 : Int32))), .val (.int ((p0.toUInt32 >>> ((18 : Int32) &&& 31).toUInt32).toInt32 &&& (255 : Int32))), .val (.int (p1 &&& (3 : Int32))), .val (.int ((p1.toUInt32 >>> ((2 : Int32) &&& 31).toUInt32).toInt32 &&& (255 : Int32))), .val (.int ((p1.toUInt32 >>> ((10 : Int32) &&& 31).toUInt32).toInt32 &&& (255 : Int32))), .val (.int ((p1.toUInt32 >>> ((18 : Int32) &&& 31).toUInt32).toInt32 &&& (255 : Int32))), .val (.ref sa_1), .val (.ref sa_13), .val (.ref sa_28), .unset, .unset, .unset, .unset] [(.ref sa_28), (.ref sa_13), (.ref sa_1), (.ref b48), (.ref b48)]) G
    refine Gl.via (fun _ k => XS.iconst X48.here hx rfl (hb hby at_127) k) ?_
    show Gl p.tables e below T48 (mkF m 128 #[.val (.int p0), .val (.int p1), .val (.int p2), .val (.int (p0 &&& (3 : Int32))), .val (.int ((p0.toUInt32 >>> ((2 : Int32) &&& 31).toUInt32).toInt32 &&& (255 : Int32))), .val (.int ((p0.toUInt32 >>> ((10 : Int32) &&& 31).toUInt32).toInt32 &&& (255 : Int32))), .val (.int ((p0.toUInt32 >>> ((18 : Int32) &&& 31).toUInt32).toInt32 &&& (255 : Int32))), .val (.int (p1 &&& (3 : Int32))), .val (.int ((p1.toUInt32 >>> ((2 : Int32) &&& 31).toUInt32).toInt32 &&& (255 : Int32))), .val (.int ((p1.toUInt32 >>> ((10 : Int32) &&& 31).toUInt32).toInt32 &&& (255 : Int32))), .val (.int ((p1.toUInt32 >>> ((18 : Int32) &&& 31).toUInt32).toInt32 &&& (255 : Int32))), .val (.ref sa_1), .val (.ref sa_13), .val (.ref sa_28), .unset, .unset, .unset, .unset] [(.int (1 : Int32)), (.ref sa_28), (.ref sa_13), (.ref sa_1), (.ref b48), (.ref b48)]) G
    refine Gl.via (fun _ k => XS.goto X48.here hx rfl (pc0 := 128) (pc' := 132) rfl (hb hby at_128) (by decide) (by decide) k) ?_
    show Gl p.tables e below T48 (mkF m 132 #[.val (.int p0), .val (.int p1), .val (.int p2), .val (.int (p0 &&& (3 : Int32))), .val (.int ((p0.toUInt32 >>> ((2 : Int32) &&& 31).toUInt32).toInt32 &&& (255 : Int32))), .val (.int ((p0.toUInt32 >>> ((10 : Int32) &&& 31).toUInt32).toInt32 &&& (255 : Int32))), .val (.int ((p0.toUInt32 >>> ((18 : Int32) &&& 31).toUInt32).toInt32 &&& (255 : Int32))), .val (.int (p1 &&& (3 : Int32))), .val (.int ((p1.toUInt32 >>> ((2 : Int32) &&& 31).toUInt32).toInt32 &&& (255 : Int32))), .val (.int ((p1.toUInt32 >>> ((10 : Int32) &&& 31).toUInt32).toInt32 &&& (255 : Int32))), .val (.int ((p1.toUInt32 >>> ((18 : Int32) &&& 31).toUInt32).toInt32 &&& (255 : Int32))), .val (.ref sa_1), .val (.ref sa_13), .val (.ref sa_28), .unset, .unset, .unset, .unset] [(.int (1 : Int32)), (.ref sa_28), (.ref sa_13), (.ref sa_1), (.ref b48), (.ref b48)]) G
    exact J132 (1 : Int32) rfl rfl
set_option maxRecDepth 65536 in
set_option maxHeartbeats 40000000 in
theorem comes_1 {Post : Tables → Env → Array Value → State → Outcome → State → Prop} (hpost : ∀ tb e args s v u, (limb_1_1.after args s (.returned v) u = true ∧ limb_1_2.after args s (.returned v) u = true ∧ True) → ReturnedEndW s (.returned v) u (Jvm.fieldLocs frame_1_writes args s ++ Jvm.arrayLocs frame_1_arrays args s ++ Jvm.staticLocs frame_1_statics s) 40 2240 → Post tb e args s (.returned v) u) :
    ArmFor flags0 classFile x code maxLocals ret World_1 tables_1 room_1 Calls_1 rest_1 Pre_1 Post := by
  intro l hfl _ _ p e ha hc hk s m args below hf hA hF happ hP
  obtain ⟨hcalls, hrest, hpre⟩ := hP
  obtain ⟨-, -, -, hnamed, -, -, -, hat⟩ := (Spec.applies_iff hf).mp happ
  obtain ⟨hg, hn⟩ := and_e (Cond.before_iff.mp (show (Jvm.Cond.and given_1 narrow_1).before args s = true from hpre))
  obtain ⟨g1, g2⟩ := and_e hg
  obtain ⟨g3, g4⟩ := and_e g2
  obtain ⟨g5, g6⟩ := and_e g4
  obtain ⟨w0, w1, w2, rfl⟩ : ∃ w0 w1 w2 : Value, args = #[w0, w1, w2] := by
    have hs : args.size = 3 := by simpa [Cond.value, given_1] using g1
    obtain ⟨L⟩ := args
    match L, hs with
    | [w0, w1, w2], _ => exact ⟨w0, w1, w2, rfl⟩
  have hw := fun d (hd : d ∈ tables_1) => atoms_spec (ws := Jvm.Cond.code x code maxLocals ret :: tables_1) hat d (List.mem_cons_of_mem _ hd)
  have hfit : Fit s := fun {y c} hc i hi => by
    obtain ⟨ha, rfl⟩ := Array.getElem?_eq_some_iff.mp hc
    have q := List.all_eq_true.mp ((Array.all_eq_true_iff_forall_mem.mp hF) _ (Array.getElem_mem ha)) i (List.mem_range.mpr hi)
    simpa [Array.getElem?_eq_getElem hi] using q
  obtain ⟨hsets, hown0⟩ := atoms_of _ (rest_1_c_eq ▸ (show rest_1_c.before _ s = true from hrest))
  have hr0 := Cond.before_iff.mp hown0
  obtain ⟨i0, ei0⟩ := is_v g3
  obtain rfl : w0 = (.int i0) := Option.some.inj ei0
  obtain ⟨i1, ei1⟩ := is_v g5
  obtain rfl : w1 = (.int i1) := Option.some.inj ei1
  obtain ⟨i2, ei2⟩ := is_v g6
  obtain rfl : w2 = (.int i2) := Option.some.inj ei2
  obtain ⟨cps, ecs⟩ := is_v (Cond.before_iff.mp (hsets _ (List.mem_of_getElem? (i := 1) rfl)))
  have Scs : Sta s s.heap "java/lang/String" "COMPACT_STRINGS" "Z" (.int cps) := Sta.start ecs (Or.inl (hsets _ (List.mem_of_getElem? (i := 0) rfl)))
  have ncs := not_v (Cond.before_iff.mp (hsets _ (List.mem_of_getElem? (i := 2) rfl)))
  have hcps : ¬ (cps = (0 : Int32)) := gotF (Cond.eq_ints ecs (Term.int_eval (0))) ncs
  obtain ⟨fm, efm, rfm⟩ := isR_v (Cond.before_iff.mp (hsets _ (List.mem_of_getElem? (i := 8) rfl)))
  have Sfm : Sta s s.heap "jdk/internal/util/Preconditions" "SIOOBE_FORMATTER" "Ljava/util/function/BiFunction;" fm := Sta.start efm (Or.inl (hsets _ (List.mem_of_getElem? (i := 7) rfl)))
  have hCH0 : CHv s own_EL s.vm s.heap := CHv.start (own_ew hw) (fun q hq => hcalls.1 q (own_sub q hq)) (hsets _ (List.mem_of_getElem? (i := 2) rfl)) (hw _ (List.mem_of_getElem? (i := 19) rfl)) (hw _ (List.mem_of_getElem? (i := 5) rfl))
  obtain ⟨n, o, h1, h2, h3, _, L, rfl, ⟨rfl, N⟩, hq⟩ := rm0 l s _ hw tables_1 i0 i1 i2 cps fm s.heap s.heap.size (Nat.le_refl _) Scs Sfm (Old.start s) hcps (own_cat rfm) p e ha hc hk s m _ below hf ((Spec.applies_iff_loose hf).mp happ).1 ⟨rfl, State.Warmed39.refl s, rfl, hCH0, (fun _ z => nomatch z)⟩ trivial
  refine ⟨n, _, h1, h2, h3, hpost _ _ _ _ _ _ ⟨Cond.after_iff.mpr rfl, Cond.after_iff.mpr (eq_i res_at (Term.int_eval (1)) rfl), trivial⟩ ⟨hq.1, hq.2.1, hq.2.2.1, (hq.2.2.2.sift fun y hy => Or.inr (N y hy)).mono (by decide) (by decide)⟩⟩
theorem main_1_1 : Claimed_1_1 := comes_1 fun _ _ _ _ _ _ h hF => ⟨h.1, hF⟩
theorem main_1_2 : Claimed_1_2 := comes_1 fun _ _ _ _ _ _ h hF => ⟨h.2.1, hF⟩
end Jvm.Pilot.@@N@@
namespace Jvm.Pilot.@@N@@
open Jvm Jvm.ClassFile Sem Op Lib Jvm.Free Jvm.Stand Jvm.Pilot.@@N@@.Jvm.D
/-! MADE BY PROGRAM (witnessworld.py) out of the Statement's table words and the real class files: 27 classes; the members and pool entries that the words name. The judged class is class 1, her method 1. -/
namespace start1
open Jvm.ClassFile
def u (s : String) : CpInfo := .utf8 (stringToUtf16 s)
/-- a pool by its gaps: so many unusable entries, then the entry; so many at the end -/
def gap : Nat → List CpInfo → List CpInfo
  | 0, r => r
  | n + 1, r => .unusable :: gap n r
def poolList (es : List (Nat × CpInfo)) (last : Nat) : List CpInfo := es.foldr (fun e r => gap e.1 (e.2 :: r)) (gap last [])
def pool (es : List (Nat × CpInfo)) (last : Nat) : Array CpInfo := ⟨poolList es last⟩
def fileOf (pool : Array CpInfo) (this : Nat) (attrs : Array Attribute := #[]) (ms : Array MethodInfo := #[]) (fl : Nat := 33) (sup : Nat := 0) (ifs : Array Nat := #[]) (fds : Array FieldInfo := #[]) : ClassFile where
  minorVersion := 0
  majorVersion := 65
  constantPool := pool
  accessFlags := fl
  thisClass := this
  superClass := sup
  interfaces := ifs
  fields := fds
  methods := ms
  attributes := attrs
def plain (name : String) (sup : Option ClassId) : Class where
  name := name
  kind := .ordinary
  loader := none
  accessFlags := 33
  super := sup
  interfaces := #[]
  cf := none
  fields := #[]
  methods := #[]
  instanceTypes := #[]
  staticTypes := #[]
  resolved := #[]
  callSites := []
  init := .initialized
  statics := none
  mirror := none

def pool0 : Array CpInfo := pool [(5, u "<init>"), (0, u "()V"), (1, .class_ 10), (1, u "java/lang/Object")] 113

def k0c0 : Code := { maxStack := 0, maxLocals := 1, code := object_method_1_code, exceptionTable := #[], attributes := #[] }
def k0m0 : Method := { name := "<init>", desc := "()V", sig := { parameters := [], returnType := none }, accessFlags := 1, code := some k0c0 }
/-- java/lang/Object -/
def k0 : Class := { plain "java/lang/Object" none with
  accessFlags := 33
  interfaces := #[]
  cf := some (fileOf pool0 8 #[] #[{ accessFlags := 1, nameIndex := 5, descriptorIndex := 6, attributes := #[] }] 33 0 #[] #[])
  fields := #[]
  methods := #[k0m0]
  instanceTypes := #[]
  staticTypes := #[]
  resolved := Array.replicate 124 none
  statics := none }

def pool1 : Array CpInfo := pool [(2, .class_ 4), (1, u "java/lang/Object"), (0, u "<init>"), (0, u "()V"), (0, .methodref 8 9), (0, .class_ 10), (0, .nameAndType 11 12), (0, u "candorpay/OptionSynopsisPinLaw"), (0, u "make"), (0, u "(ICCC)Ljava/lang/String;"), (0, .methodref 14 15), (0, .class_ 16), (0, .nameAndType 17 18), (0, u "java/lang/String"), (0, u "valueOf"), (0, u "(C)Ljava/lang/String;"), (0, .class_ 20), (0, u "candorpay/Command$Option"), (0, .methodref 19 22), (0, .nameAndType 5 23), (0, u "(Ljava/lang/String;Ljava/lang/String;Ljava/lang/String;Z)V"), (0, .methodref 19 25), (0, .nameAndType 26 27), (0, u "synopsis"), (0, u "()Ljava/lang/String;"), (0, .methodref 14 29), (0, .nameAndType 30 31), (0, u "length"), (0, u "()I"), (0, .methodref 14 33), (0, .nameAndType 34 35), (0, u "charAt"), (0, u "(I)C"), (0, .methodref 14 37), (0, .nameAndType 5 38), (0, u "([C)V"), (2, u "law"), (0, u "(III)Z")] 7

def k1m0 : Method := { name := "<init>", desc := "()V", sig := { parameters := [], returnType := none }, accessFlags := 1, code := none }
def k1c1 : Code := { maxStack := 7, maxLocals := 18, code := code, exceptionTable := #[], attributes := #[] }
def k1m1 : Method := { name := "law", desc := "(III)Z", sig := { parameters := [.int, .int, .int], returnType := some .boolean }, accessFlags := 9, code := some k1c1 }
def k1c2 : Code := { maxStack := 6, maxLocals := 4, code := method_3_code, exceptionTable := #[], attributes := #[] }
def k1m2 : Method := { name := "make", desc := "(ICCC)Ljava/lang/String;", sig := { parameters := [.int, .char, .char, .char], returnType := some (.object "java/lang/String") }, accessFlags := 10, code := some k1c2 }
/-- candorpay/OptionSynopsisPinLaw -/
def k1 : Class := { plain "candorpay/OptionSynopsisPinLaw" (some 0) with
  accessFlags := 49
  interfaces := #[]
  cf := some (fileOf pool1 8 #[] #[{ accessFlags := 1, nameIndex := 5, descriptorIndex := 6, attributes := #[] }, { accessFlags := 9, nameIndex := 41, descriptorIndex := 42, attributes := #[] }, { accessFlags := 10, nameIndex := 11, descriptorIndex := 12, attributes := #[] }] 49 2 #[] #[])
  fields := #[]
  methods := #[k1m0, k1m1, k1m2]
  instanceTypes := #[]
  staticTypes := #[]
  resolved := Array.replicate 50 none
  statics := none }

def pool2 : Array CpInfo := pool [(1, .class_ 2), (0, u "java/io/Serializable"), (0, .class_ 4), (0, u "java/lang/Object")] 2

/-- java/io/Serializable -/
def k2 : Class := { plain "java/io/Serializable" (some 0) with
  accessFlags := 1537
  interfaces := #[]
  cf := some (fileOf pool2 1 #[] #[] 1537 3 #[] #[])
  fields := #[]
  methods := #[]
  instanceTypes := #[]
  staticTypes := #[]
  resolved := Array.replicate 7 none
  statics := none }

def pool3 : Array CpInfo := pool [(1, .class_ 2), (0, u "java/lang/Comparable"), (0, .class_ 4), (0, u "java/lang/Object")] 7

/-- java/lang/Comparable -/
def k3 : Class := { plain "java/lang/Comparable" (some 0) with
  accessFlags := 1537
  interfaces := #[]
  cf := some (fileOf pool3 1 #[] #[] 1537 3 #[] #[])
  fields := #[]
  methods := #[]
  instanceTypes := #[]
  staticTypes := #[]
  resolved := Array.replicate 12 none
  statics := none }

def pool4 : Array CpInfo := pool [(2, .class_ 4), (1, u "java/lang/CharSequence"), (42, .class_ 48), (0, u "java/lang/CharSequence$1CodePointIterator"), (10, .class_ 60), (0, u "java/lang/CharSequence$1CharIterator"), (5, .class_ 67), (0, u "java/lang/Object")] 63

/-- java/lang/CharSequence -/
def k4 : Class := { plain "java/lang/CharSequence" (some 0) with
  accessFlags := 1537
  interfaces := #[]
  cf := some (fileOf pool4 2 #[.nestMembers #[47, 59]] #[] 1537 66 #[] #[])
  fields := #[]
  methods := #[]
  instanceTypes := #[]
  staticTypes := #[]
  resolved := Array.replicate 131 none
  statics := none }

def pool5 : Array CpInfo := pool [(1, .class_ 2), (0, u "java/lang/constant/Constable"), (0, .class_ 4), (0, u "java/lang/Object")] 6

/-- java/lang/constant/Constable -/
def k5 : Class := { plain "java/lang/constant/Constable" (some 0) with
  accessFlags := 1537
  interfaces := #[]
  cf := some (fileOf pool5 1 #[] #[] 1537 3 #[] #[])
  fields := #[]
  methods := #[]
  instanceTypes := #[]
  staticTypes := #[]
  resolved := Array.replicate 11 none
  statics := none }

def pool6 : Array CpInfo := pool [(1, .class_ 2), (0, u "java/lang/constant/ConstantDesc"), (0, .class_ 4), (0, u "java/lang/Object")] 32

/-- java/lang/constant/ConstantDesc -/
def k6 : Class := { plain "java/lang/constant/ConstantDesc" (some 0) with
  accessFlags := 1537
  interfaces := #[]
  cf := some (fileOf pool6 1 #[] #[] 1537 3 #[] #[])
  fields := #[]
  methods := #[]
  instanceTypes := #[]
  staticTypes := #[]
  resolved := Array.replicate 37 none
  statics := none }

def pool7 : Array CpInfo := pool [(1, .methodref 2 3), (0, .class_ 4), (0, .nameAndType 5 6), (0, u "java/lang/Object"), (0, u "<init>"), (0, u "()V"), (0, .string 8), (0, u ""), (0, .fieldref 10 11), (0, .class_ 12), (0, .nameAndType 13 14), (0, u "java/lang/String"), (0, u "value"), (0, u "[B"), (0, .fieldref 10 16), (0, .nameAndType 17 18), (0, u "coder"), (0, u "B"), (2, u "hash"), (0, u "I"), (2, u "hashIsZero"), (0, u "Z"), (0, .methodref 10 28), (0, .nameAndType 5 29), (0, u "([CIILjava/lang/Void;)V"), (8, .fieldref 10 39), (0, .nameAndType 40 26), (0, u "COMPACT_STRINGS"), (1, .class_ 44), (1, u "java/lang/StringUTF16"), (0, u "compress"), (1, .methodref 42 48), (0, .nameAndType 49 50), (0, u "coderFromArrayLen"), (0, u "([BI)B"), (2, u "toBytes"), (0, .methodref 55 56), (0, .class_ 57), (0, .nameAndType 58 59), (0, u "java/util/Arrays"), (0, u "copyOfRange"), (0, u "([BII)[B"), (47, .class_ 109), (1, u "java/lang/StringLatin1"), (32, u "()Z"), (34, .methodref 42 178), (0, .nameAndType 45 179), (0, u "([CII)[B"), (13, .class_ 195), (1, u "java/lang/System"), (13, .methodref 10 210), (0, .nameAndType 5 211), (0, u "([BB)V"), (0, .methodref 193 213), (0, .nameAndType 214 215), (0, u "arraycopy"), (0, u "(Ljava/lang/Object;ILjava/lang/Object;II)V"), (118, u "()I"), (0, .methodref 10 336), (0, .nameAndType 17 337), (0, u "()B"), (2, u "()[B"), (22, u "([BI)C"), (5, u "(C)Z"), (21, u "(II)V"), (35, u "(I)C"), (61, .methodref 10 490), (0, .nameAndType 5 491), (0, u "(Ljava/lang/AbstractStringBuilder;Ljava/lang/Void;)V"), (0, .methodref 10 493), (0, .nameAndType 494 142), (0, u "isLatin1"), (0, .methodref 107 496), (0, .nameAndType 497 363), (0, u "charAt"), (3, u "checkIndex"), (4, .nameAndType 507 334), (0, u "length"), (24, u "getBytes"), (16, .methodref 550 506), (0, .class_ 551), (0, u "java/lang/AbstractStringBuilder"), (0, .methodref 550 553), (0, .nameAndType 554 340), (0, u "getValue"), (20, .class_ 576), (0, u "java/lang/CharSequence"), (22, u "CASE_INSENSITIVE_ORDER"), (0, u "Ljava/util/Comparator;"), (181, u "valueOf"), (0, u "(C)Ljava/lang/String;"), (37, u "([BIB)V"), (188, u "([C)V"), (4, .methodref 107 1016), (0, .nameAndType 1017 369), (0, u "canEncode"), (0, .methodref 107 1019), (0, .nameAndType 53 1020), (0, u "(C)[B"), (26, .methodref 550 493), (5, .fieldref 1054 1055), (0, .class_ 1056), (0, .nameAndType 1057 1058), (0, u "jdk/internal/util/Preconditions"), (0, u "SIOOBE_FORMATTER"), (0, u "Ljava/util/function/BiFunction;"), (0, .methodref 1054 1060), (0, .nameAndType 501 1061), (0, u "(IILjava/util/function/BiFunction;)I"), (39, u "serialPersistentFields"), (0, u "[Ljava/io/ObjectStreamField;"), (0, .class_ 1104), (0, u "java/lang/String$CaseInsensitiveComparator"), (1, .class_ 1107), (0, u "java/io/Serializable"), (0, .class_ 1109), (0, u "java/lang/Comparable"), (0, .class_ 1111), (0, u "java/lang/constant/Constable"), (0, .class_ 1113), (0, u "java/lang/constant/ConstantDesc"), (2, u "serialVersionUID"), (0, u "J"), (3, u "REPL"), (0, u "C"), (2, u "LATIN1"), (1, u "UTF16"), (105, u "(Ljava/lang/StringBuilder;)V")] 217

def k7m0 : Method := { name := "<init>", desc := "()V", sig := { parameters := [], returnType := none }, accessFlags := 1, code := none }
def k7c1 : Code := { maxStack := 5, maxLocals := 2, code := jdk_42_method_3_code, exceptionTable := #[], attributes := #[] }
def k7m1 : Method := { name := "<init>", desc := "([C)V", sig := { parameters := [(.array .char)], returnType := none }, accessFlags := 1, code := some k7c1 }
def k7c2 : Code := { maxStack := 3, maxLocals := 2, code := jdk_42_method_53_code, exceptionTable := #[], attributes := #[] }
def k7m2 : Method := { name := "<init>", desc := "(Ljava/lang/StringBuilder;)V", sig := { parameters := [(.object "java/lang/StringBuilder")], returnType := none }, accessFlags := 1, code := some k7c2 }
def k7c3 : Code := { maxStack := 2, maxLocals := 1, code := jdk_42_method_54_code, exceptionTable := #[], attributes := #[] }
def k7m3 : Method := { name := "length", desc := "()I", sig := { parameters := [], returnType := some .int }, accessFlags := 1, code := some k7c3 }
def k7c4 : Code := { maxStack := 2, maxLocals := 2, code := jdk_42_method_56_code, exceptionTable := #[], attributes := #[] }
def k7m4 : Method := { name := "charAt", desc := "(I)C", sig := { parameters := [.int], returnType := some .char }, accessFlags := 1, code := some k7c4 }
def k7c5 : Code := { maxStack := 4, maxLocals := 1, code := jdk_42_method_139_code, exceptionTable := #[], attributes := #[] }
def k7m5 : Method := { name := "valueOf", desc := "(C)Ljava/lang/String;", sig := { parameters := [.char], returnType := some (.object "java/lang/String") }, accessFlags := 9, code := some k7c5 }
def k7c6 : Code := { maxStack := 5, maxLocals := 4, code := jdk_42_method_147_code, exceptionTable := #[], attributes := #[] }
def k7m6 : Method := { name := "getBytes", desc := "([BIB)V", sig := { parameters := [(.array .byte), .int, .byte], returnType := none }, accessFlags := 0, code := some k7c6 }
def k7c7 : Code := { maxStack := 4, maxLocals := 6, code := jdk_42_method_149_code, exceptionTable := #[], attributes := #[] }
def k7m7 : Method := { name := "<init>", desc := "([CIILjava/lang/Void;)V", sig := { parameters := [(.array .char), .int, .int, (.object "java/lang/Void")], returnType := none }, accessFlags := 2, code := some k7c7 }
def k7c8 : Code := { maxStack := 5, maxLocals := 5, code := jdk_42_method_150_code, exceptionTable := #[], attributes := #[] }
def k7m8 : Method := { name := "<init>", desc := "(Ljava/lang/AbstractStringBuilder;Ljava/lang/Void;)V", sig := { parameters := [(.object "java/lang/AbstractStringBuilder"), (.object "java/lang/Void")], returnType := none }, accessFlags := 0, code := some k7c8 }
def k7c9 : Code := { maxStack := 2, maxLocals := 3, code := jdk_42_method_151_code, exceptionTable := #[], attributes := #[] }
def k7m9 : Method := { name := "<init>", desc := "([BB)V", sig := { parameters := [(.array .byte), .byte], returnType := none }, accessFlags := 0, code := some k7c9 }
def k7c10 : Code := { maxStack := 1, maxLocals := 1, code := jdk_42_method_152_code, exceptionTable := #[], attributes := #[] }
def k7m10 : Method := { name := "coder", desc := "()B", sig := { parameters := [], returnType := some .byte }, accessFlags := 0, code := some k7c10 }
def k7c11 : Code := { maxStack := 1, maxLocals := 1, code := jdk_42_method_154_code, exceptionTable := #[], attributes := #[] }
def k7m11 : Method := { name := "isLatin1", desc := "()Z", sig := { parameters := [], returnType := some .boolean }, accessFlags := 0, code := some k7c11 }
def k7c12 : Code := { maxStack := 3, maxLocals := 2, code := jdk_42_method_155_code, exceptionTable := #[], attributes := #[] }
def k7m12 : Method := { name := "checkIndex", desc := "(II)V", sig := { parameters := [.int, .int], returnType := none }, accessFlags := 8, code := some k7c12 }
/-- java/lang/String -/
def k7 : Class := { plain "java/lang/String" (some 0) with
  accessFlags := 49
  interfaces := #[2, 3, 4, 5, 6]
  cf := some (fileOf pool7 10 #[.nestMembers #[1103]] #[{ accessFlags := 1, nameIndex := 5, descriptorIndex := 6, attributes := #[] }, { accessFlags := 1, nameIndex := 5, descriptorIndex := 1010, attributes := #[] }, { accessFlags := 1, nameIndex := 5, descriptorIndex := 1233, attributes := #[] }, { accessFlags := 1, nameIndex := 507, descriptorIndex := 334, attributes := #[] }, { accessFlags := 1, nameIndex := 497, descriptorIndex := 427, attributes := #[] }, { accessFlags := 9, nameIndex := 782, descriptorIndex := 783, attributes := #[] }, { accessFlags := 0, nameIndex := 532, descriptorIndex := 821, attributes := #[] }, { accessFlags := 2, nameIndex := 5, descriptorIndex := 29, attributes := #[] }, { accessFlags := 0, nameIndex := 5, descriptorIndex := 491, attributes := #[] }, { accessFlags := 0, nameIndex := 5, descriptorIndex := 211, attributes := #[] }, { accessFlags := 0, nameIndex := 17, descriptorIndex := 337, attributes := #[] }, { accessFlags := 0, nameIndex := 494, descriptorIndex := 142, attributes := #[] }, { accessFlags := 8, nameIndex := 501, descriptorIndex := 391, attributes := #[] }] 49 2 #[1106, 1108, 575, 1110, 1112] #[{ accessFlags := 18, nameIndex := 13, descriptorIndex := 14, attributes := #[] }, { accessFlags := 18, nameIndex := 17, descriptorIndex := 18, attributes := #[] }, { accessFlags := 2, nameIndex := 21, descriptorIndex := 22, attributes := #[] }, { accessFlags := 2, nameIndex := 25, descriptorIndex := 26, attributes := #[] }, { accessFlags := 26, nameIndex := 1116, descriptorIndex := 1117, attributes := #[] }, { accessFlags := 24, nameIndex := 40, descriptorIndex := 26, attributes := #[] }, { accessFlags := 26, nameIndex := 1101, descriptorIndex := 1102, attributes := #[] }, { accessFlags := 26, nameIndex := 1121, descriptorIndex := 1122, attributes := #[] }, { accessFlags := 25, nameIndex := 599, descriptorIndex := 600, attributes := #[] }, { accessFlags := 24, nameIndex := 1125, descriptorIndex := 18, attributes := #[] }, { accessFlags := 24, nameIndex := 1127, descriptorIndex := 18, attributes := #[] }])
  fields := #[{ name := "value", type := (.array .byte), accessFlags := 18, slot := 0, constantValue := 0 }, { name := "coder", type := .byte, accessFlags := 18, slot := 1, constantValue := 0 }, { name := "hash", type := .int, accessFlags := 2, slot := 2, constantValue := 0 }, { name := "hashIsZero", type := .boolean, accessFlags := 2, slot := 3, constantValue := 0 }, { name := "serialVersionUID", type := .long, accessFlags := 26, slot := 0, constantValue := 0 }, { name := "COMPACT_STRINGS", type := .boolean, accessFlags := 24, slot := 1, constantValue := 0 }, { name := "serialPersistentFields", type := (.array (.object "java/io/ObjectStreamField")), accessFlags := 26, slot := 2, constantValue := 0 }, { name := "REPL", type := .char, accessFlags := 26, slot := 3, constantValue := 0 }, { name := "CASE_INSENSITIVE_ORDER", type := (.object "java/util/Comparator"), accessFlags := 25, slot := 4, constantValue := 0 }, { name := "LATIN1", type := .byte, accessFlags := 24, slot := 5, constantValue := 0 }, { name := "UTF16", type := .byte, accessFlags := 24, slot := 6, constantValue := 0 }]
  methods := #[k7m0, k7m1, k7m2, k7m3, k7m4, k7m5, k7m6, k7m7, k7m8, k7m9, k7m10, k7m11, k7m12]
  instanceTypes := #[(.array .byte), .byte, .int, .boolean]
  staticTypes := #[.long, .boolean, (.array (.object "java/io/ObjectStreamField")), .char, (.object "java/util/Comparator"), .byte, .byte]
  resolved := Array.replicate 1451 none
  statics := some 0 }

def pool8 : Array CpInfo := pool [(6, .class_ 8), (1, u "java/lang/Object"), (0, u "<init>"), (0, u "()V"), (1, .class_ 14), (1, u "java/lang/StringUTF16"), (31, u "$assertionsDisabled"), (0, u "Z"), (13, u "HI_BYTE_SHIFT"), (0, u "I"), (2, u "LO_BYTE_SHIFT"), (49, .methodref 12 116), (0, .nameAndType 117 118), (0, u "compress"), (0, u "([CI[BII)I"), (3, u "([CII)[B"), (138, u "coderFromArrayLen"), (0, u "([BI)B"), (106, .class_ 371), (1, u "java/lang/StringUTF16$LinesSpliterator"), (58, u "MAX_LENGTH"), (196, .class_ 628), (0, u "java/lang/StringUTF16$CodePointsSpliterator"), (0, .class_ 630), (0, u "java/lang/StringUTF16$CharsSpliterator")] 4

def k8m0 : Method := { name := "<init>", desc := "()V", sig := { parameters := [], returnType := none }, accessFlags := 0, code := none }
def k8c1 : Code := { maxStack := 2, maxLocals := 2, code := jdk_52_method_15_code, exceptionTable := #[], attributes := #[] }
def k8m1 : Method := { name := "coderFromArrayLen", desc := "([BI)B", sig := { parameters := [(.array .byte), .int], returnType := some .byte }, accessFlags := 8, code := some k8c1 }
def k8c2 : Code := { maxStack := 5, maxLocals := 6, code := jdk_52_method_16_code, exceptionTable := #[], attributes := #[] }
def k8m2 : Method := { name := "compress", desc := "([CII)[B", sig := { parameters := [(.array .char), .int, .int], returnType := some (.array .byte) }, accessFlags := 9, code := some k8c2 }
def k8c3 : Code := { maxStack := 3, maxLocals := 7, code := jdk_52_method_21_code, exceptionTable := #[], attributes := #[] }
def k8m3 : Method := { name := "compress", desc := "([CI[BII)I", sig := { parameters := [(.array .char), .int, (.array .byte), .int, .int], returnType := some .int }, accessFlags := 9, code := some k8c3 }
/-- java/lang/StringUTF16 -/
def k8 : Class := { plain "java/lang/StringUTF16" (some 0) with
  accessFlags := 48
  interfaces := #[]
  cf := some (fileOf pool8 12 #[.nestMembers #[627, 629, 369]] #[{ accessFlags := 0, nameIndex := 9, descriptorIndex := 10, attributes := #[] }, { accessFlags := 8, nameIndex := 261, descriptorIndex := 262, attributes := #[] }, { accessFlags := 9, nameIndex := 117, descriptorIndex := 122, attributes := #[] }, { accessFlags := 9, nameIndex := 117, descriptorIndex := 118, attributes := #[] }] 48 6 #[] #[{ accessFlags := 26, nameIndex := 61, descriptorIndex := 62, attributes := #[] }, { accessFlags := 26, nameIndex := 65, descriptorIndex := 62, attributes := #[] }, { accessFlags := 24, nameIndex := 430, descriptorIndex := 62, attributes := #[] }, { accessFlags := 4120, nameIndex := 46, descriptorIndex := 47, attributes := #[] }])
  fields := #[{ name := "HI_BYTE_SHIFT", type := .int, accessFlags := 26, slot := 0, constantValue := 0 }, { name := "LO_BYTE_SHIFT", type := .int, accessFlags := 26, slot := 1, constantValue := 0 }, { name := "MAX_LENGTH", type := .int, accessFlags := 24, slot := 2, constantValue := 0 }, { name := "$assertionsDisabled", type := .boolean, accessFlags := 4120, slot := 3, constantValue := 0 }]
  methods := #[k8m0, k8m1, k8m2, k8m3]
  instanceTypes := #[]
  staticTypes := #[.int, .int, .int, .boolean]
  resolved := Array.replicate 635 none
  statics := none }

def pool9 : Array CpInfo := pool [(1, .class_ 2), (0, u "java/lang/String"), (1, .class_ 6), (1, u "java/lang/Object"), (0, u "<init>"), (0, u "()V"), (0, .methodref 1 10), (0, .nameAndType 11 12), (0, u "checkIndex"), (0, u "(II)V"), (1, .class_ 16), (1, u "java/lang/StringLatin1"), (36, u "([BI)C"), (36, u "canEncode"), (14, u "(C)Z"), (15, u "$assertionsDisabled"), (0, u "Z"), (98, .class_ 223), (1, u "java/lang/StringLatin1$LinesSpliterator"), (28, u "charAt"), (127, u "toBytes"), (1, u "(C)[B"), (7, .class_ 391), (0, u "java/lang/StringLatin1$CharsSpliterator")] 3

def k9m0 : Method := { name := "<init>", desc := "()V", sig := { parameters := [], returnType := none }, accessFlags := 0, code := none }
def k9c1 : Code := { maxStack := 2, maxLocals := 2, code := jdk_43_method_2_code, exceptionTable := #[], attributes := #[] }
def k9m1 : Method := { name := "charAt", desc := "([BI)C", sig := { parameters := [(.array .byte), .int], returnType := some .char }, accessFlags := 9, code := some k9c1 }
def k9c2 : Code := { maxStack := 2, maxLocals := 1, code := jdk_43_method_3_code, exceptionTable := #[], attributes := #[] }
def k9m2 : Method := { name := "canEncode", desc := "(C)Z", sig := { parameters := [.char], returnType := some .boolean }, accessFlags := 9, code := some k9c2 }
def k9c3 : Code := { maxStack := 4, maxLocals := 1, code := jdk_43_method_46_code, exceptionTable := #[], attributes := #[] }
def k9m3 : Method := { name := "toBytes", desc := "(C)[B", sig := { parameters := [.char], returnType := some (.array .byte) }, accessFlags := 9, code := some k9c3 }
/-- java/lang/StringLatin1 -/
def k9 : Class := { plain "java/lang/StringLatin1" (some 0) with
  accessFlags := 48
  interfaces := #[]
  cf := some (fileOf pool9 14 #[.nestMembers #[390, 221]] #[{ accessFlags := 0, nameIndex := 7, descriptorIndex := 8, attributes := #[] }, { accessFlags := 9, nameIndex := 252, descriptorIndex := 53, attributes := #[] }, { accessFlags := 9, nameIndex := 90, descriptorIndex := 105, attributes := #[] }, { accessFlags := 9, nameIndex := 380, descriptorIndex := 382, attributes := #[] }] 48 4 #[] #[{ accessFlags := 4120, nameIndex := 121, descriptorIndex := 122, attributes := #[] }])
  fields := #[{ name := "$assertionsDisabled", type := .boolean, accessFlags := 4120, slot := 0, constantValue := 0 }]
  methods := #[k9m0, k9m1, k9m2, k9m3]
  instanceTypes := #[]
  staticTypes := #[.boolean]
  resolved := Array.replicate 395 none
  statics := none }

def pool10 : Array CpInfo := pool [(1, .methodref 2 3), (0, .class_ 4), (0, .nameAndType 5 6), (0, u "java/lang/Object"), (0, u "<init>"), (0, u "()V"), (0, .class_ 8), (0, u "java/lang/Record")] 13

def k10c0 : Code := { maxStack := 1, maxLocals := 1, code := jdk_30_method_1_code, exceptionTable := #[], attributes := #[] }
def k10m0 : Method := { name := "<init>", desc := "()V", sig := { parameters := [], returnType := none }, accessFlags := 4, code := some k10c0 }
/-- java/lang/Record -/
def k10 : Class := { plain "java/lang/Record" (some 0) with
  accessFlags := 1057
  interfaces := #[]
  cf := some (fileOf pool10 7 #[] #[{ accessFlags := 4, nameIndex := 5, descriptorIndex := 6, attributes := #[] }] 1057 2 #[] #[])
  fields := #[]
  methods := #[k10m0]
  instanceTypes := #[]
  staticTypes := #[]
  resolved := Array.replicate 22 none
  statics := none }

def pool11 : Array CpInfo := pool [(1, .methodref 2 3), (0, .class_ 4), (0, .nameAndType 5 6), (0, u "java/lang/Record"), (0, u "<init>"), (0, u "()V"), (0, .fieldref 8 9), (0, .class_ 10), (0, .nameAndType 11 12), (0, u "candorpay/Command$Option"), (0, u "name"), (0, u "Ljava/lang/String;"), (0, .fieldref 8 14), (0, .nameAndType 15 12), (0, u "value"), (0, .fieldref 8 17), (0, .nameAndType 18 12), (0, u "summary"), (0, .fieldref 8 20), (0, .nameAndType 21 22), (0, u "required"), (0, u "Z"), (2, u "(Ljava/lang/String;Ljava/lang/String;Ljava/lang/String;Z)V"), (0, .class_ 27), (0, u "java/lang/StringBuilder"), (0, .methodref 26 3), (0, .methodref 26 30), (0, .nameAndType 31 32), (0, u "append"), (0, u "(Ljava/lang/String;)Ljava/lang/StringBuilder;"), (0, .string 34), (0, u " "), (0, .methodref 26 36), (0, .nameAndType 37 38), (0, u "toString"), (0, u "()Ljava/lang/String;"), (15, u "synopsis"), (6, .class_ 62), (0, u "candorpay/Command")] 22

def k11c0 : Code := { maxStack := 2, maxLocals := 5, code := prog_5_method_2_code, exceptionTable := #[], attributes := #[] }
def k11m0 : Method := { name := "<init>", desc := "(Ljava/lang/String;Ljava/lang/String;Ljava/lang/String;Z)V", sig := { parameters := [(.object "java/lang/String"), (.object "java/lang/String"), (.object "java/lang/String"), .boolean], returnType := none }, accessFlags := 0, code := some k11c0 }
def k11c1 : Code := { maxStack := 2, maxLocals := 1, code := prog_5_method_3_code, exceptionTable := #[], attributes := #[] }
def k11m1 : Method := { name := "synopsis", desc := "()Ljava/lang/String;", sig := { parameters := [], returnType := some (.object "java/lang/String") }, accessFlags := 0, code := some k11c1 }
/-- candorpay/Command$Option -/
def k11 : Class := { plain "candorpay/Command$Option" (some 10) with
  accessFlags := 48
  interfaces := #[]
  cf := some (fileOf pool11 8 #[.nestHost 61] #[{ accessFlags := 0, nameIndex := 5, descriptorIndex := 25, attributes := #[] }, { accessFlags := 0, nameIndex := 54, descriptorIndex := 38, attributes := #[] }] 48 2 #[] #[{ accessFlags := 18, nameIndex := 11, descriptorIndex := 12, attributes := #[] }, { accessFlags := 18, nameIndex := 15, descriptorIndex := 12, attributes := #[] }, { accessFlags := 18, nameIndex := 18, descriptorIndex := 12, attributes := #[] }, { accessFlags := 18, nameIndex := 21, descriptorIndex := 22, attributes := #[] }])
  fields := #[{ name := "name", type := (.object "java/lang/String"), accessFlags := 18, slot := 0, constantValue := 0 }, { name := "value", type := (.object "java/lang/String"), accessFlags := 18, slot := 1, constantValue := 0 }, { name := "summary", type := (.object "java/lang/String"), accessFlags := 18, slot := 2, constantValue := 0 }, { name := "required", type := .boolean, accessFlags := 18, slot := 3, constantValue := 0 }]
  methods := #[k11m0, k11m1]
  instanceTypes := #[(.object "java/lang/String"), (.object "java/lang/String"), (.object "java/lang/String"), .boolean]
  staticTypes := #[]
  resolved := Array.replicate 85 none
  statics := none }

def pool12 : Array CpInfo := pool [(1, .class_ 2), (0, u "java/lang/Appendable"), (0, .class_ 4), (0, u "java/lang/Object")] 9

/-- java/lang/Appendable -/
def k12 : Class := { plain "java/lang/Appendable" (some 0) with
  accessFlags := 1537
  interfaces := #[]
  cf := some (fileOf pool12 1 #[] #[] 1537 3 #[] #[])
  fields := #[]
  methods := #[]
  instanceTypes := #[]
  staticTypes := #[]
  resolved := Array.replicate 14 none
  statics := none }

def pool13 : Array CpInfo := pool [(1, .class_ 2), (0, u "java/lang/String"), (0, .methodref 4 5), (0, .class_ 6), (0, .nameAndType 7 8), (0, u "java/lang/Object"), (0, u "<init>"), (0, u "()V"), (1, .class_ 12), (1, u "java/lang/AbstractStringBuilder"), (0, u "EMPTYVALUE"), (0, u "[B"), (0, .fieldref 10 16), (0, .nameAndType 17 14), (0, u "value"), (0, .fieldref 1 19), (0, .nameAndType 20 21), (0, u "COMPACT_STRINGS"), (0, u "Z"), (0, .fieldref 10 23), (0, .nameAndType 24 25), (0, u "coder"), (0, u "B"), (6, .methodref 1 33), (0, .nameAndType 34 35), (0, u "length"), (0, u "()I"), (4, .methodref 1 41), (0, .nameAndType 24 42), (0, u "()B"), (2, u "append"), (0, u "(Ljava/lang/String;)Ljava/lang/AbstractStringBuilder;"), (1, .class_ 49), (0, u "java/lang/CharSequence"), (19, u "(Ljava/lang/String;)V"), (5, u "maybeLatin1"), (3, .fieldref 10 80), (0, .nameAndType 81 82), (0, u "count"), (0, u "I"), (2, u "isLatin1"), (0, u "()Z"), (13, .methodref 10 101), (0, .nameAndType 102 103), (0, u "ensureCapacityInternal"), (0, u "(I)V"), (104, .methodref 10 209), (0, .nameAndType 210 211), (0, u "putStringAt"), (0, u "(ILjava/lang/String;)V"), (5, u "inflateIfNeededFor"), (2, .nameAndType 221 222), (0, u "getBytes"), (0, u "([BIB)V"), (174, .methodref 10 398), (0, .nameAndType 217 69), (0, .methodref 1 220), (3, u "()[B"), (40, .class_ 445), (0, u "java/lang/Appendable"), (106, u "getValue")] 56

def k13m0 : Method := { name := "<init>", desc := "()V", sig := { parameters := [], returnType := none }, accessFlags := 0, code := none }
def k13c1 : Code := { maxStack := 2, maxLocals := 2, code := jdk_68_method_2_code, exceptionTable := #[], attributes := #[] }
def k13m1 : Method := { name := "<init>", desc := "(I)V", sig := { parameters := [.int], returnType := none }, accessFlags := 0, code := some k13c1 }
def k13c2 : Code := { maxStack := 1, maxLocals := 1, code := jdk_68_method_6_code, exceptionTable := #[], attributes := #[] }
def k13m2 : Method := { name := "length", desc := "()I", sig := { parameters := [], returnType := some .int }, accessFlags := 1, code := some k13c2 }
def k13c3 : Code := { maxStack := 4, maxLocals := 3, code := jdk_68_method_9_code, exceptionTable := #[], attributes := #[] }
def k13m3 : Method := { name := "ensureCapacityInternal", desc := "(I)V", sig := { parameters := [.int], returnType := none }, accessFlags := 2, code := some k13c3 }
def k13c4 : Code := { maxStack := 3, maxLocals := 3, code := jdk_68_method_22_code, exceptionTable := #[], attributes := #[] }
def k13m4 : Method := { name := "append", desc := "(Ljava/lang/String;)Ljava/lang/AbstractStringBuilder;", sig := { parameters := [(.object "java/lang/String")], returnType := some (.object "java/lang/AbstractStringBuilder") }, accessFlags := 1, code := some k13c4 }
def k13c5 : Code := { maxStack := 1, maxLocals := 1, code := jdk_68_method_64_code, exceptionTable := #[], attributes := #[] }
def k13m5 : Method := { name := "getValue", desc := "()[B", sig := { parameters := [], returnType := some (.array .byte) }, accessFlags := 16, code := some k13c5 }
def k13c6 : Code := { maxStack := 1, maxLocals := 1, code := jdk_68_method_68_code, exceptionTable := #[], attributes := #[] }
def k13m6 : Method := { name := "isLatin1", desc := "()Z", sig := { parameters := [], returnType := some .boolean }, accessFlags := 16, code := some k13c6 }
def k13c7 : Code := { maxStack := 2, maxLocals := 2, code := jdk_68_method_71_code, exceptionTable := #[], attributes := #[] }
def k13m7 : Method := { name := "inflateIfNeededFor", desc := "(Ljava/lang/String;)V", sig := { parameters := [(.object "java/lang/String")], returnType := none }, accessFlags := 2, code := some k13c7 }
def k13c8 : Code := { maxStack := 4, maxLocals := 3, code := jdk_68_method_73_code, exceptionTable := #[], attributes := #[] }
def k13m8 : Method := { name := "putStringAt", desc := "(ILjava/lang/String;)V", sig := { parameters := [.int, (.object "java/lang/String")], returnType := none }, accessFlags := 2, code := some k13c8 }
/-- java/lang/AbstractStringBuilder -/
def k13 : Class := { plain "java/lang/AbstractStringBuilder" (some 0) with
  accessFlags := 1056
  interfaces := #[12, 4]
  cf := some (fileOf pool13 10 #[] #[{ accessFlags := 0, nameIndex := 7, descriptorIndex := 8, attributes := #[] }, { accessFlags := 0, nameIndex := 7, descriptorIndex := 103, attributes := #[] }, { accessFlags := 1, nameIndex := 34, descriptorIndex := 35, attributes := #[] }, { accessFlags := 2, nameIndex := 102, descriptorIndex := 103, attributes := #[] }, { accessFlags := 1, nameIndex := 45, descriptorIndex := 46, attributes := #[] }, { accessFlags := 16, nameIndex := 552, descriptorIndex := 403, attributes := #[] }, { accessFlags := 16, nameIndex := 85, descriptorIndex := 86, attributes := #[] }, { accessFlags := 2, nameIndex := 217, descriptorIndex := 69, attributes := #[] }, { accessFlags := 2, nameIndex := 210, descriptorIndex := 211, attributes := #[] }] 1056 4 #[444, 48] #[{ accessFlags := 0, nameIndex := 17, descriptorIndex := 14, attributes := #[] }, { accessFlags := 0, nameIndex := 24, descriptorIndex := 25, attributes := #[] }, { accessFlags := 0, nameIndex := 75, descriptorIndex := 21, attributes := #[] }, { accessFlags := 0, nameIndex := 81, descriptorIndex := 82, attributes := #[] }, { accessFlags := 26, nameIndex := 13, descriptorIndex := 14, attributes := #[] }])
  fields := #[{ name := "value", type := (.array .byte), accessFlags := 0, slot := 0, constantValue := 0 }, { name := "coder", type := .byte, accessFlags := 0, slot := 1, constantValue := 0 }, { name := "maybeLatin1", type := .boolean, accessFlags := 0, slot := 2, constantValue := 0 }, { name := "count", type := .int, accessFlags := 0, slot := 3, constantValue := 0 }, { name := "EMPTYVALUE", type := (.array .byte), accessFlags := 26, slot := 0, constantValue := 0 }]
  methods := #[k13m0, k13m1, k13m2, k13m3, k13m4, k13m5, k13m6, k13m7, k13m8]
  instanceTypes := #[(.array .byte), .byte, .boolean, .int]
  staticTypes := #[(.array .byte)]
  resolved := Array.replicate 609 none
  statics := none }

def pool14 : Array CpInfo := pool [(1, .methodref 2 3), (0, .class_ 4), (0, .nameAndType 5 6), (0, u "java/lang/AbstractStringBuilder"), (0, u "<init>"), (0, u "(I)V"), (11, .class_ 20), (1, u "java/lang/String"), (3, .class_ 26), (1, u "java/lang/StringBuilder"), (0, u "append"), (0, u "(Ljava/lang/String;)Ljava/lang/StringBuilder;"), (0, .methodref 2 30), (0, .nameAndType 27 31), (0, u "(Ljava/lang/String;)Ljava/lang/AbstractStringBuilder;"), (105, .methodref 18 138), (0, .nameAndType 5 139), (0, u "(Ljava/lang/StringBuilder;)V"), (5, u "()V"), (10, u "()I"), (186, .methodref 2 344), (0, .nameAndType 345 156), (0, u "length"), (3, .class_ 350), (0, u "java/lang/Appendable"), (0, .class_ 352), (0, u "java/io/Serializable"), (0, .class_ 354), (0, u "java/lang/Comparable"), (0, .class_ 356), (0, u "java/lang/CharSequence"), (0, u "serialVersionUID"), (0, u "J"), (40, u "toString"), (0, u "()Ljava/lang/String;")] 21

def k14c0 : Code := { maxStack := 2, maxLocals := 1, code := jdk_67_method_1_code, exceptionTable := #[], attributes := #[] }
def k14m0 : Method := { name := "<init>", desc := "()V", sig := { parameters := [], returnType := none }, accessFlags := 1, code := some k14c0 }
def k14c1 : Code := { maxStack := 2, maxLocals := 2, code := jdk_67_method_7_code, exceptionTable := #[], attributes := #[] }
def k14m1 : Method := { name := "append", desc := "(Ljava/lang/String;)Ljava/lang/StringBuilder;", sig := { parameters := [(.object "java/lang/String")], returnType := some (.object "java/lang/StringBuilder") }, accessFlags := 1, code := some k14c1 }
def k14c2 : Code := { maxStack := 3, maxLocals := 1, code := jdk_67_method_42_code, exceptionTable := #[], attributes := #[] }
def k14m2 : Method := { name := "toString", desc := "()Ljava/lang/String;", sig := { parameters := [], returnType := some (.object "java/lang/String") }, accessFlags := 1, code := some k14c2 }
def k14c3 : Code := { maxStack := 1, maxLocals := 1, code := jdk_67_method_93_code, exceptionTable := #[], attributes := #[] }
def k14m3 : Method := { name := "length", desc := "()I", sig := { parameters := [], returnType := some .int }, accessFlags := 4161, code := some k14c3 }
/-- java/lang/StringBuilder -/
def k14 : Class := { plain "java/lang/StringBuilder" (some 13) with
  accessFlags := 49
  interfaces := #[12, 2, 3, 4]
  cf := some (fileOf pool14 24 #[] #[{ accessFlags := 1, nameIndex := 5, descriptorIndex := 145, attributes := #[] }, { accessFlags := 1, nameIndex := 27, descriptorIndex := 28, attributes := #[] }, { accessFlags := 1, nameIndex := 399, descriptorIndex := 400, attributes := #[] }, { accessFlags := 4161, nameIndex := 345, descriptorIndex := 156, attributes := #[] }] 49 2 #[349, 351, 353, 355] #[{ accessFlags := 24, nameIndex := 357, descriptorIndex := 358, attributes := #[] }])
  fields := #[{ name := "serialVersionUID", type := .long, accessFlags := 24, slot := 0, constantValue := 0 }]
  methods := #[k14m0, k14m1, k14m2, k14m3]
  instanceTypes := #[(.array .byte), .byte, .boolean, .int]
  staticTypes := #[.long]
  resolved := Array.replicate 422 none
  statics := none }

def pool15 : Array CpInfo := pool [(2, .class_ 4), (1, u "java/lang/Object"), (0, u "<init>"), (0, u "()V"), (1, .class_ 10), (1, u "java/lang/System"), (0, u "allowSecurityManager"), (0, u "I"), (16, u "cons"), (0, u "Ljava/io/Console;"), (77, .class_ 110), (1, u "java/lang/System$CallersHolder"), (43, u "initialErrStream"), (0, u "Ljava/io/PrintStream;"), (19, u "security"), (0, u "Ljava/lang/SecurityManager;"), (31, .class_ 209), (0, u "java/lang/System$1"), (7, u "props"), (0, u "Ljava/util/Properties;"), (2, u "lineSeparator"), (0, u "Ljava/lang/String;"), (96, .class_ 321), (1, u "java/lang/System$LoggerFinder"), (5, .class_ 328), (0, u "java/lang/System$Logger"), (67, u "err"), (2, u "out"), (91, u "notSupportedJnuEncoding"), (15, u "in"), (17, u "initialIn"), (0, u "Ljava/io/InputStream;"), (35, u "bootLayer"), (0, u "Ljava/lang/ModuleLayer;"), (99, .class_ 664), (0, u "java/lang/System$2"), (9, u "NEVER"), (2, u "MAYBE"), (49, u "arraycopy"), (0, u "(Ljava/lang/Object;ILjava/lang/Object;II)V"), (72, .class_ 802), (0, u "java/lang/System$Logger$Level")] 31

def k15m0 : Method := { name := "<init>", desc := "()V", sig := { parameters := [], returnType := none }, accessFlags := 2, code := none }
def k15m1 : Method := { name := "arraycopy", desc := "(Ljava/lang/Object;ILjava/lang/Object;II)V", sig := { parameters := [(.object "java/lang/Object"), .int, (.object "java/lang/Object"), .int, .int], returnType := none }, accessFlags := 265, code := none }
/-- java/lang/System -/
def k15 : Class := { plain "java/lang/System" (some 0) with
  accessFlags := 49
  interfaces := #[]
  cf := some (fileOf pool15 8 #[.nestMembers #[319, 327, 801, 108, 663, 208]] #[{ accessFlags := 2, nameIndex := 5, descriptorIndex := 6, attributes := #[] }, { accessFlags := 265, nameIndex := 727, descriptorIndex := 728, attributes := #[] }] 49 2 #[] #[{ accessFlags := 25, nameIndex := 507, descriptorIndex := 526, attributes := #[] }, { accessFlags := 25, nameIndex := 399, descriptorIndex := 155, attributes := #[] }, { accessFlags := 25, nameIndex := 396, descriptorIndex := 155, attributes := #[] }, { accessFlags := 10, nameIndex := 525, descriptorIndex := 526, attributes := #[] }, { accessFlags := 26, nameIndex := 674, descriptorIndex := 12, attributes := #[] }, { accessFlags := 26, nameIndex := 677, descriptorIndex := 12, attributes := #[] }, { accessFlags := 10, nameIndex := 11, descriptorIndex := 12, attributes := #[] }, { accessFlags := 74, nameIndex := 175, descriptorIndex := 176, attributes := #[] }, { accessFlags := 10, nameIndex := 491, descriptorIndex := 222, attributes := #[] }, { accessFlags := 74, nameIndex := 29, descriptorIndex := 30, attributes := #[] }, { accessFlags := 74, nameIndex := 154, descriptorIndex := 155, attributes := #[] }, { accessFlags := 10, nameIndex := 217, descriptorIndex := 218, attributes := #[] }, { accessFlags := 10, nameIndex := 221, descriptorIndex := 222, attributes := #[] }, { accessFlags := 8, nameIndex := 562, descriptorIndex := 563, attributes := #[] }])
  fields := #[{ name := "in", type := (.object "java/io/InputStream"), accessFlags := 25, slot := 0, constantValue := 0 }, { name := "out", type := (.object "java/io/PrintStream"), accessFlags := 25, slot := 1, constantValue := 0 }, { name := "err", type := (.object "java/io/PrintStream"), accessFlags := 25, slot := 2, constantValue := 0 }, { name := "initialIn", type := (.object "java/io/InputStream"), accessFlags := 10, slot := 3, constantValue := 0 }, { name := "NEVER", type := .int, accessFlags := 26, slot := 4, constantValue := 0 }, { name := "MAYBE", type := .int, accessFlags := 26, slot := 5, constantValue := 0 }, { name := "allowSecurityManager", type := .int, accessFlags := 10, slot := 6, constantValue := 0 }, { name := "security", type := (.object "java/lang/SecurityManager"), accessFlags := 74, slot := 7, constantValue := 0 }, { name := "notSupportedJnuEncoding", type := (.object "java/lang/String"), accessFlags := 10, slot := 8, constantValue := 0 }, { name := "cons", type := (.object "java/io/Console"), accessFlags := 74, slot := 9, constantValue := 0 }, { name := "initialErrStream", type := (.object "java/io/PrintStream"), accessFlags := 74, slot := 10, constantValue := 0 }, { name := "props", type := (.object "java/util/Properties"), accessFlags := 10, slot := 11, constantValue := 0 }, { name := "lineSeparator", type := (.object "java/lang/String"), accessFlags := 10, slot := 12, constantValue := 0 }, { name := "bootLayer", type := (.object "java/lang/ModuleLayer"), accessFlags := 8, slot := 13, constantValue := 0 }]
  methods := #[k15m0, k15m1]
  instanceTypes := #[]
  staticTypes := #[(.object "java/io/InputStream"), (.object "java/io/PrintStream"), (.object "java/io/PrintStream"), (.object "java/io/InputStream"), .int, .int, .int, (.object "java/lang/SecurityManager"), (.object "java/lang/String"), (.object "java/io/Console"), (.object "java/io/PrintStream"), (.object "java/util/Properties"), (.object "java/lang/String"), (.object "java/lang/ModuleLayer")]
  resolved := Array.replicate 834 none
  statics := none }

def pool16 : Array CpInfo := pool [(2, .class_ 4), (1, u "java/lang/Object"), (0, u "<init>"), (0, u "()V"), (7, .class_ 16), (1, u "java/util/Arrays"), (57, .class_ 76), (1, u "java/util/Arrays$NaturalOrder"), (36, .class_ 115), (1, u "java/util/Arrays$LegacyMergeSort"), (1, u "Z"), (21, u "copyOfRange"), (10, .methodref 151 152), (0, .class_ 153), (0, .nameAndType 154 155), (0, u "java/lang/System"), (0, u "arraycopy"), (0, u "(Ljava/lang/Object;ILjava/lang/Object;II)V"), (148, .methodref 305 306), (0, .class_ 307), (0, .nameAndType 308 309), (0, u "java/lang/Math"), (0, u "min"), (0, u "(II)I"), (29, .methodref 14 340), (0, .nameAndType 341 342), (0, u "copyOfRangeByte"), (0, u "([BII)[B"), (0, .methodref 14 344), (0, .nameAndType 345 346), (0, u "checkLength"), (0, u "(II)V"), (28, .class_ 376), (0, u "java/util/Arrays$ArrayList"), (68, u "$assertionsDisabled"), (269, u "MIN_ARRAY_SORT_GRAN"), (0, u "I"), (2, u "INSERTIONSORT_THRESHOLD"), (255, .class_ 976), (0, u "java/util/Arrays$ArrayItr")] 52

def k16m0 : Method := { name := "<init>", desc := "()V", sig := { parameters := [], returnType := none }, accessFlags := 2, code := none }
def k16c1 : Code := { maxStack := 4, maxLocals := 2, code := jdk_65_method_131_code, exceptionTable := #[], attributes := #[] }
def k16m1 : Method := { name := "checkLength", desc := "(II)V", sig := { parameters := [.int, .int], returnType := none }, accessFlags := 10, code := some k16c1 }
def k16c2 : Code := { maxStack := 3, maxLocals := 3, code := jdk_65_method_132_code, exceptionTable := #[], attributes := #[] }
def k16m2 : Method := { name := "copyOfRange", desc := "([BII)[B", sig := { parameters := [(.array .byte), .int, .int], returnType := some (.array .byte) }, accessFlags := 9, code := some k16c2 }
def k16c3 : Code := { maxStack := 6, maxLocals := 5, code := jdk_65_method_133_code, exceptionTable := #[], attributes := #[] }
def k16m3 : Method := { name := "copyOfRangeByte", desc := "([BII)[B", sig := { parameters := [(.array .byte), .int, .int], returnType := some (.array .byte) }, accessFlags := 10, code := some k16c3 }
/-- java/util/Arrays -/
def k16 : Class := { plain "java/util/Arrays" (some 0) with
  accessFlags := 49
  interfaces := #[]
  cf := some (fileOf pool16 14 #[.nestMembers #[975, 375, 113, 74]] #[{ accessFlags := 2, nameIndex := 5, descriptorIndex := 6, attributes := #[] }, { accessFlags := 10, nameIndex := 345, descriptorIndex := 346, attributes := #[] }, { accessFlags := 9, nameIndex := 139, descriptorIndex := 342, attributes := #[] }, { accessFlags := 10, nameIndex := 341, descriptorIndex := 342, attributes := #[] }] 49 2 #[] #[{ accessFlags := 26, nameIndex := 715, descriptorIndex := 716, attributes := #[] }, { accessFlags := 26, nameIndex := 719, descriptorIndex := 716, attributes := #[] }, { accessFlags := 4120, nameIndex := 445, descriptorIndex := 117, attributes := #[] }])
  fields := #[{ name := "MIN_ARRAY_SORT_GRAN", type := .int, accessFlags := 26, slot := 0, constantValue := 0 }, { name := "INSERTIONSORT_THRESHOLD", type := .int, accessFlags := 26, slot := 1, constantValue := 0 }, { name := "$assertionsDisabled", type := .boolean, accessFlags := 4120, slot := 2, constantValue := 0 }]
  methods := #[k16m0, k16m1, k16m2, k16m3]
  instanceTypes := #[]
  staticTypes := #[.int, .int, .boolean]
  resolved := Array.replicate 1029 none
  statics := none }

def pool17 : Array CpInfo := pool [(1, .class_ 2), (0, u "java/lang/Math"), (1, .class_ 6), (1, u "java/lang/Object"), (0, u "<init>"), (0, u "()V"), (89, .class_ 100), (1, u "java/lang/Math$RandomNumberGeneratorHolder"), (71, u "negativeZeroFloatBits"), (0, u "J"), (2, u "negativeZeroDoubleBits"), (24, u "min"), (43, u "$assertionsDisabled"), (0, u "Z"), (88, u "(II)I"), (2, u "twoToTheDoubleScaleDown"), (0, u "D"), (4, u "twoToTheDoubleScaleUp"), (9, u "E"), (3, u "PI"), (2, u "TAU"), (2, u "DEGREES_TO_RADIANS"), (0, u "RADIANS_TO_DEGREES")] 94

def k17m0 : Method := { name := "<init>", desc := "()V", sig := { parameters := [], returnType := none }, accessFlags := 2, code := none }
def k17c1 : Code := { maxStack := 2, maxLocals := 2, code := jdk_29_method_69_code, exceptionTable := #[], attributes := #[] }
def k17m1 : Method := { name := "min", desc := "(II)I", sig := { parameters := [.int, .int], returnType := some .int }, accessFlags := 9, code := some k17c1 }
/-- java/lang/Math -/
def k17 : Class := { plain "java/lang/Math" (some 0) with
  accessFlags := 49
  interfaces := #[]
  cf := some (fileOf pool17 1 #[.nestMembers #[98]] #[{ accessFlags := 2, nameIndex := 7, descriptorIndex := 8, attributes := #[] }, { accessFlags := 9, nameIndex := 201, descriptorIndex := 335, attributes := #[] }] 49 4 #[] #[{ accessFlags := 25, nameIndex := 354, descriptorIndex := 339, attributes := #[] }, { accessFlags := 25, nameIndex := 358, descriptorIndex := 339, attributes := #[] }, { accessFlags := 25, nameIndex := 361, descriptorIndex := 339, attributes := #[] }, { accessFlags := 26, nameIndex := 364, descriptorIndex := 339, attributes := #[] }, { accessFlags := 26, nameIndex := 365, descriptorIndex := 339, attributes := #[] }, { accessFlags := 26, nameIndex := 172, descriptorIndex := 173, attributes := #[] }, { accessFlags := 26, nameIndex := 176, descriptorIndex := 173, attributes := #[] }, { accessFlags := 8, nameIndex := 344, descriptorIndex := 339, attributes := #[] }, { accessFlags := 8, nameIndex := 338, descriptorIndex := 339, attributes := #[] }, { accessFlags := 4120, nameIndex := 245, descriptorIndex := 246, attributes := #[] }])
  fields := #[{ name := "E", type := .double, accessFlags := 25, slot := 0, constantValue := 0 }, { name := "PI", type := .double, accessFlags := 25, slot := 1, constantValue := 0 }, { name := "TAU", type := .double, accessFlags := 25, slot := 2, constantValue := 0 }, { name := "DEGREES_TO_RADIANS", type := .double, accessFlags := 26, slot := 3, constantValue := 0 }, { name := "RADIANS_TO_DEGREES", type := .double, accessFlags := 26, slot := 4, constantValue := 0 }, { name := "negativeZeroFloatBits", type := .long, accessFlags := 26, slot := 5, constantValue := 0 }, { name := "negativeZeroDoubleBits", type := .long, accessFlags := 26, slot := 6, constantValue := 0 }, { name := "twoToTheDoubleScaleUp", type := .double, accessFlags := 8, slot := 7, constantValue := 0 }, { name := "twoToTheDoubleScaleDown", type := .double, accessFlags := 8, slot := 8, constantValue := 0 }, { name := "$assertionsDisabled", type := .boolean, accessFlags := 4120, slot := 9, constantValue := 0 }]
  methods := #[k17m0, k17m1]
  instanceTypes := #[]
  staticTypes := #[.double, .double, .double, .double, .double, .long, .long, .double, .double, .boolean]
  resolved := Array.replicate 460 none
  statics := none }

def pool18 : Array CpInfo := pool [(2, .class_ 4), (1, u "java/lang/Object"), (0, u "<init>"), (0, u "()V"), (17, .class_ 26), (1, u "jdk/internal/util/Preconditions"), (6, u "checkIndex"), (21, .class_ 56), (0, u "jdk/internal/util/Preconditions$4"), (57, .class_ 115), (0, u "jdk/internal/util/Preconditions$1"), (7, u "SIOOBE_FORMATTER"), (0, u "Ljava/util/function/BiFunction;"), (0, .class_ 126), (0, u "jdk/internal/util/Preconditions$2"), (3, u "AIOOBE_FORMATTER"), (0, .class_ 132), (0, u "jdk/internal/util/Preconditions$3"), (3, u "IOOBE_FORMATTER"), (41, u "(IILjava/util/function/BiFunction;)I")] 15

def k18m0 : Method := { name := "<init>", desc := "()V", sig := { parameters := [], returnType := none }, accessFlags := 1, code := none }
def k18c1 : Code := { maxStack := 3, maxLocals := 3, code := jdk_41_method_11_code, exceptionTable := #[], attributes := #[] }
def k18m1 : Method := { name := "checkIndex", desc := "(IILjava/util/function/BiFunction;)I", sig := { parameters := [.int, .int, (.object "java/util/function/BiFunction")], returnType := some .int }, accessFlags := 9, code := some k18c1 }
/-- jdk/internal/util/Preconditions -/
def k18 : Class := { plain "jdk/internal/util/Preconditions" (some 0) with
  accessFlags := 33
  interfaces := #[]
  cf := some (fileOf pool18 24 #[.nestMembers #[55, 131, 125, 114]] #[{ accessFlags := 1, nameIndex := 5, descriptorIndex := 6, attributes := #[] }, { accessFlags := 9, nameIndex := 33, descriptorIndex := 178, attributes := #[] }] 33 2 #[] #[{ accessFlags := 25, nameIndex := 123, descriptorIndex := 124, attributes := #[] }, { accessFlags := 25, nameIndex := 130, descriptorIndex := 124, attributes := #[] }, { accessFlags := 25, nameIndex := 136, descriptorIndex := 124, attributes := #[] }])
  fields := #[{ name := "SIOOBE_FORMATTER", type := (.object "java/util/function/BiFunction"), accessFlags := 25, slot := 0, constantValue := 0 }, { name := "AIOOBE_FORMATTER", type := (.object "java/util/function/BiFunction"), accessFlags := 25, slot := 1, constantValue := 0 }, { name := "IOOBE_FORMATTER", type := (.object "java/util/function/BiFunction"), accessFlags := 25, slot := 2, constantValue := 0 }]
  methods := #[k18m0, k18m1]
  instanceTypes := #[]
  staticTypes := #[(.object "java/util/function/BiFunction"), (.object "java/util/function/BiFunction"), (.object "java/util/function/BiFunction")]
  resolved := Array.replicate 194 none
  statics := some 1 }

def pool19 : Array CpInfo := pool [(9, u "<init>"), (6, .class_ 18), (1, u "java/lang/Object"), (0, u "()V"), (1, .class_ 23), (1, u "jdk/internal/util/ArraysSupport"), (0, u "LOG2_ARRAY_LONG_INDEX_SCALE"), (0, u "I"), (2, u "U"), (0, u "Ljdk/internal/misc/Unsafe;"), (8, u "BIG_ENDIAN"), (0, u "Z"), (8, u "LOG2_BYTE_BIT_SIZE"), (4, u "LOG2_ARRAY_INT_INDEX_SCALE"), (54, u "JLA"), (0, u "Ljdk/internal/access/JavaLangAccess;"), (11, u "LOG2_ARRAY_BOOLEAN_INDEX_SCALE"), (9, u "LOG2_ARRAY_BYTE_INDEX_SCALE"), (5, u "LOG2_ARRAY_CHAR_INDEX_SCALE"), (5, u "LOG2_ARRAY_SHORT_INDEX_SCALE"), (18, u "LOG2_ARRAY_FLOAT_INDEX_SCALE"), (24, u "LOG2_ARRAY_DOUBLE_INDEX_SCALE"), (89, u "T_BOOLEAN"), (2, u "T_CHAR"), (1, u "T_FLOAT"), (1, u "T_DOUBLE"), (1, u "T_BYTE"), (1, u "T_SHORT"), (1, u "T_INT"), (1, u "T_LONG"), (1, u "SOFT_MAX_ARRAY_LENGTH")] 83

def k19m0 : Method := { name := "<init>", desc := "()V", sig := { parameters := [], returnType := none }, accessFlags := 2, code := none }
/-- jdk/internal/util/ArraysSupport -/
def k19 : Class := { plain "jdk/internal/util/ArraysSupport" (some 0) with
  accessFlags := 33
  interfaces := #[]
  cf := some (fileOf pool19 21 #[] #[{ accessFlags := 2, nameIndex := 9, descriptorIndex := 19, attributes := #[] }] 33 16 #[] #[{ accessFlags := 24, nameIndex := 28, descriptorIndex := 29, attributes := #[] }, { accessFlags := 26, nameIndex := 38, descriptorIndex := 39, attributes := #[] }, { accessFlags := 25, nameIndex := 121, descriptorIndex := 25, attributes := #[] }, { accessFlags := 25, nameIndex := 131, descriptorIndex := 25, attributes := #[] }, { accessFlags := 25, nameIndex := 137, descriptorIndex := 25, attributes := #[] }, { accessFlags := 25, nameIndex := 143, descriptorIndex := 25, attributes := #[] }, { accessFlags := 25, nameIndex := 53, descriptorIndex := 25, attributes := #[] }, { accessFlags := 25, nameIndex := 24, descriptorIndex := 25, attributes := #[] }, { accessFlags := 25, nameIndex := 162, descriptorIndex := 25, attributes := #[] }, { accessFlags := 25, nameIndex := 187, descriptorIndex := 25, attributes := #[] }, { accessFlags := 26, nameIndex := 48, descriptorIndex := 25, attributes := #[] }, { accessFlags := 25, nameIndex := 277, descriptorIndex := 25, attributes := #[] }, { accessFlags := 25, nameIndex := 280, descriptorIndex := 25, attributes := #[] }, { accessFlags := 25, nameIndex := 282, descriptorIndex := 25, attributes := #[] }, { accessFlags := 25, nameIndex := 284, descriptorIndex := 25, attributes := #[] }, { accessFlags := 25, nameIndex := 286, descriptorIndex := 25, attributes := #[] }, { accessFlags := 25, nameIndex := 288, descriptorIndex := 25, attributes := #[] }, { accessFlags := 25, nameIndex := 290, descriptorIndex := 25, attributes := #[] }, { accessFlags := 25, nameIndex := 292, descriptorIndex := 25, attributes := #[] }, { accessFlags := 26, nameIndex := 108, descriptorIndex := 109, attributes := #[] }, { accessFlags := 25, nameIndex := 294, descriptorIndex := 25, attributes := #[] }])
  fields := #[{ name := "U", type := (.object "jdk/internal/misc/Unsafe"), accessFlags := 24, slot := 0, constantValue := 0 }, { name := "BIG_ENDIAN", type := .boolean, accessFlags := 26, slot := 1, constantValue := 0 }, { name := "LOG2_ARRAY_BOOLEAN_INDEX_SCALE", type := .int, accessFlags := 25, slot := 2, constantValue := 0 }, { name := "LOG2_ARRAY_BYTE_INDEX_SCALE", type := .int, accessFlags := 25, slot := 3, constantValue := 0 }, { name := "LOG2_ARRAY_CHAR_INDEX_SCALE", type := .int, accessFlags := 25, slot := 4, constantValue := 0 }, { name := "LOG2_ARRAY_SHORT_INDEX_SCALE", type := .int, accessFlags := 25, slot := 5, constantValue := 0 }, { name := "LOG2_ARRAY_INT_INDEX_SCALE", type := .int, accessFlags := 25, slot := 6, constantValue := 0 }, { name := "LOG2_ARRAY_LONG_INDEX_SCALE", type := .int, accessFlags := 25, slot := 7, constantValue := 0 }, { name := "LOG2_ARRAY_FLOAT_INDEX_SCALE", type := .int, accessFlags := 25, slot := 8, constantValue := 0 }, { name := "LOG2_ARRAY_DOUBLE_INDEX_SCALE", type := .int, accessFlags := 25, slot := 9, constantValue := 0 }, { name := "LOG2_BYTE_BIT_SIZE", type := .int, accessFlags := 26, slot := 10, constantValue := 0 }, { name := "T_BOOLEAN", type := .int, accessFlags := 25, slot := 11, constantValue := 0 }, { name := "T_CHAR", type := .int, accessFlags := 25, slot := 12, constantValue := 0 }, { name := "T_FLOAT", type := .int, accessFlags := 25, slot := 13, constantValue := 0 }, { name := "T_DOUBLE", type := .int, accessFlags := 25, slot := 14, constantValue := 0 }, { name := "T_BYTE", type := .int, accessFlags := 25, slot := 15, constantValue := 0 }, { name := "T_SHORT", type := .int, accessFlags := 25, slot := 16, constantValue := 0 }, { name := "T_INT", type := .int, accessFlags := 25, slot := 17, constantValue := 0 }, { name := "T_LONG", type := .int, accessFlags := 25, slot := 18, constantValue := 0 }, { name := "JLA", type := (.object "jdk/internal/access/JavaLangAccess"), accessFlags := 26, slot := 19, constantValue := 0 }, { name := "SOFT_MAX_ARRAY_LENGTH", type := .int, accessFlags := 25, slot := 20, constantValue := 0 }]
  methods := #[k19m0]
  instanceTypes := #[]
  staticTypes := #[(.object "jdk/internal/misc/Unsafe"), .boolean, .int, .int, .int, .int, .int, .int, .int, .int, .int, .int, .int, .int, .int, .int, .int, .int, .int, (.object "jdk/internal/access/JavaLangAccess"), .int]
  resolved := Array.replicate 378 none
  statics := none }

def pool20 : Array CpInfo := pool [(1, u "java/lang/Cloneable"), (0, .class_ 1), (0, u "java/lang/Object"), (0, .class_ 3)] 3

/-- java/lang/Cloneable -/
def k20 : Class := { plain "java/lang/Cloneable" (some 0) with
  accessFlags := 1537
  interfaces := #[]
  cf := some (fileOf pool20 2 #[] #[] 1537 4 #[] #[])
  fields := #[]
  methods := #[]
  instanceTypes := #[]
  staticTypes := #[]
  resolved := Array.replicate 8 none
  statics := none }

/-- the primitive byte -/
def k21 : Class := { plain "byte" none with kind := .primitive 'B', accessFlags := 0x411 }
/-- [B -/
def k22 : Class := { plain "[B" (some 0) with kind := .array 21 .byte, interfaces := #[20, 2], accessFlags := 1041 }

/-- the primitive char -/
def k23 : Class := { plain "char" none with kind := .primitive 'C', accessFlags := 0x411 }
/-- [C -/
def k24 : Class := { plain "[C" (some 0) with kind := .array 23 .char, interfaces := #[20, 2], accessFlags := 1041 }

/-- the primitive int -/
def k25 : Class := { plain "int" none with kind := .primitive 'I', accessFlags := 0x411 }
/-- [I -/
def k26 : Class := { plain "[I" (some 0) with kind := .array 25 .int, interfaces := #[20, 2], accessFlags := 1041 }

def heap : Heap := #[{ cls := 7, slots := #[.long 0, .int 1, .null, .int 0, .null, .int 0, .int 0], vm := .statics 7 },
  { cls := 18, slots := #[.null, .null, .null], vm := .statics 18 }]
def classes : Array Class := #[k0, k1, k2, k3, k4, k5, k6, k7, k8, k9, k10, k11, k12, k13, k14, k15, k16, k17, k18, k19, k20, k21, k22, k23, k24, k25, k26]
def interned : List (Array UInt16 × Addr) := []
def slotsUsed : Nat := 10
def theMethod : MethodId := ⟨1, 1⟩
def args0 : Array Value := #[.int 5, .int 7, .int 9]
def aboutOver (below : List Frame) : State where
  vm := { classes := classes, interned := interned.toArray }
  heap := heap
  slotsUsed := slotsUsed
  threads := #[{ frames := .invoking theMethod args0 :: below }]
def below0 : List Frame := [.native { method := ⟨0, 0⟩, args := #[] }]
def about1 : State := aboutOver below0
def p0 : Program := .bare "" "" ""
def e0 : Env := launch0.env 0 0 0
theorem w_frames : about1.frames = Frame.invoking theMethod args0 :: below0 := rfl
set_option maxRecDepth 65536 in
theorem w_args : argsFit about1.vm theMethod args0 = true := by decide +kernel
set_option maxRecDepth 65536 in
theorem w_heap : heapFits about1 = true := by decide +kernel
set_option maxRecDepth 65536 in
theorem w_runnable : about1.curStatus? = some .runnable := by decide +kernel
set_option maxRecDepth 65536 in
theorem w_alone : about1.alone = true := by decide +kernel
set_option maxRecDepth 65536 in
theorem w_named : about1.methodNamed? x = some theMethod := by decide +kernel
set_option maxRecDepth 65536 in
theorem w_hears : about1.hears theMethod below0 = true := by decide +kernel
set_option maxRecDepth 65536 in
theorem w_ripe : about1.ripe theMethod args0 below0 = true := by decide +kernel
theorem w_running : about1.status = .running := rfl
set_option maxRecDepth 65536 in
theorem w_room : about1.hasRoom e0.platform room_1 = true :=
  launch0.hasRoom_least _ room_1 (by decide +kernel) (by decide +kernel) (by decide +kernel) (by decide +kernel) (by decide +kernel) (by decide +kernel)
theorem allAtoms_all (ts : List Jvm.Cond) (a : Array Jvm.Value) (st : Jvm.State) : (allAtoms ts).before a st = ts.all (fun c => c.before a st) := by
  induction ts with
  | nil => rfl
  | cons c t ih =>
    show (Jvm.Cond.and c (allAtoms t)).before a st = _
    rw [Jvm.Cond.before_and, ih, List.all_cons]
def words1 : List Jvm.Cond := Jvm.Cond.code x code maxLocals ret :: tables_1
/-- a 'code' word, met by the world's own term for the bytes: nothing is compared byte by byte -/
theorem code_word {y : MethodName} {bytes : ByteArray} {mx : Nat} {rt : Option FieldType} {a : Array Value} {s : State} {m : MethodId} {meth : Method} {c : Code} (h1 : s.methodNamed? y = some m) (h2 : s.vm.method? m = some meth) (h3 : meth.code = some c) (h4 : c.code = bytes)
    (h5 : (c.maxLocals == mx && c.exceptionTable.isEmpty && decide (c.maxStack ≤ mostOperands) && decide (meth.sig.returnType = rt) && !meth.locks && decide (parseMethodDescriptor y.desc = some meth.sig)) = true) : (Jvm.Cond.code y bytes mx rt).before a s = true := by
  simp only [Bool.and_eq_true, beq_iff_eq, Bool.not_eq_true', decide_eq_true_eq] at h5
  obtain ⟨⟨⟨⟨⟨g1, g2⟩, g3⟩, g4⟩, g5⟩, g6⟩ := h5
  simp [Cond.before, Cond.holds, Cond.value, h1, h2, h3, h4, g1, g2, g3, g4, g5, g6]
def isCode : Jvm.Cond → Bool
  | .code _ _ _ _ => true
  | _ => false
theorem all_split {L : List Jvm.Cond} {P : Jvm.Cond → Bool} (h1 : L.all (fun c => isCode c || P c) = true) (h2 : ∀ c ∈ L.filter isCode, P c = true) : L.all P = true := by
  refine List.all_eq_true.mpr fun c hc => ?_
  have h := List.all_eq_true.mp h1 c hc
  rcases Bool.eq_false_or_eq_true (isCode c) with hi | hi
  · exact h2 c (List.mem_filter.mpr ⟨hc, hi⟩)
  · simpa [hi] using h
set_option maxRecDepth 65536 in
theorem w_c0 : (Jvm.Cond.code x code maxLocals ret).before args0 about1 = true := code_word (m := ⟨1, 1⟩) (meth := k1m1) (c := k1c1) (by decide +kernel) rfl rfl rfl (by decide +kernel)
set_option maxRecDepth 65536 in
theorem w_c1 : (Jvm.Cond.code ({ cls := "candorpay/OptionSynopsisPinLaw", name := "make", desc := "(ICCC)Ljava/lang/String;" } : Jvm.MethodName) method_3_code (4 : Nat) (Option.some (Jvm.ClassFile.FieldType.object "java/lang/String"))).before args0 about1 = true := code_word (m := ⟨1, 2⟩) (meth := k1m2) (c := k1c2) (by decide +kernel) rfl rfl rfl (by decide +kernel)
set_option maxRecDepth 65536 in
theorem w_c2 : (Jvm.Cond.code ({ cls := "java/lang/String", name := "<init>", desc := "([C)V" } : Jvm.MethodName) jdk_42_method_3_code (2 : Nat) (Option.none : Option Jvm.ClassFile.FieldType)).before args0 about1 = true := code_word (m := ⟨7, 1⟩) (meth := k7m1) (c := k7c1) (by decide +kernel) rfl rfl rfl (by decide +kernel)
set_option maxRecDepth 65536 in
theorem w_c3 : (Jvm.Cond.code ({ cls := "java/lang/String", name := "<init>", desc := "([CIILjava/lang/Void;)V" } : Jvm.MethodName) jdk_42_method_149_code (6 : Nat) (Option.none : Option Jvm.ClassFile.FieldType)).before args0 about1 = true := code_word (m := ⟨7, 7⟩) (meth := k7m7) (c := k7c7) (by decide +kernel) rfl rfl rfl (by decide +kernel)
set_option maxRecDepth 65536 in
theorem w_c4 : (Jvm.Cond.code ({ cls := "java/lang/Object", name := "<init>", desc := "()V" } : Jvm.MethodName) object_method_1_code (1 : Nat) (Option.none : Option Jvm.ClassFile.FieldType)).before args0 about1 = true := code_word (m := ⟨0, 0⟩) (meth := k0m0) (c := k0c0) (by decide +kernel) rfl rfl rfl (by decide +kernel)
set_option maxRecDepth 65536 in
theorem w_c5 : (Jvm.Cond.code ({ cls := "java/lang/StringUTF16", name := "compress", desc := "([CII)[B" } : Jvm.MethodName) jdk_52_method_16_code (6 : Nat) (Option.some (Jvm.ClassFile.FieldType.array Jvm.ClassFile.FieldType.byte))).before args0 about1 = true := code_word (m := ⟨8, 2⟩) (meth := k8m2) (c := k8c2) (by decide +kernel) rfl rfl rfl (by decide +kernel)
set_option maxRecDepth 65536 in
theorem w_c6 : (Jvm.Cond.code ({ cls := "java/lang/StringUTF16", name := "compress", desc := "([CI[BII)I" } : Jvm.MethodName) jdk_52_method_21_code (7 : Nat) (Option.some Jvm.ClassFile.FieldType.int)).before args0 about1 = true := code_word (m := ⟨8, 3⟩) (meth := k8m3) (c := k8c3) (by decide +kernel) rfl rfl rfl (by decide +kernel)
set_option maxRecDepth 65536 in
theorem w_c7 : (Jvm.Cond.code ({ cls := "java/lang/StringUTF16", name := "coderFromArrayLen", desc := "([BI)B" } : Jvm.MethodName) jdk_52_method_15_code (2 : Nat) (Option.some Jvm.ClassFile.FieldType.byte)).before args0 about1 = true := code_word (m := ⟨8, 1⟩) (meth := k8m1) (c := k8c1) (by decide +kernel) rfl rfl rfl (by decide +kernel)
set_option maxRecDepth 65536 in
theorem w_c8 : (Jvm.Cond.code ({ cls := "java/lang/String", name := "valueOf", desc := "(C)Ljava/lang/String;" } : Jvm.MethodName) jdk_42_method_139_code (1 : Nat) (Option.some (Jvm.ClassFile.FieldType.object "java/lang/String"))).before args0 about1 = true := code_word (m := ⟨7, 5⟩) (meth := k7m5) (c := k7c5) (by decide +kernel) rfl rfl rfl (by decide +kernel)
set_option maxRecDepth 65536 in
theorem w_c9 : (Jvm.Cond.code ({ cls := "java/lang/StringLatin1", name := "canEncode", desc := "(C)Z" } : Jvm.MethodName) jdk_43_method_3_code (1 : Nat) (Option.some Jvm.ClassFile.FieldType.boolean)).before args0 about1 = true := code_word (m := ⟨9, 2⟩) (meth := k9m2) (c := k9c2) (by decide +kernel) rfl rfl rfl (by decide +kernel)
set_option maxRecDepth 65536 in
theorem w_c10 : (Jvm.Cond.code ({ cls := "java/lang/StringLatin1", name := "toBytes", desc := "(C)[B" } : Jvm.MethodName) jdk_43_method_46_code (1 : Nat) (Option.some (Jvm.ClassFile.FieldType.array Jvm.ClassFile.FieldType.byte))).before args0 about1 = true := code_word (m := ⟨9, 3⟩) (meth := k9m3) (c := k9c3) (by decide +kernel) rfl rfl rfl (by decide +kernel)
set_option maxRecDepth 65536 in
theorem w_c11 : (Jvm.Cond.code ({ cls := "java/lang/String", name := "<init>", desc := "([BB)V" } : Jvm.MethodName) jdk_42_method_151_code (3 : Nat) (Option.none : Option Jvm.ClassFile.FieldType)).before args0 about1 = true := code_word (m := ⟨7, 9⟩) (meth := k7m9) (c := k7c9) (by decide +kernel) rfl rfl rfl (by decide +kernel)
set_option maxRecDepth 65536 in
theorem w_c12 : (Jvm.Cond.code ({ cls := "candorpay/Command$Option", name := "<init>", desc := "(Ljava/lang/String;Ljava/lang/String;Ljava/lang/String;Z)V" } : Jvm.MethodName) prog_5_method_2_code (5 : Nat) (Option.none : Option Jvm.ClassFile.FieldType)).before args0 about1 = true := code_word (m := ⟨11, 0⟩) (meth := k11m0) (c := k11c0) (by decide +kernel) rfl rfl rfl (by decide +kernel)
set_option maxRecDepth 65536 in
theorem w_c13 : (Jvm.Cond.code ({ cls := "java/lang/Record", name := "<init>", desc := "()V" } : Jvm.MethodName) jdk_30_method_1_code (1 : Nat) (Option.none : Option Jvm.ClassFile.FieldType)).before args0 about1 = true := code_word (m := ⟨10, 0⟩) (meth := k10m0) (c := k10c0) (by decide +kernel) rfl rfl rfl (by decide +kernel)
set_option maxRecDepth 65536 in
theorem w_c14 : (Jvm.Cond.code ({ cls := "candorpay/Command$Option", name := "synopsis", desc := "()Ljava/lang/String;" } : Jvm.MethodName) prog_5_method_3_code (1 : Nat) (Option.some (Jvm.ClassFile.FieldType.object "java/lang/String"))).before args0 about1 = true := code_word (m := ⟨11, 1⟩) (meth := k11m1) (c := k11c1) (by decide +kernel) rfl rfl rfl (by decide +kernel)
set_option maxRecDepth 65536 in
theorem w_c15 : (Jvm.Cond.code ({ cls := "java/lang/StringBuilder", name := "<init>", desc := "()V" } : Jvm.MethodName) jdk_67_method_1_code (1 : Nat) (Option.none : Option Jvm.ClassFile.FieldType)).before args0 about1 = true := code_word (m := ⟨14, 0⟩) (meth := k14m0) (c := k14c0) (by decide +kernel) rfl rfl rfl (by decide +kernel)
set_option maxRecDepth 65536 in
theorem w_c16 : (Jvm.Cond.code ({ cls := "java/lang/AbstractStringBuilder", name := "<init>", desc := "(I)V" } : Jvm.MethodName) jdk_68_method_2_code (2 : Nat) (Option.none : Option Jvm.ClassFile.FieldType)).before args0 about1 = true := code_word (m := ⟨13, 1⟩) (meth := k13m1) (c := k13c1) (by decide +kernel) rfl rfl rfl (by decide +kernel)
set_option maxRecDepth 65536 in
theorem w_c17 : (Jvm.Cond.code ({ cls := "java/lang/StringBuilder", name := "append", desc := "(Ljava/lang/String;)Ljava/lang/StringBuilder;" } : Jvm.MethodName) jdk_67_method_7_code (2 : Nat) (Option.some (Jvm.ClassFile.FieldType.object "java/lang/StringBuilder"))).before args0 about1 = true := code_word (m := ⟨14, 1⟩) (meth := k14m1) (c := k14c1) (by decide +kernel) rfl rfl rfl (by decide +kernel)
set_option maxRecDepth 65536 in
theorem w_c18 : (Jvm.Cond.code ({ cls := "java/lang/AbstractStringBuilder", name := "append", desc := "(Ljava/lang/String;)Ljava/lang/AbstractStringBuilder;" } : Jvm.MethodName) jdk_68_method_22_code (3 : Nat) (Option.some (Jvm.ClassFile.FieldType.object "java/lang/AbstractStringBuilder"))).before args0 about1 = true := code_word (m := ⟨13, 4⟩) (meth := k13m4) (c := k13c4) (by decide +kernel) rfl rfl rfl (by decide +kernel)
set_option maxRecDepth 65536 in
theorem w_c19 : (Jvm.Cond.code ({ cls := "java/lang/String", name := "length", desc := "()I" } : Jvm.MethodName) jdk_42_method_54_code (1 : Nat) (Option.some Jvm.ClassFile.FieldType.int)).before args0 about1 = true := code_word (m := ⟨7, 3⟩) (meth := k7m3) (c := k7c3) (by decide +kernel) rfl rfl rfl (by decide +kernel)
set_option maxRecDepth 65536 in
theorem w_c20 : (Jvm.Cond.code ({ cls := "java/lang/String", name := "coder", desc := "()B" } : Jvm.MethodName) jdk_42_method_152_code (1 : Nat) (Option.some Jvm.ClassFile.FieldType.byte)).before args0 about1 = true := code_word (m := ⟨7, 10⟩) (meth := k7m10) (c := k7c10) (by decide +kernel) rfl rfl rfl (by decide +kernel)
set_option maxRecDepth 65536 in
theorem w_c21 : (Jvm.Cond.code ({ cls := "java/lang/AbstractStringBuilder", name := "ensureCapacityInternal", desc := "(I)V" } : Jvm.MethodName) jdk_68_method_9_code (3 : Nat) (Option.none : Option Jvm.ClassFile.FieldType)).before args0 about1 = true := code_word (m := ⟨13, 3⟩) (meth := k13m3) (c := k13c3) (by decide +kernel) rfl rfl rfl (by decide +kernel)
set_option maxRecDepth 65536 in
theorem w_c22 : (Jvm.Cond.code ({ cls := "java/lang/AbstractStringBuilder", name := "putStringAt", desc := "(ILjava/lang/String;)V" } : Jvm.MethodName) jdk_68_method_73_code (3 : Nat) (Option.none : Option Jvm.ClassFile.FieldType)).before args0 about1 = true := code_word (m := ⟨13, 8⟩) (meth := k13m8) (c := k13c8) (by decide +kernel) rfl rfl rfl (by decide +kernel)
set_option maxRecDepth 65536 in
theorem w_c23 : (Jvm.Cond.code ({ cls := "java/lang/AbstractStringBuilder", name := "inflateIfNeededFor", desc := "(Ljava/lang/String;)V" } : Jvm.MethodName) jdk_68_method_71_code (2 : Nat) (Option.none : Option Jvm.ClassFile.FieldType)).before args0 about1 = true := code_word (m := ⟨13, 7⟩) (meth := k13m7) (c := k13c7) (by decide +kernel) rfl rfl rfl (by decide +kernel)
set_option maxRecDepth 65536 in
theorem w_c24 : (Jvm.Cond.code ({ cls := "java/lang/String", name := "getBytes", desc := "([BIB)V" } : Jvm.MethodName) jdk_42_method_147_code (4 : Nat) (Option.none : Option Jvm.ClassFile.FieldType)).before args0 about1 = true := code_word (m := ⟨7, 6⟩) (meth := k7m6) (c := k7c6) (by decide +kernel) rfl rfl rfl (by decide +kernel)
set_option maxRecDepth 65536 in
theorem w_c25 : (Jvm.Cond.code ({ cls := "java/lang/StringBuilder", name := "toString", desc := "()Ljava/lang/String;" } : Jvm.MethodName) jdk_67_method_42_code (1 : Nat) (Option.some (Jvm.ClassFile.FieldType.object "java/lang/String"))).before args0 about1 = true := code_word (m := ⟨14, 2⟩) (meth := k14m2) (c := k14c2) (by decide +kernel) rfl rfl rfl (by decide +kernel)
set_option maxRecDepth 65536 in
theorem w_c26 : (Jvm.Cond.code ({ cls := "java/lang/String", name := "<init>", desc := "(Ljava/lang/StringBuilder;)V" } : Jvm.MethodName) jdk_42_method_53_code (2 : Nat) (Option.none : Option Jvm.ClassFile.FieldType)).before args0 about1 = true := code_word (m := ⟨7, 2⟩) (meth := k7m2) (c := k7c2) (by decide +kernel) rfl rfl rfl (by decide +kernel)
set_option maxRecDepth 65536 in
theorem w_c27 : (Jvm.Cond.code ({ cls := "java/lang/String", name := "<init>", desc := "(Ljava/lang/AbstractStringBuilder;Ljava/lang/Void;)V" } : Jvm.MethodName) jdk_42_method_150_code (5 : Nat) (Option.none : Option Jvm.ClassFile.FieldType)).before args0 about1 = true := code_word (m := ⟨7, 8⟩) (meth := k7m8) (c := k7c8) (by decide +kernel) rfl rfl rfl (by decide +kernel)
set_option maxRecDepth 65536 in
theorem w_c28 : (Jvm.Cond.code ({ cls := "java/lang/AbstractStringBuilder", name := "getValue", desc := "()[B" } : Jvm.MethodName) jdk_68_method_64_code (1 : Nat) (Option.some (Jvm.ClassFile.FieldType.array Jvm.ClassFile.FieldType.byte))).before args0 about1 = true := code_word (m := ⟨13, 5⟩) (meth := k13m5) (c := k13c5) (by decide +kernel) rfl rfl rfl (by decide +kernel)
set_option maxRecDepth 65536 in
theorem w_c29 : (Jvm.Cond.code ({ cls := "java/lang/StringBuilder", name := "length", desc := "()I" } : Jvm.MethodName) jdk_67_method_93_code (1 : Nat) (Option.some Jvm.ClassFile.FieldType.int)).before args0 about1 = true := code_word (m := ⟨14, 3⟩) (meth := k14m3) (c := k14c3) (by decide +kernel) rfl rfl rfl (by decide +kernel)
set_option maxRecDepth 65536 in
theorem w_c30 : (Jvm.Cond.code ({ cls := "java/lang/AbstractStringBuilder", name := "length", desc := "()I" } : Jvm.MethodName) jdk_68_method_6_code (1 : Nat) (Option.some Jvm.ClassFile.FieldType.int)).before args0 about1 = true := code_word (m := ⟨13, 2⟩) (meth := k13m2) (c := k13c2) (by decide +kernel) rfl rfl rfl (by decide +kernel)
set_option maxRecDepth 65536 in
theorem w_c31 : (Jvm.Cond.code ({ cls := "java/lang/AbstractStringBuilder", name := "isLatin1", desc := "()Z" } : Jvm.MethodName) jdk_68_method_68_code (1 : Nat) (Option.some Jvm.ClassFile.FieldType.boolean)).before args0 about1 = true := code_word (m := ⟨13, 6⟩) (meth := k13m6) (c := k13c6) (by decide +kernel) rfl rfl rfl (by decide +kernel)
set_option maxRecDepth 65536 in
theorem w_c32 : (Jvm.Cond.code ({ cls := "java/util/Arrays", name := "copyOfRange", desc := "([BII)[B" } : Jvm.MethodName) jdk_65_method_132_code (3 : Nat) (Option.some (Jvm.ClassFile.FieldType.array Jvm.ClassFile.FieldType.byte))).before args0 about1 = true := code_word (m := ⟨16, 2⟩) (meth := k16m2) (c := k16c2) (by decide +kernel) rfl rfl rfl (by decide +kernel)
set_option maxRecDepth 65536 in
theorem w_c33 : (Jvm.Cond.code ({ cls := "java/util/Arrays", name := "copyOfRangeByte", desc := "([BII)[B" } : Jvm.MethodName) jdk_65_method_133_code (5 : Nat) (Option.some (Jvm.ClassFile.FieldType.array Jvm.ClassFile.FieldType.byte))).before args0 about1 = true := code_word (m := ⟨16, 3⟩) (meth := k16m3) (c := k16c3) (by decide +kernel) rfl rfl rfl (by decide +kernel)
set_option maxRecDepth 65536 in
theorem w_c34 : (Jvm.Cond.code ({ cls := "java/util/Arrays", name := "checkLength", desc := "(II)V" } : Jvm.MethodName) jdk_65_method_131_code (2 : Nat) (Option.none : Option Jvm.ClassFile.FieldType)).before args0 about1 = true := code_word (m := ⟨16, 1⟩) (meth := k16m1) (c := k16c1) (by decide +kernel) rfl rfl rfl (by decide +kernel)
set_option maxRecDepth 65536 in
theorem w_c35 : (Jvm.Cond.code ({ cls := "java/lang/Math", name := "min", desc := "(II)I" } : Jvm.MethodName) jdk_29_method_69_code (2 : Nat) (Option.some Jvm.ClassFile.FieldType.int)).before args0 about1 = true := code_word (m := ⟨17, 1⟩) (meth := k17m1) (c := k17c1) (by decide +kernel) rfl rfl rfl (by decide +kernel)
set_option maxRecDepth 65536 in
theorem w_c36 : (Jvm.Cond.code ({ cls := "java/lang/String", name := "charAt", desc := "(I)C" } : Jvm.MethodName) jdk_42_method_56_code (2 : Nat) (Option.some Jvm.ClassFile.FieldType.char)).before args0 about1 = true := code_word (m := ⟨7, 4⟩) (meth := k7m4) (c := k7c4) (by decide +kernel) rfl rfl rfl (by decide +kernel)
set_option maxRecDepth 65536 in
theorem w_c37 : (Jvm.Cond.code ({ cls := "java/lang/String", name := "isLatin1", desc := "()Z" } : Jvm.MethodName) jdk_42_method_154_code (1 : Nat) (Option.some Jvm.ClassFile.FieldType.boolean)).before args0 about1 = true := code_word (m := ⟨7, 11⟩) (meth := k7m11) (c := k7c11) (by decide +kernel) rfl rfl rfl (by decide +kernel)
set_option maxRecDepth 65536 in
theorem w_c38 : (Jvm.Cond.code ({ cls := "java/lang/StringLatin1", name := "charAt", desc := "([BI)C" } : Jvm.MethodName) jdk_43_method_2_code (2 : Nat) (Option.some Jvm.ClassFile.FieldType.char)).before args0 about1 = true := code_word (m := ⟨9, 1⟩) (meth := k9m1) (c := k9c1) (by decide +kernel) rfl rfl rfl (by decide +kernel)
set_option maxRecDepth 65536 in
theorem w_c39 : (Jvm.Cond.code ({ cls := "java/lang/String", name := "checkIndex", desc := "(II)V" } : Jvm.MethodName) jdk_42_method_155_code (2 : Nat) (Option.none : Option Jvm.ClassFile.FieldType)).before args0 about1 = true := code_word (m := ⟨7, 12⟩) (meth := k7m12) (c := k7c12) (by decide +kernel) rfl rfl rfl (by decide +kernel)
set_option maxRecDepth 65536 in
theorem w_c40 : (Jvm.Cond.code ({ cls := "jdk/internal/util/Preconditions", name := "checkIndex", desc := "(IILjava/util/function/BiFunction;)I" } : Jvm.MethodName) jdk_41_method_11_code (3 : Nat) (Option.some Jvm.ClassFile.FieldType.int)).before args0 about1 = true := code_word (m := ⟨18, 1⟩) (meth := k18m1) (c := k18c1) (by decide +kernel) rfl rfl rfl (by decide +kernel)
def codes1 : List Jvm.Cond := [Jvm.Cond.code x code maxLocals ret, Jvm.Cond.code ({ cls := "candorpay/OptionSynopsisPinLaw", name := "make", desc := "(ICCC)Ljava/lang/String;" } : Jvm.MethodName) method_3_code (4 : Nat) (Option.some (Jvm.ClassFile.FieldType.object "java/lang/String")), Jvm.Cond.code ({ cls := "java/lang/String", name := "<init>", desc := "([C)V" } : Jvm.MethodName) jdk_42_method_3_code (2 : Nat) (Option.none : Option Jvm.ClassFile.FieldType), Jvm.Cond.code ({ cls := "java/lang/String", name := "<init>", desc := "([CIILjava/lang/Void;)V" } : Jvm.MethodName) jdk_42_method_149_code (6 : Nat) (Option.none : Option Jvm.ClassFile.FieldType), Jvm.Cond.code ({ cls := "java/lang/Object", name := "<init>", desc := "()V" } : Jvm.MethodName) object_method_1_code (1 : Nat) (Option.none : Option Jvm.ClassFile.FieldType), Jvm.Cond.code ({ cls := "java/lang/StringUTF16", name := "compress", desc := "([CII)[B" } : Jvm.MethodName) jdk_52_method_16_code (6 : Nat) (Option.some (Jvm.ClassFile.FieldType.array Jvm.ClassFile.FieldType.byte)), Jvm.Cond.code ({ cls := "java/lang/StringUTF16", name := "compress", desc := "([CI[BII)I" } : Jvm.MethodName) jdk_52_method_21_code (7 : Nat) (Option.some Jvm.ClassFile.FieldType.int), Jvm.Cond.code ({ cls := "java/lang/StringUTF16", name := "coderFromArrayLen", desc := "([BI)B" } : Jvm.MethodName) jdk_52_method_15_code (2 : Nat) (Option.some Jvm.ClassFile.FieldType.byte), Jvm.Cond.code ({ cls := "java/lang/String", name := "valueOf", desc := "(C)Ljava/lang/String;" } : Jvm.MethodName) jdk_42_method_139_code (1 : Nat) (Option.some (Jvm.ClassFile.FieldType.object "java/lang/String")), Jvm.Cond.code ({ cls := "java/lang/StringLatin1", name := "canEncode", desc := "(C)Z" } : Jvm.MethodName) jdk_43_method_3_code (1 : Nat) (Option.some Jvm.ClassFile.FieldType.boolean), Jvm.Cond.code ({ cls := "java/lang/StringLatin1", name := "toBytes", desc := "(C)[B" } : Jvm.MethodName) jdk_43_method_46_code (1 : Nat) (Option.some (Jvm.ClassFile.FieldType.array Jvm.ClassFile.FieldType.byte)), Jvm.Cond.code ({ cls := "java/lang/String", name := "<init>", desc := "([BB)V" } : Jvm.MethodName) jdk_42_method_151_code (3 : Nat) (Option.none : Option Jvm.ClassFile.FieldType), Jvm.Cond.code ({ cls := "candorpay/Command$Option", name := "<init>", desc := "(Ljava/lang/String;Ljava/lang/String;Ljava/lang/String;Z)V" } : Jvm.MethodName) prog_5_method_2_code (5 : Nat) (Option.none : Option Jvm.ClassFile.FieldType), Jvm.Cond.code ({ cls := "java/lang/Record", name := "<init>", desc := "()V" } : Jvm.MethodName) jdk_30_method_1_code (1 : Nat) (Option.none : Option Jvm.ClassFile.FieldType), Jvm.Cond.code ({ cls := "candorpay/Command$Option", name := "synopsis", desc := "()Ljava/lang/String;" } : Jvm.MethodName) prog_5_method_3_code (1 : Nat) (Option.some (Jvm.ClassFile.FieldType.object "java/lang/String")), Jvm.Cond.code ({ cls := "java/lang/StringBuilder", name := "<init>", desc := "()V" } : Jvm.MethodName) jdk_67_method_1_code (1 : Nat) (Option.none : Option Jvm.ClassFile.FieldType), Jvm.Cond.code ({ cls := "java/lang/AbstractStringBuilder", name := "<init>", desc := "(I)V" } : Jvm.MethodName) jdk_68_method_2_code (2 : Nat) (Option.none : Option Jvm.ClassFile.FieldType), Jvm.Cond.code ({ cls := "java/lang/StringBuilder", name := "append", desc := "(Ljava/lang/String;)Ljava/lang/StringBuilder;" } : Jvm.MethodName) jdk_67_method_7_code (2 : Nat) (Option.some (Jvm.ClassFile.FieldType.object "java/lang/StringBuilder")), Jvm.Cond.code ({ cls := "java/lang/AbstractStringBuilder", name := "append", desc := "(Ljava/lang/String;)Ljava/lang/AbstractStringBuilder;" } : Jvm.MethodName) jdk_68_method_22_code (3 : Nat) (Option.some (Jvm.ClassFile.FieldType.object "java/lang/AbstractStringBuilder")), Jvm.Cond.code ({ cls := "java/lang/String", name := "length", desc := "()I" } : Jvm.MethodName) jdk_42_method_54_code (1 : Nat) (Option.some Jvm.ClassFile.FieldType.int), Jvm.Cond.code ({ cls := "java/lang/String", name := "coder", desc := "()B" } : Jvm.MethodName) jdk_42_method_152_code (1 : Nat) (Option.some Jvm.ClassFile.FieldType.byte), Jvm.Cond.code ({ cls := "java/lang/AbstractStringBuilder", name := "ensureCapacityInternal", desc := "(I)V" } : Jvm.MethodName) jdk_68_method_9_code (3 : Nat) (Option.none : Option Jvm.ClassFile.FieldType), Jvm.Cond.code ({ cls := "java/lang/AbstractStringBuilder", name := "putStringAt", desc := "(ILjava/lang/String;)V" } : Jvm.MethodName) jdk_68_method_73_code (3 : Nat) (Option.none : Option Jvm.ClassFile.FieldType), Jvm.Cond.code ({ cls := "java/lang/AbstractStringBuilder", name := "inflateIfNeededFor", desc := "(Ljava/lang/String;)V" } : Jvm.MethodName) jdk_68_method_71_code (2 : Nat) (Option.none : Option Jvm.ClassFile.FieldType), Jvm.Cond.code ({ cls := "java/lang/String", name := "getBytes", desc := "([BIB)V" } : Jvm.MethodName) jdk_42_method_147_code (4 : Nat) (Option.none : Option Jvm.ClassFile.FieldType), Jvm.Cond.code ({ cls := "java/lang/StringBuilder", name := "toString", desc := "()Ljava/lang/String;" } : Jvm.MethodName) jdk_67_method_42_code (1 : Nat) (Option.some (Jvm.ClassFile.FieldType.object "java/lang/String")), Jvm.Cond.code ({ cls := "java/lang/String", name := "<init>", desc := "(Ljava/lang/StringBuilder;)V" } : Jvm.MethodName) jdk_42_method_53_code (2 : Nat) (Option.none : Option Jvm.ClassFile.FieldType), Jvm.Cond.code ({ cls := "java/lang/String", name := "<init>", desc := "(Ljava/lang/AbstractStringBuilder;Ljava/lang/Void;)V" } : Jvm.MethodName) jdk_42_method_150_code (5 : Nat) (Option.none : Option Jvm.ClassFile.FieldType), Jvm.Cond.code ({ cls := "java/lang/AbstractStringBuilder", name := "getValue", desc := "()[B" } : Jvm.MethodName) jdk_68_method_64_code (1 : Nat) (Option.some (Jvm.ClassFile.FieldType.array Jvm.ClassFile.FieldType.byte)), Jvm.Cond.code ({ cls := "java/lang/StringBuilder", name := "length", desc := "()I" } : Jvm.MethodName) jdk_67_method_93_code (1 : Nat) (Option.some Jvm.ClassFile.FieldType.int), Jvm.Cond.code ({ cls := "java/lang/AbstractStringBuilder", name := "length", desc := "()I" } : Jvm.MethodName) jdk_68_method_6_code (1 : Nat) (Option.some Jvm.ClassFile.FieldType.int), Jvm.Cond.code ({ cls := "java/lang/AbstractStringBuilder", name := "isLatin1", desc := "()Z" } : Jvm.MethodName) jdk_68_method_68_code (1 : Nat) (Option.some Jvm.ClassFile.FieldType.boolean), Jvm.Cond.code ({ cls := "java/util/Arrays", name := "copyOfRange", desc := "([BII)[B" } : Jvm.MethodName) jdk_65_method_132_code (3 : Nat) (Option.some (Jvm.ClassFile.FieldType.array Jvm.ClassFile.FieldType.byte)), Jvm.Cond.code ({ cls := "java/util/Arrays", name := "copyOfRangeByte", desc := "([BII)[B" } : Jvm.MethodName) jdk_65_method_133_code (5 : Nat) (Option.some (Jvm.ClassFile.FieldType.array Jvm.ClassFile.FieldType.byte)), Jvm.Cond.code ({ cls := "java/util/Arrays", name := "checkLength", desc := "(II)V" } : Jvm.MethodName) jdk_65_method_131_code (2 : Nat) (Option.none : Option Jvm.ClassFile.FieldType), Jvm.Cond.code ({ cls := "java/lang/Math", name := "min", desc := "(II)I" } : Jvm.MethodName) jdk_29_method_69_code (2 : Nat) (Option.some Jvm.ClassFile.FieldType.int), Jvm.Cond.code ({ cls := "java/lang/String", name := "charAt", desc := "(I)C" } : Jvm.MethodName) jdk_42_method_56_code (2 : Nat) (Option.some Jvm.ClassFile.FieldType.char), Jvm.Cond.code ({ cls := "java/lang/String", name := "isLatin1", desc := "()Z" } : Jvm.MethodName) jdk_42_method_154_code (1 : Nat) (Option.some Jvm.ClassFile.FieldType.boolean), Jvm.Cond.code ({ cls := "java/lang/StringLatin1", name := "charAt", desc := "([BI)C" } : Jvm.MethodName) jdk_43_method_2_code (2 : Nat) (Option.some Jvm.ClassFile.FieldType.char), Jvm.Cond.code ({ cls := "java/lang/String", name := "checkIndex", desc := "(II)V" } : Jvm.MethodName) jdk_42_method_155_code (2 : Nat) (Option.none : Option Jvm.ClassFile.FieldType), Jvm.Cond.code ({ cls := "jdk/internal/util/Preconditions", name := "checkIndex", desc := "(IILjava/util/function/BiFunction;)I" } : Jvm.MethodName) jdk_41_method_11_code (3 : Nat) (Option.some Jvm.ClassFile.FieldType.int)]
set_option maxRecDepth 65536 in
theorem codes_eq : words1.filter isCode = codes1 := rfl
theorem w_codes : ∀ c ∈ words1.filter isCode, c.before args0 about1 = true := by
  rw [codes_eq]
  intro c hc
  simp only [codes1, List.mem_cons, List.not_mem_nil, or_false] at hc
  rcases hc with rfl | rfl | rfl | rfl | rfl | rfl | rfl | rfl | rfl | rfl | rfl | rfl | rfl | rfl | rfl | rfl | rfl | rfl | rfl | rfl | rfl | rfl | rfl | rfl | rfl | rfl | rfl | rfl | rfl | rfl | rfl | rfl | rfl | rfl | rfl | rfl | rfl | rfl | rfl | rfl | rfl
  · exact w_c0
  · exact w_c1
  · exact w_c2
  · exact w_c3
  · exact w_c4
  · exact w_c5
  · exact w_c6
  · exact w_c7
  · exact w_c8
  · exact w_c9
  · exact w_c10
  · exact w_c11
  · exact w_c12
  · exact w_c13
  · exact w_c14
  · exact w_c15
  · exact w_c16
  · exact w_c17
  · exact w_c18
  · exact w_c19
  · exact w_c20
  · exact w_c21
  · exact w_c22
  · exact w_c23
  · exact w_c24
  · exact w_c25
  · exact w_c26
  · exact w_c27
  · exact w_c28
  · exact w_c29
  · exact w_c30
  · exact w_c31
  · exact w_c32
  · exact w_c33
  · exact w_c34
  · exact w_c35
  · exact w_c36
  · exact w_c37
  · exact w_c38
  · exact w_c39
  · exact w_c40
set_option maxRecDepth 65536 in
theorem w_t1 : (words1.take 24).all (fun c => isCode c || c.before args0 about1) = true := by decide +kernel
set_option maxRecDepth 65536 in
theorem w_t2 : ((words1.drop 24).take 24).all (fun c => isCode c || c.before args0 about1) = true := by decide +kernel
set_option maxRecDepth 65536 in
theorem w_t3 : (((words1.drop 24).drop 24).take 24).all (fun c => isCode c || c.before args0 about1) = true := by decide +kernel
set_option maxRecDepth 65536 in
theorem w_t4 : ((((words1.drop 24).drop 24).drop 24).take 24).all (fun c => isCode c || c.before args0 about1) = true := by decide +kernel
set_option maxRecDepth 65536 in
theorem w_t5 : (((((words1.drop 24).drop 24).drop 24).drop 24).take 24).all (fun c => isCode c || c.before args0 about1) = true := by decide +kernel
set_option maxRecDepth 65536 in
theorem w_t6 : ((((((words1.drop 24).drop 24).drop 24).drop 24).drop 24).take 24).all (fun c => isCode c || c.before args0 about1) = true := by decide +kernel
set_option maxRecDepth 65536 in
theorem w_t7 : (((((((words1.drop 24).drop 24).drop 24).drop 24).drop 24).drop 24).take 24).all (fun c => isCode c || c.before args0 about1) = true := by decide +kernel
set_option maxRecDepth 65536 in
theorem w_t8 : ((((((((words1.drop 24).drop 24).drop 24).drop 24).drop 24).drop 24).drop 24).take 24).all (fun c => isCode c || c.before args0 about1) = true := by decide +kernel
set_option maxRecDepth 65536 in
theorem w_t9 : ((((((((words1.drop 24).drop 24).drop 24).drop 24).drop 24).drop 24).drop 24).drop 24).all (fun c => isCode c || c.before args0 about1) = true := by decide +kernel
theorem w_tables : (allAtoms (Jvm.Cond.code x code maxLocals ret :: tables_1)).before args0 about1 = true := by
  rw [allAtoms_all]
  show words1.all (fun c => c.before args0 about1) = true
  refine all_split ?_ w_codes
  rw [← List.take_append_drop 24 words1, List.all_append, w_t1, ← List.take_append_drop 24 (words1.drop 24), List.all_append, w_t2, ← List.take_append_drop 24 ((words1.drop 24).drop 24), List.all_append, w_t3, ← List.take_append_drop 24 (((words1.drop 24).drop 24).drop 24), List.all_append, w_t4, ← List.take_append_drop 24 ((((words1.drop 24).drop 24).drop 24).drop 24), List.all_append, w_t5, ← List.take_append_drop 24 (((((words1.drop 24).drop 24).drop 24).drop 24).drop 24), List.all_append, w_t6, ← List.take_append_drop 24 ((((((words1.drop 24).drop 24).drop 24).drop 24).drop 24).drop 24), List.all_append, w_t7, ← List.take_append_drop 24 (((((((words1.drop 24).drop 24).drop 24).drop 24).drop 24).drop 24).drop 24), List.all_append, w_t8, w_t9]
  rfl
set_option maxRecDepth 65536 in
theorem w_rest : rest_1_c.before args0 about1 = true := by decide +kernel
set_option maxRecDepth 65536 in
theorem w_case : (Jvm.Cond.and given_1 narrow_1).before args0 about1 = true := by decide +kernel
set_option maxRecDepth 65536 in
theorem w_consts : constsHeld consts_1 about1 := Jvm.Lit.constsHeldB_iff.mp (by decide +kernel)
theorem w_applies : (headSpec (Jvm.Cond.code x code maxLocals ret :: tables_1) room_1).applies x e0.platform about1 = true :=
  (Spec.applies_iff w_frames).mpr ⟨w_running, w_runnable, w_alone, w_named, w_hears, w_ripe, w_room, w_tables⟩
theorem atStart : AtStart classFile x code maxLocals ret World_1 tables_1 room_1 Calls_1 rest_1 Pre_1 launch0 p0 e0 about1 theMethod args0 below0 :=
  ⟨lists_1, trivial, launch0.admits_env _ _ _, launch0.least_env, fairChoices_fair.cas, fairChoices_fair.clock, w_frames, w_args, w_heap, w_applies, ⟨w_consts, trivial⟩, w_rest, w_case⟩
end start1
theorem witness_1 : WitnessClaimed_1 := ⟨start1.p0, start1.e0, start1.about1, start1.theMethod, start1.args0, start1.below0, start1.atStart⟩
end Jvm.Pilot.@@N@@
