import JvmDerived
import JvmDerived.Pilot.@@N@@Statement
import JvmDerived.Pilot.@@N@@Code
set_option linter.unusedVariables false
set_option linter.unusedSimpArgs false
namespace Jvm.RoadKit
open Sem ClassFile Op Lib Jvm.Stand Jvm.Free Jvm.LawKit
section New
variable {p : Program} {l : Launch} {e : Env} {R : Room} {s : State} {m : MethodId} {args : Array Value} {below : List Frame} {meth : Method} {c : Code} {T : State} {locs : List Loc} {cells slots : Nat}
theorem retI (X : Stand p l e R s m args below meth c T locs cells slots) (hx : p.tables.exec = Jvm.exec) {pc : Nat} {Ls : Array Slot} {z : Int32} {rest : List Value} (hret : meth.sig.returnType = some .int) (hd : decode c.code pc = .ok (.ireturn, 1)) {fs : List Frame}
    (hl : ∀ (f : JFrame) (acts : List Action), f.method = m → f.locked = none → f.entered = [] → (doReturn e (T.setTop f) acts (some (.int z))).1 = T.setFrames fs) : Steps p.tables e below (T.setTop (mkF m pc Ls (.int z :: rest))) (T.setFrames fs) := by
  have hm' : T.vm.method? m = some meth := X.method'
  have hn : narrow .int (.int z) = .int z := rfl
  show Steps p.tables e below (T.setTop { method := m, pc := pc, locals := Ls, stack := _ :: rest, locked := none }) _
  jvm_step X.here [X.here.top, hx, hd, hm', hret, hn]
  first | (intro acts; rw [hl _ acts rfl rfl rfl]) | rw [hl _ _ rfl rfl rfl]
  exact Steps.refl _
end New
end Jvm.RoadKit
namespace Jvm.Pilot.@@N@@
open Jvm Jvm.ClassFile Sem Op Lib Jvm.Free Jvm.Stand Jvm.LawKit Jvm.RoadKit Bundle Jvm.Pilot.@@N@@.Jvm.D

def own_m (mm : Int32) : Int32 := (1 : Int32) + (mm &&& (255 : Int32))
def own_c (mm c : Int32) : Int32 := (1 : Int32) + ((c &&& (2147483647 : Int32)) % (own_m mm))
theorem own_m_v (mm : Int32) : (own_m mm).toInt = 1 + mm.toInt % 256 := by
  have h := c_mask mm (255 : Int32) 8 (by decide) (by decide)
  have a := c_iadd (1 : Int32) (mm &&& (255 : Int32))
  have k : (1 : Int32).toInt = 1 := by decide
  have r := rng32 (own_m mm)
  rw [k, h] at a
  unfold own_m at r ⊢
  omega
theorem own_nz (mm : Int32) : ¬ (own_m mm = (0 : Int32)) := by
  intro q
  have h := own_m_v mm
  have k : (0 : Int32).toInt = 0 := by decide
  rw [q, k] at h
  omega
theorem own_neg (mm : Int32) : ¬ (own_m mm < (0 : Int32)) := by
  have h := own_m_v mm
  have k : (0 : Int32).toInt = 0 := by decide
  rw [Int32.lt_iff_toInt_lt, k]
  omega
theorem own_cap (mm : Int32) : (own_m mm).toNatClampNeg ≤ 256 := by
  have h := own_m_v mm
  have e : (own_m mm).toNatClampNeg = (own_m mm).toInt.toNat := rfl
  omega
theorem own_lc0 (x : Int64) : lcmpW x x = (0 : Int32) := by
  have h := (c_lcmp x x).2.1 rfl
  have k : (0 : Int32).toInt = 0 := by decide
  rw [← Int32.toInt_inj, k]
  exact h
theorem d5_0 : decode jdk_30_method_1_code 0 = .ok (.aload_n 0, 1) := by decide +kernel
theorem d5_1 : decode jdk_30_method_1_code 1 = .ok (.invokespecial 1, 3) := by decide +kernel
theorem d5_4 : decode jdk_30_method_1_code 4 = .ok (.return_, 1) := by decide +kernel
theorem pn_5 : plainName "java/lang/Record" = true := by first | (simp [plainName, overriddenIn]; done) | decide +kernel
theorem ef_5 (m : MethodId) (x0 : Addr) : entryFrame m #[(.ref x0)] 1 = mkF m 0 #[.val (.ref x0)] [] := by first | (simp [entryFrame, mkF, argsToLocals, Value.category]; done) | rfl
def Q5 (Z : State) (a1 : Addr) (h0 : Heap) (n0 : Nat) (v : Option Value) (h : Heap) (L : List Loc) : Prop := v = none ∧ Fr n0 L ∧ h = h0
set_option maxRecDepth 65536 in
set_option maxHeartbeats 40000000 in
theorem rm5 (l : Launch) (Z : State) (a0 : Array Value) (hw : ∀ d ∈ tables_1, d.before a0 Z = true) (ws : List Jvm.Cond) (a1 : Addr) (h0 : Heap) (n0 : Nat) (Z0 : n0 ≤ h0.size) :
    MetFree l (⟨"java/lang/Record", "<init>", "()V"⟩ : MethodName) (head1 (Jvm.Cond.code (⟨"java/lang/Record", "<init>", "()V"⟩ : MethodName) jdk_30_method_1_code 1 none :: ws) ({ frames := 1, cells := 0, slots := 0, locals := 12 } : Room)) (fun a U => a = #[(.ref a1)] ∧ Z.Warmed39 U.vm ∧ U.heap = h0) (fun _ _ _ _ _ => True) (fun _ U o U' => ∃ v L, o = .returned v ∧ Q5 Z a1 h0 n0 v U'.heap L ∧ FrameEnd U o U' L ({ frames := 1, cells := 0, slots := 0, locals := 12 } : Room).cells ({ frames := 1, cells := 0, slots := 0, locals := 12 } : Room).slots) := by
  refine MetFree.of_bodySF (plainFor_of_name pn_5) hisR ?_
  intro p e s m args below meth c s₁ Bd hml0 hP hK
  obtain ⟨rfl, hZ, hh⟩ := hP
  have hx := Bd.exec
  have hby := Bd.bytes
  have hml : c.maxLocals = 1 := hml0
  have hown : s.vm.findClass "java/lang/Record" = some m.cls := findClass_of_methodNamed Bd.named
  have hnm := (name_of_methodNamed Bd.named Bd.method).1
  have X0 : Stand p l e ({ frames := 1, cells := 0, slots := 0, locals := 12 } : Room) s m #[(.ref a1)] below meth c s₁ [] 0 0 := Stand.of_body Bd
  have e0 : s₁.heap = h0 := by rw [← hh, Bd.state]; rfl
  have N0 := Fr.nil n0
  have pre0 : ∀ t, Steps p.tables e below (s₁.setTop (mkF m 0 #[.val (.ref a1)] [])) t → Steps p.tables e below (s₁.setTop (entryFrame m #[(.ref a1)] 1)) t := fun t k => castTop (ef_5 m a1) k
  obtain ⟨T2, X2, e2, st2⟩ := initO X0 hx hZ hown (hw _ (List.mem_of_getElem? (i := 34) rfl)) (hw _ (List.mem_of_getElem? (i := 8) rfl)) (hw _ (List.mem_of_getElem? (i := 9) rfl)) e0 (g := (mkF m 1 #[.val (.ref a1)] [(.ref a1)])) rfl (by rw [hml]; rfl) rfl (hb hby d5_1) (by decide) (W := 0) (by show 2 * 0 + _ ≤ _; exact Nat.le_of_eq rfl) (by decide)
  obtain ⟨fs, hr, hrun, hended, hW, hsame⟩ := X2.leave (v := none) (fun _ => rfl)
  refine ⟨_, _, pre0 _ ?_, hrun, hended, _, _, rfl, ?_, ⟨_, rfl⟩, hW, hsame.mono (by decide) (by decide)⟩
  · show Steps p.tables e below (s₁.setTop (mkF m 0 #[.val (.ref a1)] [])) _
    refine XS.aloadN X0.here hx rfl (hb hby d5_0) rfl rfl ?_
    show Steps p.tables e below (s₁.setTop (mkF m 1 #[.val (.ref a1)] [(.ref a1)])) _
    refine st2 _ ?_
    show Steps p.tables e below (T2.setTop (mkF m 4 #[.val (.ref a1)] [])) _
    exact X2.returnOut hx Bd.returns (hb hby d5_4) hr
  · show Q5 Z a1 h0 n0 _ T2.heap _
    rw [e2]
    exact ⟨rfl, N0, rfl⟩
theorem d4_0 : decode prog_106_method_1_code 0 = .ok (.aload_n 0, 1) := by decide +kernel
theorem d4_1 : decode prog_106_method_1_code 1 = .ok (.invokespecial 1, 3) := by decide +kernel
theorem d4_4 : decode prog_106_method_1_code 4 = .ok (.aload_n 0, 1) := by decide +kernel
theorem d4_5 : decode prog_106_method_1_code 5 = .ok (.lload_n 1, 1) := by decide +kernel
theorem d4_6 : decode prog_106_method_1_code 6 = .ok (.putfield 7, 3) := by decide +kernel
theorem d4_9 : decode prog_106_method_1_code 9 = .ok (.aload_n 0, 1) := by decide +kernel
theorem d4_10 : decode prog_106_method_1_code 10 = .ok (.lload_n 3, 1) := by decide +kernel
theorem d4_11 : decode prog_106_method_1_code 11 = .ok (.putfield 13, 3) := by decide +kernel
theorem d4_14 : decode prog_106_method_1_code 14 = .ok (.return_, 1) := by decide +kernel
theorem pn_4 : plainName "com/example/sansid/sansid/model/Register" = true := by first | (simp [plainName, overriddenIn]; done) | decide +kernel
theorem pd_4_1 : parseMethodDescriptor "()V" = some ⟨[], none⟩ := by decide +kernel
theorem ef_4 (m : MethodId) (x0 : Addr) (x1 : Int64) (x2 : Int64) : entryFrame m #[(.ref x0), (.long x1), (.long x2)] 5 = mkF m 0 #[.val (.ref x0), .val (.long x1), .second, .val (.long x2), .second] [] := by first | (simp [entryFrame, mkF, argsToLocals, Value.category]; done) | rfl
def Q4 (Z : State) (a1 : Addr) (q2 : Int64) (q3 : Int64) (u_array_a1 : Value) (u_index_a1 : Value) (h0 : Heap) (n0 : Nat) (v : Option Value) (h : Heap) (L : List Loc) : Prop := v = none ∧ Fr n0 L ∧ Keep h0 h [a1] ∧ Exa Z h a1 "com/example/sansid/sansid/model/Register" ∧ Fld Z h a1 "com/example/sansid/sansid/model/Register" "array" "J" (.long q2) ∧ Fld Z h a1 "com/example/sansid/sansid/model/Register" "index" "J" (.long q3)
set_option maxRecDepth 65536 in
set_option maxHeartbeats 40000000 in
theorem rm4 (l : Launch) (Z : State) (a0 : Array Value) (hw : ∀ d ∈ tables_1, d.before a0 Z = true) (ws : List Jvm.Cond) (a1 : Addr) (q2 : Int64) (q3 : Int64) (u_array_a1 : Value) (u_index_a1 : Value) (h0 : Heap) (n0 : Nat) (Z0 : n0 ≤ h0.size) (E_a1 : Exa Z h0 a1 "com/example/sansid/sansid/model/Register") (F_array_a1 : Fld Z h0 a1 "com/example/sansid/sansid/model/Register" "array" "J" u_array_a1) (g_a1 : n0 ≤ a1) (F_index_a1 : Fld Z h0 a1 "com/example/sansid/sansid/model/Register" "index" "J" u_index_a1) :
    MetFree l (⟨"com/example/sansid/sansid/model/Register", "<init>", "(JJ)V"⟩ : MethodName) (head1 (Jvm.Cond.code (⟨"com/example/sansid/sansid/model/Register", "<init>", "(JJ)V"⟩ : MethodName) prog_106_method_1_code 5 none :: ws) ({ frames := 2, cells := 0, slots := 0, locals := 24 } : Room)) (fun a U => a = #[(.ref a1), (.long q2), (.long q3)] ∧ Z.Warmed39 U.vm ∧ U.heap = h0) (fun _ _ _ _ _ => True) (fun _ U o U' => ∃ v L, o = .returned v ∧ Q4 Z a1 q2 q3 u_array_a1 u_index_a1 h0 n0 v U'.heap L ∧ FrameEnd U o U' L ({ frames := 2, cells := 0, slots := 0, locals := 24 } : Room).cells ({ frames := 2, cells := 0, slots := 0, locals := 24 } : Room).slots) := by
  refine MetFree.of_bodySF (plainFor_of_name pn_4) hisR ?_
  intro p e s m args below meth c s₁ Bd hml0 hP hK
  obtain ⟨rfl, hZ, hh⟩ := hP
  have hx := Bd.exec
  have hby := Bd.bytes
  have hml : c.maxLocals = 5 := hml0
  have hown : s.vm.findClass "com/example/sansid/sansid/model/Register" = some m.cls := findClass_of_methodNamed Bd.named
  have hnm := (name_of_methodNamed Bd.named Bd.method).1
  have X0 : Stand p l e ({ frames := 2, cells := 0, slots := 0, locals := 24 } : Room) s m #[(.ref a1), (.long q2), (.long q3)] below meth c s₁ [] 0 0 := Stand.of_body Bd
  have e0 : s₁.heap = h0 := by rw [← hh, Bd.state]; rfl
  have N0 := Fr.nil n0
  have pre0 : ∀ t, Steps p.tables e below (s₁.setTop (mkF m 0 #[.val (.ref a1), .val (.long q2), .second, .val (.long q3), .second] [])) t → Steps p.tables e below (s₁.setTop (entryFrame m #[(.ref a1), (.long q2), (.long q3)] 5)) t := fun t k => castTop (ef_4 m a1 q2 q3) k
  obtain ⟨_, _, ⟨T4, L4, k4, n4⟩, -, X4, ⟨Lc4, hQ4, l4, y4, z4⟩, st4⟩ := X0.specialBack hx (y := (⟨"java/lang/Record", "<init>", "()V"⟩ : MethodName)) rfl hown (mvT hZ (hw _ (List.mem_of_getElem? (i := 29) rfl))) (mvT hZ (hw _ (List.mem_of_getElem? (i := 30) rfl))) (mvT hZ (hw _ (List.mem_of_getElem? (i := 33) rfl))) (by decide) (backOf (W := 0) (rm5 l Z a0 hw [] a1 h0 n0 Z0) hZ (hw _ (List.mem_of_getElem? (i := 33) rfl)) (hw _ (List.mem_of_getElem? (i := 32) rfl)) (by decide) (by decide)) (g := (mkF m 1 #[.val (.ref a1), .val (.long q2), .second, .val (.long q3), .second] [(.ref a1)])) rfl (by rw [hml]; rfl) (Steps.refl _) (a := a1) (argsL := []) (rest := []) (lenOf pd_4_1 rfl) rfl (by show 2 * 0 + _ ≤ _; exact Nat.le_of_eq rfl) (hb hby d4_1) (fun _ _ => ⟨rfl, e0, (by decide : 0 + 0 ≤ _), (by decide : 0 + 0 ≤ _)⟩)
  dsimp only [Pt.U, Pt.locs, Pt.cells, Pt.slots] at X4 l4 y4 z4 st4 hQ4
  subst l4 y4 z4
  obtain ⟨rfl, N4q, hs4⟩ := hQ4
  have N4 := Fr.app N0 N4q
  have Kc4 : Keep h0 T4.heap [] := by rw [hs4]; exact Keep.refl _ _
  have Kd4 : Keep h0 T4.heap [a1] := by rw [hs4]; exact Keep.refl _ _
  obtain ⟨T5, h5, X5, e5, W5, st5⟩ := putF X4 hx hZ hown (host := "") (Or.inl (hw _ (List.mem_of_getElem? (i := 35) rfl))) Via.refl rfl (F_array_a1.keep Kc4 List.not_mem_nil) (E_a1.keep Kc4) (Or.inr ⟨(hw _ (List.mem_of_getElem? (i := 36) rfl)), rfl, hnm⟩) (hw _ (List.mem_of_getElem? (i := 24) rfl)) (ty := .long) (by decide) rfl rfl (g := (mkF m 6 #[.val (.ref a1), .val (.long q2), .second, .val (.long q3), .second] [(.long q2), (.ref a1)])) rfl rfl (hb hby d4_6)
  have Fw5 := (F_array_a1.keep Kc4 List.not_mem_nil).same W5
  have K5 : Keep h0 h5 [a1] := Kd4.wr W5 (Or.inl (List.mem_of_getElem? (i := 0) rfl))
  have N5 := Fr.snoc X5 N4 g_a1
  obtain ⟨T6, h6, X6, e6, W6, st6⟩ := putF X5 hx hZ hown (host := "") (Or.inl (hw _ (List.mem_of_getElem? (i := 37) rfl))) Via.refl e5 ((F_index_a1.keep Kc4 List.not_mem_nil).other W5 (Or.inr (slot_ne (Or.inr (hw _ (List.mem_of_getElem? (i := 38) rfl))) (Or.inr (hw _ (List.mem_of_getElem? (i := 36) rfl))) (by decide) (t := .long) (t' := .long) (by decide) (by decide)))) ((E_a1.keep Kc4).wr W5) (Or.inr ⟨(hw _ (List.mem_of_getElem? (i := 38) rfl)), rfl, hnm⟩) (hw _ (List.mem_of_getElem? (i := 24) rfl)) (ty := .long) (by decide) rfl rfl (g := (mkF m 11 #[.val (.ref a1), .val (.long q2), .second, .val (.long q3), .second] [(.long q3), (.ref a1)])) rfl rfl (hb hby d4_11)
  have Fw6 := ((F_index_a1.keep Kc4 List.not_mem_nil).other W5 (Or.inr (slot_ne (Or.inr (hw _ (List.mem_of_getElem? (i := 38) rfl))) (Or.inr (hw _ (List.mem_of_getElem? (i := 36) rfl))) (by decide) (t := .long) (t' := .long) (by decide) (by decide)))).same W6
  have K6 : Keep h0 h6 [a1] := K5.wr W6 (Or.inl (List.mem_of_getElem? (i := 0) rfl))
  have N6 := Fr.snoc X6 N5 g_a1
  obtain ⟨fs, hr, hrun, hended, hW, hsame⟩ := X6.leave (v := none) (fun _ => rfl)
  refine ⟨_, _, pre0 _ ?_, hrun, hended, _, _, rfl, ?_, ⟨_, rfl⟩, hW, hsame.mono (by decide) (by decide)⟩
  · show Steps p.tables e below (s₁.setTop (mkF m 0 #[.val (.ref a1), .val (.long q2), .second, .val (.long q3), .second] [])) _
    refine XS.aloadN X0.here hx rfl (hb hby d4_0) rfl rfl ?_
    show Steps p.tables e below (s₁.setTop (mkF m 1 #[.val (.ref a1), .val (.long q2), .second, .val (.long q3), .second] [(.ref a1)])) _
    refine st4.trans ?_
    show Steps p.tables e below (T4.setTop (mkF m 4 #[.val (.ref a1), .val (.long q2), .second, .val (.long q3), .second] [])) _
    refine XS.aloadN X4.here hx rfl (hb hby d4_4) rfl rfl ?_
    show Steps p.tables e below (T4.setTop (mkF m 5 #[.val (.ref a1), .val (.long q2), .second, .val (.long q3), .second] [(.ref a1)])) _
    refine XS.lloadN X4.here hx rfl (hb hby d4_5) rfl ?_
    show Steps p.tables e below (T4.setTop (mkF m 6 #[.val (.ref a1), .val (.long q2), .second, .val (.long q3), .second] [(.long q2), (.ref a1)])) _
    refine st5 _ ?_
    show Steps p.tables e below (T5.setTop (mkF m 9 #[.val (.ref a1), .val (.long q2), .second, .val (.long q3), .second] [])) _
    refine XS.aloadN X5.here hx rfl (hb hby d4_9) rfl rfl ?_
    show Steps p.tables e below (T5.setTop (mkF m 10 #[.val (.ref a1), .val (.long q2), .second, .val (.long q3), .second] [(.ref a1)])) _
    refine XS.lloadN X5.here hx rfl (hb hby d4_10) rfl ?_
    show Steps p.tables e below (T5.setTop (mkF m 11 #[.val (.ref a1), .val (.long q2), .second, .val (.long q3), .second] [(.long q3), (.ref a1)])) _
    refine st6 _ ?_
    show Steps p.tables e below (T6.setTop (mkF m 14 #[.val (.ref a1), .val (.long q2), .second, .val (.long q3), .second] [])) _
    exact X6.returnOut hx Bd.returns (hb hby d4_14) hr
  · show Q4 Z a1 q2 q3 u_array_a1 u_index_a1 h0 n0 _ T6.heap _
    rw [e6]
    exact ⟨rfl, N6, K6, ((E_a1.keep Kc4).wr W5).wr W6, Fw5.other W6 (Or.inr (slot_ne (Or.inr (hw _ (List.mem_of_getElem? (i := 36) rfl))) (Or.inr (hw _ (List.mem_of_getElem? (i := 38) rfl))) (by decide) (t := .long) (t' := .long) (by decide) (by decide))), Fw6⟩
theorem d3_0 : decode prog_7_method_7_code 0 = .ok (.new 74, 3) := by decide +kernel
theorem d3_3 : decode prog_7_method_7_code 3 = .ok (.dup, 1) := by decide +kernel
theorem d3_4 : decode prog_7_method_7_code 4 = .ok (.aload_n 0, 1) := by decide +kernel
theorem d3_5 : decode prog_7_method_7_code 5 = .ok (.getfield 7, 3) := by decide +kernel
theorem d3_8 : decode prog_7_method_7_code 8 = .ok (.i2l, 1) := by decide +kernel
theorem d3_9 : decode prog_7_method_7_code 9 = .ok (.iload_n 1, 1) := by decide +kernel
theorem d3_10 : decode prog_7_method_7_code 10 = .ok (.i2l, 1) := by decide +kernel
theorem d3_11 : decode prog_7_method_7_code 11 = .ok (.invokespecial 76, 3) := by decide +kernel
theorem d3_14 : decode prog_7_method_7_code 14 = .ok (.areturn, 1) := by decide +kernel
theorem pn_3 : plainName "com/example/sansid/sansid/algorithm/Collects" = true := by first | (simp [plainName, overriddenIn]; done) | decide +kernel
theorem pd_3_3 : parseMethodDescriptor "(JJ)V" = some ⟨[.long, .long], none⟩ := by decide +kernel
theorem ef_3 (m : MethodId) (x0 : Addr) (x1 : Int32) : entryFrame m #[(.ref x0), (.int x1)] 2 = mkF m 0 #[.val (.ref x0), .val (.int x1)] [] := by first | (simp [entryFrame, mkF, argsToLocals, Value.category]; done) | rfl
def Q3 (Z : State) (a1 : Addr) (p2 : Int32) (w4 : Int32) (h0 : Heap) (n0 : Nat) (v : Option Value) (h : Heap) (L : List Loc) : Prop := ∃ b : Addr, v = some (.ref b) ∧ Fr n0 L ∧ Keep h0 h [] ∧ Exa Z h b "com/example/sansid/sansid/model/Register" ∧ Fld Z h b "com/example/sansid/sansid/model/Register" "array" "J" (.long w4.toInt64) ∧ Fld Z h b "com/example/sansid/sansid/model/Register" "index" "J" (.long p2.toInt64)
set_option maxRecDepth 65536 in
set_option maxHeartbeats 40000000 in
theorem rm3 (l : Launch) (Z : State) (a0 : Array Value) (hw : ∀ d ∈ tables_1, d.before a0 Z = true) (ws : List Jvm.Cond) (a1 : Addr) (p2 : Int32) (w4 : Int32) (h0 : Heap) (n0 : Nat) (Z0 : n0 ≤ h0.size) (F_array_a1 : Fld Z h0 a1 "com/example/sansid/sansid/algorithm/Collects" "array" "I" (.int w4)) :
    MetFree l (⟨"com/example/sansid/sansid/algorithm/Collects", "register", "(I)Lcom/example/sansid/sansid/model/Register;"⟩ : MethodName) (head1 (Jvm.Cond.code (⟨"com/example/sansid/sansid/algorithm/Collects", "register", "(I)Lcom/example/sansid/sansid/model/Register;"⟩ : MethodName) prog_7_method_7_code 2 (some (.object "com/example/sansid/sansid/model/Register")) :: ws) ({ frames := 3, cells := 1, slots := 2, locals := 41 } : Room)) (fun a U => a = #[(.ref a1), (.int p2)] ∧ Z.Warmed39 U.vm ∧ U.heap = h0) (fun _ _ _ _ _ => True) (fun _ U o U' => ∃ v L, o = .returned v ∧ Q3 Z a1 p2 w4 h0 n0 v U'.heap L ∧ FrameEnd U o U' L ({ frames := 3, cells := 1, slots := 2, locals := 41 } : Room).cells ({ frames := 3, cells := 1, slots := 2, locals := 41 } : Room).slots) := by
  refine MetFree.of_bodySF (plainFor_of_name pn_3) hisR ?_
  intro p e s m args below meth c s₁ Bd hml0 hP hK
  obtain ⟨rfl, hZ, hh⟩ := hP
  have hx := Bd.exec
  have hby := Bd.bytes
  have hml : c.maxLocals = 2 := hml0
  have hown : s.vm.findClass "com/example/sansid/sansid/algorithm/Collects" = some m.cls := findClass_of_methodNamed Bd.named
  have hnm := (name_of_methodNamed Bd.named Bd.method).1
  have X0 : Stand p l e ({ frames := 3, cells := 1, slots := 2, locals := 41 } : Room) s m #[(.ref a1), (.int p2)] below meth c s₁ [] 0 0 := Stand.of_body Bd
  have e0 : s₁.heap = h0 := by rw [← hh, Bd.state]; rfl
  have N0 := Fr.nil n0
  have pre0 : ∀ t, Steps p.tables e below (s₁.setTop (mkF m 0 #[.val (.ref a1), .val (.int p2)] [])) t → Steps p.tables e below (s₁.setTop (entryFrame m #[(.ref a1), (.int p2)] 2)) t := fun t k => castTop (ef_3 m a1 p2) k
  obtain ⟨T3, h3, X3, e3, E3, A3, D3, -, st3⟩ := newO X0 hx hZ hown (hw _ (List.mem_of_getElem? (i := 23) rfl)) (hw _ (List.mem_of_getElem? (i := 24) rfl)) (hw _ (List.mem_of_getElem? (i := 25) rfl)) e0 (g := (mkF m 0 #[.val (.ref a1), .val (.int p2)] [])) rfl (hb hby d3_0) (by decide) (by decide)
  obtain ⟨b3, g3⟩ : ∃ z, z = h0.size := ⟨_, rfl⟩
  rw [← g3] at A3 D3 st3
  have F_array_b3 : Fld Z h3 b3 "com/example/sansid/sansid/model/Register" "array" "J" (.long (0 : Int64)) := D3 (Or.inr (hw _ (List.mem_of_getElem? (i := 36) rfl))) (ty := .long) (by decide)
  have F_index_b3 : Fld Z h3 b3 "com/example/sansid/sansid/model/Register" "index" "J" (.long (0 : Int64)) := D3 (Or.inr (hw _ (List.mem_of_getElem? (i := 38) rfl))) (ty := .long) (by decide)
  have E_b3 := A3
  have g_b3 : n0 ≤ b3 := Nat.le_trans Z0 (Nat.le_of_eq g3.symm)
  have sz_b3 : h0.size ≤ b3 := (Nat.le_trans (Keep.refl h0 []).1 (Nat.le_of_eq g3.symm))
  have K3 : Keep h0 h3 [] := (Keep.refl h0 []).ext E3
  obtain ⟨T5, X5, e5, st5⟩ := getF X3 hx hZ hown (host := "") (Or.inl (hw _ (List.mem_of_getElem? (i := 10) rfl))) Via.refl e3 (F_array_a1.ext E3) (g := (mkF m 5 #[.val (.ref a1), .val (.int p2)] [(.ref a1), (.ref b3), (.ref b3)])) rfl rfl (hb hby d3_5)
  obtain ⟨_, _, ⟨T6, L6, k6, n6⟩, -, X6, ⟨Lc6, hQ6, l6, y6, z6⟩, st6⟩ := X5.specialBack hx (y := (⟨"com/example/sansid/sansid/model/Register", "<init>", "(JJ)V"⟩ : MethodName)) rfl hown (mvT hZ (hw _ (List.mem_of_getElem? (i := 26) rfl))) (mvT hZ (hw _ (List.mem_of_getElem? (i := 27) rfl))) (mvT hZ (hw _ (List.mem_of_getElem? (i := 28) rfl))) (by decide) (backOf (W := 1) (rm4 l Z a0 hw [] b3 (w4.toInt64) (p2.toInt64) (.long (0 : Int64)) (.long (0 : Int64)) h3 n0 (Nat.le_trans Z0 E3.1) E_b3 F_array_b3 g_b3 F_index_b3) hZ (hw _ (List.mem_of_getElem? (i := 28) rfl)) (hw _ (List.mem_of_getElem? (i := 25) rfl)) (by decide) (by decide)) (g := (mkF m 11 #[.val (.ref a1), .val (.int p2)] [(.long (p2.toInt64)), (.long (w4.toInt64)), (.ref b3), (.ref b3)])) rfl (by rw [hml]; rfl) (Steps.refl _) (a := b3) (argsL := [(.long (w4.toInt64)), (.long (p2.toInt64))]) (rest := [(.ref b3)]) (lenOf pd_3_3 rfl) rfl (by show 2 * 0 + _ ≤ _; exact Nat.le_of_eq rfl) (hb hby d3_11) (fun _ _ => ⟨rfl, e5, (by decide : 1 + 0 ≤ _), (by decide : 2 + 0 ≤ _)⟩)
  dsimp only [Pt.U, Pt.locs, Pt.cells, Pt.slots] at X6 l6 y6 z6 st6 hQ6
  subst l6 y6 z6
  obtain ⟨rfl, N6q, K6q, E6q, Fa6, Fi6⟩ := hQ6
  have N6 := Fr.app N0 N6q
  obtain ⟨fs, hr, hrun, hended, hW, hsame⟩ := X6.leave (v := some (.ref b3)) (fun h => by rw [Bd.returns] at h; cases h)
  refine ⟨_, _, pre0 _ ?_, hrun, hended, _, _, rfl, ?_, ⟨_, rfl⟩, hW, hsame.mono (by decide) (by decide)⟩
  · show Steps p.tables e below (s₁.setTop (mkF m 0 #[.val (.ref a1), .val (.int p2)] [])) _
    refine st3 _ ?_
    show Steps p.tables e below (T3.setTop (mkF m 3 #[.val (.ref a1), .val (.int p2)] [(.ref b3)])) _
    refine XS.dup X3.here hx rfl (hb hby d3_3) rfl rfl ?_
    show Steps p.tables e below (T3.setTop (mkF m 4 #[.val (.ref a1), .val (.int p2)] [(.ref b3), (.ref b3)])) _
    refine XS.aloadN X3.here hx rfl (hb hby d3_4) rfl rfl ?_
    show Steps p.tables e below (T3.setTop (mkF m 5 #[.val (.ref a1), .val (.int p2)] [(.ref a1), (.ref b3), (.ref b3)])) _
    refine st5 _ ?_
    show Steps p.tables e below (T5.setTop (mkF m 8 #[.val (.ref a1), .val (.int p2)] [(.int w4), (.ref b3), (.ref b3)])) _
    refine XS.i2l X5.here hx rfl (hb hby d3_8) rfl ?_
    show Steps p.tables e below (T5.setTop (mkF m 9 #[.val (.ref a1), .val (.int p2)] [(.long (w4.toInt64)), (.ref b3), (.ref b3)])) _
    refine XS.iloadN X5.here hx rfl (hb hby d3_9) rfl ?_
    show Steps p.tables e below (T5.setTop (mkF m 10 #[.val (.ref a1), .val (.int p2)] [(.int p2), (.long (w4.toInt64)), (.ref b3), (.ref b3)])) _
    refine XS.i2l X5.here hx rfl (hb hby d3_10) rfl ?_
    show Steps p.tables e below (T5.setTop (mkF m 11 #[.val (.ref a1), .val (.int p2)] [(.long (p2.toInt64)), (.long (w4.toInt64)), (.ref b3), (.ref b3)])) _
    refine st6.trans ?_
    show Steps p.tables e below (T6.setTop (mkF m 14 #[.val (.ref a1), .val (.int p2)] [(.ref b3)])) _
    jvm_step X6.here [X6.here.top, hx, (hb hby d3_14), X6.method', Bd.returns, Value.isRef, FieldType.isReference]
    first | (intro acts; rw [hr _ acts rfl rfl rfl]) | rw [hr _ _ rfl rfl rfl]
    exact Steps.refl _
  · show Q3 Z a1 p2 w4 h0 n0 _ T6.heap _
    exact ⟨b3, rfl, N6, K3.trans K6q (fun x hx => by cases List.mem_singleton.mp hx; exact Or.inr sz_b3), E6q, Fa6, Fi6⟩
theorem d1_0 : decode prog_7_method_1_code 0 = .ok (.aload_n 0, 1) := by decide +kernel
theorem d1_1 : decode prog_7_method_1_code 1 = .ok (.invokespecial 1, 3) := by decide +kernel
theorem d1_4 : decode prog_7_method_1_code 4 = .ok (.aload_n 0, 1) := by decide +kernel
theorem d1_5 : decode prog_7_method_1_code 5 = .ok (.iload_n 1, 1) := by decide +kernel
theorem d1_6 : decode prog_7_method_1_code 6 = .ok (.putfield 7, 3) := by decide +kernel
theorem d1_9 : decode prog_7_method_1_code 9 = .ok (.aload_n 0, 1) := by decide +kernel
theorem d1_10 : decode prog_7_method_1_code 10 = .ok (.iload_n 2, 1) := by decide +kernel
theorem d1_11 : decode prog_7_method_1_code 11 = .ok (.putfield 13, 3) := by decide +kernel
theorem d1_14 : decode prog_7_method_1_code 14 = .ok (.aload_n 0, 1) := by decide +kernel
theorem d1_15 : decode prog_7_method_1_code 15 = .ok (.iload_n 2, 1) := by decide +kernel
theorem d1_16 : decode prog_7_method_1_code 16 = .ok (.anewarray 2, 3) := by decide +kernel
theorem d1_19 : decode prog_7_method_1_code 19 = .ok (.putfield 16, 3) := by decide +kernel
theorem d1_22 : decode prog_7_method_1_code 22 = .ok (.return_, 1) := by decide +kernel
theorem pn_1 : plainName "com/example/sansid/sansid/algorithm/Collects" = true := by first | (simp [plainName, overriddenIn]; done) | decide +kernel
theorem ef_1 (m : MethodId) (x0 : Addr) (x1 : Int32) (x2 : Int32) : entryFrame m #[(.ref x0), (.int x1), (.int x2)] 3 = mkF m 0 #[.val (.ref x0), .val (.int x1), .val (.int x2)] [] := by first | (simp [entryFrame, mkF, argsToLocals, Value.category]; done) | rfl
def Q1 (Z : State) (a1 : Addr) (p2 : Int32) (p3 : Int32) (u_array_a1 : Value) (u_components_a1 : Value) (u_collect_a1 : Value) (h0 : Heap) (n0 : Nat) (v : Option Value) (h : Heap) (L : List Loc) : Prop := v = none ∧ Fr n0 L ∧ Keep h0 h [a1] ∧ Exa Z h a1 "com/example/sansid/sansid/algorithm/Collects" ∧ Fld Z h a1 "com/example/sansid/sansid/algorithm/Collects" "array" "I" (.int p2) ∧ Fld Z h a1 "com/example/sansid/sansid/algorithm/Collects" "components" "I" (.int p3)
set_option maxRecDepth 65536 in
set_option maxHeartbeats 40000000 in
theorem rm1 (l : Launch) (Z : State) (a0 : Array Value) (hw : ∀ d ∈ tables_1, d.before a0 Z = true) (ws : List Jvm.Cond) (a1 : Addr) (p2 : Int32) (p3 : Int32) (u_array_a1 : Value) (u_components_a1 : Value) (u_collect_a1 : Value) (h0 : Heap) (n0 : Nat) (Z0 : n0 ≤ h0.size) (hneg : ¬ p3 < 0) (hcap : p3.toNatClampNeg ≤ 256) (E_a1 : Exa Z h0 a1 "com/example/sansid/sansid/algorithm/Collects") (F_array_a1 : Fld Z h0 a1 "com/example/sansid/sansid/algorithm/Collects" "array" "I" u_array_a1) (g_a1 : n0 ≤ a1) (F_components_a1 : Fld Z h0 a1 "com/example/sansid/sansid/algorithm/Collects" "components" "I" u_components_a1) (F_collect_a1 : Fld Z h0 a1 "com/example/sansid/sansid/algorithm/Collects" "collect" "[Ljava/lang/Object;" u_collect_a1) :
    MetFree l (⟨"com/example/sansid/sansid/algorithm/Collects", "<init>", "(II)V"⟩ : MethodName) (head1 (Jvm.Cond.code (⟨"com/example/sansid/sansid/algorithm/Collects", "<init>", "(II)V"⟩ : MethodName) prog_7_method_1_code 3 none :: ws) ({ frames := 1, cells := 1, slots := 256, locals := 12 } : Room)) (fun a U => a = #[(.ref a1), (.int p2), (.int p3)] ∧ Z.Warmed39 U.vm ∧ U.heap = h0) (fun _ _ _ _ _ => True) (fun _ U o U' => ∃ v L, o = .returned v ∧ Q1 Z a1 p2 p3 u_array_a1 u_components_a1 u_collect_a1 h0 n0 v U'.heap L ∧ FrameEnd U o U' L ({ frames := 1, cells := 1, slots := 256, locals := 12 } : Room).cells ({ frames := 1, cells := 1, slots := 256, locals := 12 } : Room).slots) := by
  refine MetFree.of_bodySF (plainFor_of_name pn_1) hisR ?_
  intro p e s m args below meth c s₁ Bd hml0 hP hK
  obtain ⟨rfl, hZ, hh⟩ := hP
  have hx := Bd.exec
  have hby := Bd.bytes
  have hml : c.maxLocals = 3 := hml0
  have hown : s.vm.findClass "com/example/sansid/sansid/algorithm/Collects" = some m.cls := findClass_of_methodNamed Bd.named
  have hnm := (name_of_methodNamed Bd.named Bd.method).1
  have X0 : Stand p l e ({ frames := 1, cells := 1, slots := 256, locals := 12 } : Room) s m #[(.ref a1), (.int p2), (.int p3)] below meth c s₁ [] 0 0 := Stand.of_body Bd
  have e0 : s₁.heap = h0 := by rw [← hh, Bd.state]; rfl
  have N0 := Fr.nil n0
  have pre0 : ∀ t, Steps p.tables e below (s₁.setTop (mkF m 0 #[.val (.ref a1), .val (.int p2), .val (.int p3)] [])) t → Steps p.tables e below (s₁.setTop (entryFrame m #[(.ref a1), (.int p2), (.int p3)] 3)) t := fun t k => castTop (ef_1 m a1 p2 p3) k
  obtain ⟨T4, X4, e4, st4⟩ := initO X0 hx hZ hown (hw _ (List.mem_of_getElem? (i := 7) rfl)) (hw _ (List.mem_of_getElem? (i := 8) rfl)) (hw _ (List.mem_of_getElem? (i := 9) rfl)) e0 (g := (mkF m 1 #[.val (.ref a1), .val (.int p2), .val (.int p3)] [(.ref a1)])) rfl (by rw [hml]; rfl) rfl (hb hby d1_1) (by decide) (W := 0) (by show 2 * 0 + _ ≤ _; exact Nat.le_of_eq rfl) (by decide)
  obtain ⟨T5, h5, X5, e5, W5, st5⟩ := putF X4 hx hZ hown (host := "") (Or.inl (hw _ (List.mem_of_getElem? (i := 10) rfl))) Via.refl e4 F_array_a1 E_a1 (Or.inr ⟨(hw _ (List.mem_of_getElem? (i := 11) rfl)), rfl, hnm⟩) (hw _ (List.mem_of_getElem? (i := 2) rfl)) (ty := .int) (by decide) rfl rfl (g := (mkF m 6 #[.val (.ref a1), .val (.int p2), .val (.int p3)] [(.int p2), (.ref a1)])) rfl rfl (hb hby d1_6)
  have Fw5 := F_array_a1.same W5
  have K5 : Keep h0 h5 [a1] := (Keep.refl h0 [a1]).wr W5 (Or.inl (List.mem_of_getElem? (i := 0) rfl))
  have N5 := Fr.snoc X5 N0 g_a1
  obtain ⟨T6, h6, X6, e6, W6, st6⟩ := putF X5 hx hZ hown (host := "") (Or.inl (hw _ (List.mem_of_getElem? (i := 12) rfl))) Via.refl e5 (F_components_a1.other W5 (Or.inr (slot_ne (Or.inr (hw _ (List.mem_of_getElem? (i := 13) rfl))) (Or.inr (hw _ (List.mem_of_getElem? (i := 11) rfl))) (by decide) (t := .int) (t' := .int) (by decide) (by decide)))) (E_a1.wr W5) (Or.inr ⟨(hw _ (List.mem_of_getElem? (i := 13) rfl)), rfl, hnm⟩) (hw _ (List.mem_of_getElem? (i := 2) rfl)) (ty := .int) (by decide) rfl rfl (g := (mkF m 11 #[.val (.ref a1), .val (.int p2), .val (.int p3)] [(.int p3), (.ref a1)])) rfl rfl (hb hby d1_11)
  have Fw6 := (F_components_a1.other W5 (Or.inr (slot_ne (Or.inr (hw _ (List.mem_of_getElem? (i := 13) rfl))) (Or.inr (hw _ (List.mem_of_getElem? (i := 11) rfl))) (by decide) (t := .int) (t' := .int) (by decide) (by decide)))).same W6
  have K6 : Keep h0 h6 [a1] := K5.wr W6 (Or.inl (List.mem_of_getElem? (i := 0) rfl))
  have N6 := Fr.snoc X6 N5 g_a1
  obtain ⟨T7, h7, k7, X7, e7, E7, A7, O7, st7⟩ := newR X6 hx hZ hown (hw _ (List.mem_of_getElem? (i := 14) rfl)) (hw _ (List.mem_of_getElem? (i := 15) rfl)) e6 (g := (mkF m 16 #[.val (.ref a1), .val (.int p2), .val (.int p3)] [(.int p3), (.ref a1)])) rfl (hb hby d1_16) rfl hneg (cap := 256) hcap (by decide) (by decide) (by decide)
  obtain ⟨b7, g7⟩ : ∃ z, z = h6.size := ⟨_, rfl⟩
  rw [← g7] at A7 st7
  have V_b7 := Arv.new A7 hneg
  have g_b7 : n0 ≤ b7 := Nat.le_trans (Nat.le_trans (Nat.le_trans Z0 (Keep.of_wr W5).1) (Keep.of_wr W6).1) (Nat.le_of_eq g7.symm)
  have sz_b7 : h0.size ≤ b7 := (Nat.le_trans K6.1 (Nat.le_of_eq g7.symm))
  have K7 : Keep h0 h7 [a1] := K6.ext E7
  obtain ⟨T8, h8, X8, e8, W8, st8⟩ := putF X7 hx hZ hown (host := "") (Or.inl (hw _ (List.mem_of_getElem? (i := 16) rfl))) Via.refl e7 (((F_collect_a1.other W5 (Or.inr (slot_ne (Or.inl (hw _ (List.mem_of_getElem? (i := 17) rfl))) (Or.inr (hw _ (List.mem_of_getElem? (i := 11) rfl))) (by decide) (t := (.array (.object "java/lang/Object"))) (t' := .int) (by decide) (by decide)))).other W6 (Or.inr (slot_ne (Or.inl (hw _ (List.mem_of_getElem? (i := 17) rfl))) (Or.inr (hw _ (List.mem_of_getElem? (i := 13) rfl))) (by decide) (t := (.array (.object "java/lang/Object"))) (t' := .int) (by decide) (by decide)))).ext E7) (((E_a1.wr W5).wr W6).ext E7) (Or.inl (hw _ (List.mem_of_getElem? (i := 17) rfl))) (hw _ (List.mem_of_getElem? (i := 2) rfl)) (ty := (.array (.object "java/lang/Object"))) (by decide) rfl rfl (g := (mkF m 19 #[.val (.ref a1), .val (.int p2), .val (.int p3)] [(.ref b7), (.ref a1)])) rfl rfl (hb hby d1_19)
  have Fw8 := (((F_collect_a1.other W5 (Or.inr (slot_ne (Or.inl (hw _ (List.mem_of_getElem? (i := 17) rfl))) (Or.inr (hw _ (List.mem_of_getElem? (i := 11) rfl))) (by decide) (t := (.array (.object "java/lang/Object"))) (t' := .int) (by decide) (by decide)))).other W6 (Or.inr (slot_ne (Or.inl (hw _ (List.mem_of_getElem? (i := 17) rfl))) (Or.inr (hw _ (List.mem_of_getElem? (i := 13) rfl))) (by decide) (t := (.array (.object "java/lang/Object"))) (t' := .int) (by decide) (by decide)))).ext E7).same W8
  have K8 : Keep h0 h8 [a1] := K7.wr W8 (Or.inl (List.mem_of_getElem? (i := 0) rfl))
  have N8 := Fr.snoc X8 N6 g_a1
  obtain ⟨fs, hr, hrun, hended, hW, hsame⟩ := X8.leave (v := none) (fun _ => rfl)
  refine ⟨_, _, pre0 _ ?_, hrun, hended, _, _, rfl, ?_, ⟨_, rfl⟩, hW, hsame.mono (by decide) (by decide)⟩
  · show Steps p.tables e below (s₁.setTop (mkF m 0 #[.val (.ref a1), .val (.int p2), .val (.int p3)] [])) _
    refine XS.aloadN X0.here hx rfl (hb hby d1_0) rfl rfl ?_
    show Steps p.tables e below (s₁.setTop (mkF m 1 #[.val (.ref a1), .val (.int p2), .val (.int p3)] [(.ref a1)])) _
    refine st4 _ ?_
    show Steps p.tables e below (T4.setTop (mkF m 4 #[.val (.ref a1), .val (.int p2), .val (.int p3)] [])) _
    refine XS.aloadN X4.here hx rfl (hb hby d1_4) rfl rfl ?_
    show Steps p.tables e below (T4.setTop (mkF m 5 #[.val (.ref a1), .val (.int p2), .val (.int p3)] [(.ref a1)])) _
    refine XS.iloadN X4.here hx rfl (hb hby d1_5) rfl ?_
    show Steps p.tables e below (T4.setTop (mkF m 6 #[.val (.ref a1), .val (.int p2), .val (.int p3)] [(.int p2), (.ref a1)])) _
    refine st5 _ ?_
    show Steps p.tables e below (T5.setTop (mkF m 9 #[.val (.ref a1), .val (.int p2), .val (.int p3)] [])) _
    refine XS.aloadN X5.here hx rfl (hb hby d1_9) rfl rfl ?_
    show Steps p.tables e below (T5.setTop (mkF m 10 #[.val (.ref a1), .val (.int p2), .val (.int p3)] [(.ref a1)])) _
    refine XS.iloadN X5.here hx rfl (hb hby d1_10) rfl ?_
    show Steps p.tables e below (T5.setTop (mkF m 11 #[.val (.ref a1), .val (.int p2), .val (.int p3)] [(.int p3), (.ref a1)])) _
    refine st6 _ ?_
    show Steps p.tables e below (T6.setTop (mkF m 14 #[.val (.ref a1), .val (.int p2), .val (.int p3)] [])) _
    refine XS.aloadN X6.here hx rfl (hb hby d1_14) rfl rfl ?_
    show Steps p.tables e below (T6.setTop (mkF m 15 #[.val (.ref a1), .val (.int p2), .val (.int p3)] [(.ref a1)])) _
    refine XS.iloadN X6.here hx rfl (hb hby d1_15) rfl ?_
    show Steps p.tables e below (T6.setTop (mkF m 16 #[.val (.ref a1), .val (.int p2), .val (.int p3)] [(.int p3), (.ref a1)])) _
    refine st7 _ ?_
    show Steps p.tables e below (T7.setTop (mkF m 19 #[.val (.ref a1), .val (.int p2), .val (.int p3)] [(.ref b7), (.ref a1)])) _
    refine st8 _ ?_
    show Steps p.tables e below (T8.setTop (mkF m 22 #[.val (.ref a1), .val (.int p2), .val (.int p3)] [])) _
    exact X8.returnOut hx Bd.returns (hb hby d1_22) hr
  · show Q1 Z a1 p2 p3 u_array_a1 u_components_a1 u_collect_a1 h0 n0 _ T8.heap _
    rw [e8]
    exact ⟨rfl, N8, K8, ((((E_a1.wr W5).wr W6).ext E7).wr W8), (((Fw5.other W6 (Or.inr (slot_ne (Or.inr (hw _ (List.mem_of_getElem? (i := 11) rfl))) (Or.inr (hw _ (List.mem_of_getElem? (i := 13) rfl))) (by decide) (t := .int) (t' := .int) (by decide) (by decide)))).ext E7).other W8 (Or.inr (slot_ne (Or.inr (hw _ (List.mem_of_getElem? (i := 11) rfl))) (Or.inl (hw _ (List.mem_of_getElem? (i := 17) rfl))) (by decide) (t := .int) (t' := (.array (.object "java/lang/Object"))) (by decide) (by decide)))), ((Fw6.ext E7).other W8 (Or.inr (slot_ne (Or.inr (hw _ (List.mem_of_getElem? (i := 13) rfl))) (Or.inl (hw _ (List.mem_of_getElem? (i := 17) rfl))) (by decide) (t := .int) (t' := (.array (.object "java/lang/Object"))) (by decide) (by decide))))⟩
theorem d6_0 : decode prog_106_method_5_code 0 = .ok (.aload_n 0, 1) := by decide +kernel
theorem d6_1 : decode prog_106_method_5_code 1 = .ok (.getfield 7, 3) := by decide +kernel
theorem d6_4 : decode prog_106_method_5_code 4 = .ok (.lreturn, 1) := by decide +kernel
theorem pn_6 : plainName "com/example/sansid/sansid/model/Register" = true := by first | (simp [plainName, overriddenIn]; done) | decide +kernel
theorem ef_6 (m : MethodId) (x0 : Addr) : entryFrame m #[(.ref x0)] 1 = mkF m 0 #[.val (.ref x0)] [] := by first | (simp [entryFrame, mkF, argsToLocals, Value.category]; done) | rfl
def Q6 (Z : State) (a1 : Addr) (w2 : Int64) (h0 : Heap) (n0 : Nat) (v : Option Value) (h : Heap) (L : List Loc) : Prop := v = some (.long w2) ∧ Fr n0 L ∧ h = h0
set_option maxRecDepth 65536 in
set_option maxHeartbeats 40000000 in
theorem rm6 (l : Launch) (Z : State) (a0 : Array Value) (hw : ∀ d ∈ tables_1, d.before a0 Z = true) (ws : List Jvm.Cond) (a1 : Addr) (w2 : Int64) (h0 : Heap) (n0 : Nat) (Z0 : n0 ≤ h0.size) (F_array_a1 : Fld Z h0 a1 "com/example/sansid/sansid/model/Register" "array" "J" (.long w2)) :
    MetFree l (⟨"com/example/sansid/sansid/model/Register", "array", "()J"⟩ : MethodName) (head1 (Jvm.Cond.code (⟨"com/example/sansid/sansid/model/Register", "array", "()J"⟩ : MethodName) prog_106_method_5_code 1 (some .long) :: ws) ({ frames := 0, cells := 0, slots := 0, locals := 0 } : Room)) (fun a U => a = #[(.ref a1)] ∧ Z.Warmed39 U.vm ∧ U.heap = h0) (fun _ _ _ _ _ => True) (fun _ U o U' => ∃ v L, o = .returned v ∧ Q6 Z a1 w2 h0 n0 v U'.heap L ∧ FrameEnd U o U' L ({ frames := 0, cells := 0, slots := 0, locals := 0 } : Room).cells ({ frames := 0, cells := 0, slots := 0, locals := 0 } : Room).slots) := by
  refine MetFree.of_bodySF (plainFor_of_name pn_6) hisR ?_
  intro p e s m args below meth c s₁ Bd hml0 hP hK
  obtain ⟨rfl, hZ, hh⟩ := hP
  have hx := Bd.exec
  have hby := Bd.bytes
  have hml : c.maxLocals = 1 := hml0
  have hown : s.vm.findClass "com/example/sansid/sansid/model/Register" = some m.cls := findClass_of_methodNamed Bd.named
  have hnm := (name_of_methodNamed Bd.named Bd.method).1
  have X0 : Stand p l e ({ frames := 0, cells := 0, slots := 0, locals := 0 } : Room) s m #[(.ref a1)] below meth c s₁ [] 0 0 := Stand.of_body Bd
  have e0 : s₁.heap = h0 := by rw [← hh, Bd.state]; rfl
  have N0 := Fr.nil n0
  have pre0 : ∀ t, Steps p.tables e below (s₁.setTop (mkF m 0 #[.val (.ref a1)] [])) t → Steps p.tables e below (s₁.setTop (entryFrame m #[(.ref a1)] 1)) t := fun t k => castTop (ef_6 m a1) k
  obtain ⟨T3, X3, e3, st3⟩ := getF X0 hx hZ hown (host := "") (Or.inl (hw _ (List.mem_of_getElem? (i := 35) rfl))) Via.refl e0 F_array_a1 (g := (mkF m 1 #[.val (.ref a1)] [(.ref a1)])) rfl rfl (hb hby d6_1)
  obtain ⟨fs, hr, hrun, hended, hW, hsame⟩ := X3.leave (v := some (.long w2)) (fun h => by rw [Bd.returns] at h; cases h)
  refine ⟨_, _, pre0 _ ?_, hrun, hended, _, _, rfl, ?_, ⟨_, rfl⟩, hW, hsame.mono (by decide) (by decide)⟩
  · show Steps p.tables e below (s₁.setTop (mkF m 0 #[.val (.ref a1)] [])) _
    refine XS.aloadN X0.here hx rfl (hb hby d6_0) rfl rfl ?_
    show Steps p.tables e below (s₁.setTop (mkF m 1 #[.val (.ref a1)] [(.ref a1)])) _
    refine st3 _ ?_
    show Steps p.tables e below (T3.setTop (mkF m 4 #[.val (.ref a1)] [(.long w2)])) _
    jvm_step X3.here [X3.here.top, hx, (hb hby d6_4), X3.method', Bd.returns, narrow]
    first | (intro acts; rw [hr _ acts rfl rfl rfl]) | rw [hr _ _ rfl rfl rfl]
    exact Steps.refl _
  · show Q6 Z a1 w2 h0 n0 _ T3.heap _
    rw [e3]
    exact ⟨rfl, N0, rfl⟩
theorem d7_0 : decode prog_106_method_6_code 0 = .ok (.aload_n 0, 1) := by decide +kernel
theorem d7_1 : decode prog_106_method_6_code 1 = .ok (.getfield 13, 3) := by decide +kernel
theorem d7_4 : decode prog_106_method_6_code 4 = .ok (.lreturn, 1) := by decide +kernel
theorem pn_7 : plainName "com/example/sansid/sansid/model/Register" = true := by first | (simp [plainName, overriddenIn]; done) | decide +kernel
theorem ef_7 (m : MethodId) (x0 : Addr) : entryFrame m #[(.ref x0)] 1 = mkF m 0 #[.val (.ref x0)] [] := by first | (simp [entryFrame, mkF, argsToLocals, Value.category]; done) | rfl
def Q7 (Z : State) (a1 : Addr) (w2 : Int64) (h0 : Heap) (n0 : Nat) (v : Option Value) (h : Heap) (L : List Loc) : Prop := v = some (.long w2) ∧ Fr n0 L ∧ h = h0
set_option maxRecDepth 65536 in
set_option maxHeartbeats 40000000 in
theorem rm7 (l : Launch) (Z : State) (a0 : Array Value) (hw : ∀ d ∈ tables_1, d.before a0 Z = true) (ws : List Jvm.Cond) (a1 : Addr) (w2 : Int64) (h0 : Heap) (n0 : Nat) (Z0 : n0 ≤ h0.size) (F_index_a1 : Fld Z h0 a1 "com/example/sansid/sansid/model/Register" "index" "J" (.long w2)) :
    MetFree l (⟨"com/example/sansid/sansid/model/Register", "index", "()J"⟩ : MethodName) (head1 (Jvm.Cond.code (⟨"com/example/sansid/sansid/model/Register", "index", "()J"⟩ : MethodName) prog_106_method_6_code 1 (some .long) :: ws) ({ frames := 0, cells := 0, slots := 0, locals := 0 } : Room)) (fun a U => a = #[(.ref a1)] ∧ Z.Warmed39 U.vm ∧ U.heap = h0) (fun _ _ _ _ _ => True) (fun _ U o U' => ∃ v L, o = .returned v ∧ Q7 Z a1 w2 h0 n0 v U'.heap L ∧ FrameEnd U o U' L ({ frames := 0, cells := 0, slots := 0, locals := 0 } : Room).cells ({ frames := 0, cells := 0, slots := 0, locals := 0 } : Room).slots) := by
  refine MetFree.of_bodySF (plainFor_of_name pn_7) hisR ?_
  intro p e s m args below meth c s₁ Bd hml0 hP hK
  obtain ⟨rfl, hZ, hh⟩ := hP
  have hx := Bd.exec
  have hby := Bd.bytes
  have hml : c.maxLocals = 1 := hml0
  have hown : s.vm.findClass "com/example/sansid/sansid/model/Register" = some m.cls := findClass_of_methodNamed Bd.named
  have hnm := (name_of_methodNamed Bd.named Bd.method).1
  have X0 : Stand p l e ({ frames := 0, cells := 0, slots := 0, locals := 0 } : Room) s m #[(.ref a1)] below meth c s₁ [] 0 0 := Stand.of_body Bd
  have e0 : s₁.heap = h0 := by rw [← hh, Bd.state]; rfl
  have N0 := Fr.nil n0
  have pre0 : ∀ t, Steps p.tables e below (s₁.setTop (mkF m 0 #[.val (.ref a1)] [])) t → Steps p.tables e below (s₁.setTop (entryFrame m #[(.ref a1)] 1)) t := fun t k => castTop (ef_7 m a1) k
  obtain ⟨T3, X3, e3, st3⟩ := getF X0 hx hZ hown (host := "") (Or.inl (hw _ (List.mem_of_getElem? (i := 37) rfl))) Via.refl e0 F_index_a1 (g := (mkF m 1 #[.val (.ref a1)] [(.ref a1)])) rfl rfl (hb hby d7_1)
  obtain ⟨fs, hr, hrun, hended, hW, hsame⟩ := X3.leave (v := some (.long w2)) (fun h => by rw [Bd.returns] at h; cases h)
  refine ⟨_, _, pre0 _ ?_, hrun, hended, _, _, rfl, ?_, ⟨_, rfl⟩, hW, hsame.mono (by decide) (by decide)⟩
  · show Steps p.tables e below (s₁.setTop (mkF m 0 #[.val (.ref a1)] [])) _
    refine XS.aloadN X0.here hx rfl (hb hby d7_0) rfl rfl ?_
    show Steps p.tables e below (s₁.setTop (mkF m 1 #[.val (.ref a1)] [(.ref a1)])) _
    refine st3 _ ?_
    show Steps p.tables e below (T3.setTop (mkF m 4 #[.val (.ref a1)] [(.long w2)])) _
    jvm_step X3.here [X3.here.top, hx, (hb hby d7_4), X3.method', Bd.returns, narrow]
    first | (intro acts; rw [hr _ acts rfl rfl rfl]) | rw [hr _ _ rfl rfl rfl]
    exact Steps.refl _
  · show Q7 Z a1 w2 h0 n0 _ T3.heap _
    rw [e3]
    exact ⟨rfl, N0, rfl⟩
theorem pn_0 : plainName "com/example/sansid/sansid/algorithm/CollectsRegisterPinLaw" = true := by first | (simp [plainName, overriddenIn]; done) | decide +kernel
theorem pd_0_0 : parseMethodDescriptor "(II)V" = some ⟨[.int, .int], none⟩ := by decide +kernel
theorem pd_0_2 : parseMethodDescriptor "(I)Lcom/example/sansid/sansid/model/Register;" = some ⟨[.int], some (.object "com/example/sansid/sansid/model/Register")⟩ := by decide +kernel
theorem pd_0_4 : parseMethodDescriptor "()J" = some ⟨[], some .long⟩ := by decide +kernel
theorem ef_0 (m : MethodId) (x0 : Int32) (x1 : Int32) (x2 : Int32) : entryFrame m #[(.int x0), (.int x1), (.int x2)] maxLocals = mkF m 0 #[.val (.int x0), .val (.int x1), .val (.int x2), .unset, .unset, .unset, .unset, .unset, .unset, .unset, .unset] [] := by first | (simp [entryFrame, mkF, argsToLocals, Value.category, maxLocals]; done) | rfl
def Q0 (Z : State) (p1 : Int32) (p2 : Int32) (p3 : Int32) (h0 : Heap) (n0 : Nat) (v : Option Value) (h : Heap) (L : List Loc) : Prop := v = some (.int (1 : Int32)) ∧ Fr n0 L
set_option maxRecDepth 65536 in
set_option maxHeartbeats 40000000 in
theorem rm0 (l : Launch) (Z : State) (a0 : Array Value) (hw : ∀ d ∈ tables_1, d.before a0 Z = true) (ws : List Jvm.Cond) (p1 : Int32) (p2 : Int32) (p3 : Int32) (h0 : Heap) (n0 : Nat) (Z0 : n0 ≤ h0.size) :
    MetFree l x (head1 (Jvm.Cond.code x code maxLocals ret :: ws) room_1) (fun a U => a = #[(.int p1), (.int p2), (.int p3)] ∧ Z.Warmed39 U.vm ∧ U.heap = h0) (fun _ _ _ _ _ => True) (fun _ U o U' => ∃ v L, o = .returned v ∧ Q0 Z p1 p2 p3 h0 n0 v U'.heap L ∧ FrameEnd U o U' L room_1.cells room_1.slots) := by
  refine MetFree.of_bodySF (plainFor_of_name pn_0) hisR ?_
  intro p e s m args below meth c s₁ Bd hml0 hP hK
  obtain ⟨rfl, hZ, hh⟩ := hP
  have hx := Bd.exec
  have hby := Bd.bytes
  have hml : c.maxLocals = 11 := hml0
  have hown : s.vm.findClass "com/example/sansid/sansid/algorithm/CollectsRegisterPinLaw" = some m.cls := findClass_of_methodNamed Bd.named
  have hnm := (name_of_methodNamed Bd.named Bd.method).1
  have X0 : Stand p l e room_1 s m #[(.int p1), (.int p2), (.int p3)] below meth c s₁ [] 0 0 := Stand.of_body Bd
  have e0 : s₁.heap = h0 := by rw [← hh, Bd.state]; rfl
  have N0 := Fr.nil n0
  have pre0 : ∀ t, Steps p.tables e below (s₁.setTop (mkF m 0 #[.val (.int p1), .val (.int p2), .val (.int p3), .unset, .unset, .unset, .unset, .unset, .unset, .unset, .unset] [])) t → Steps p.tables e below (s₁.setTop (entryFrame m #[(.int p1), (.int p2), (.int p3)] maxLocals)) t := fun t k => castTop (ef_0 m p1 p2 p3) k
  obtain ⟨T4, h4, X4, e4, E4, A4, D4, -, st4⟩ := newO X0 hx hZ hown (hw _ (List.mem_of_getElem? (i := 1) rfl)) (hw _ (List.mem_of_getElem? (i := 2) rfl)) (hw _ (List.mem_of_getElem? (i := 3) rfl)) e0 (g := (mkF m 18 #[.val (.int p1), .val (.int p2), .val (.int p3), .val (.int (own_m p2)), .val (.int (own_c p2 p3)), .unset, .unset, .unset, .unset, .unset, .unset] [])) rfl (hb hby at_18) (by decide) (by decide)
  obtain ⟨b4, g4⟩ : ∃ z, z = h0.size := ⟨_, rfl⟩
  rw [← g4] at A4 D4 st4
  have F_array_b4 : Fld Z h4 b4 "com/example/sansid/sansid/algorithm/Collects" "array" "I" (.int (0 : Int32)) := D4 (Or.inr (hw _ (List.mem_of_getElem? (i := 11) rfl))) (ty := .int) (by decide)
  have F_components_b4 : Fld Z h4 b4 "com/example/sansid/sansid/algorithm/Collects" "components" "I" (.int (0 : Int32)) := D4 (Or.inr (hw _ (List.mem_of_getElem? (i := 13) rfl))) (ty := .int) (by decide)
  have F_collect_b4 : Fld Z h4 b4 "com/example/sansid/sansid/algorithm/Collects" "collect" "[Ljava/lang/Object;" .null := D4 (Or.inl (hw _ (List.mem_of_getElem? (i := 17) rfl))) (ty := (.array (.object "java/lang/Object"))) (by decide)
  have E_b4 := A4
  have g_b4 : n0 ≤ b4 := Nat.le_trans Z0 (Nat.le_of_eq g4.symm)
  have sz_b4 : h0.size ≤ b4 := (Nat.le_trans (Keep.refl h0 []).1 (Nat.le_of_eq g4.symm))
  have K4 : Keep h0 h4 [] := (Keep.refl h0 []).ext E4
  obtain ⟨_, _, ⟨T5, L5, k5, n5⟩, -, X5, ⟨Lc5, hQ5, l5, y5, z5⟩, st5⟩ := X4.specialBack hx (y := (⟨"com/example/sansid/sansid/algorithm/Collects", "<init>", "(II)V"⟩ : MethodName)) rfl hown (mvT hZ (hw _ (List.mem_of_getElem? (i := 4) rfl))) (mvT hZ (hw _ (List.mem_of_getElem? (i := 5) rfl))) (mvT hZ (hw _ (List.mem_of_getElem? (i := 6) rfl))) (by decide) (backOf (W := 1) (rm1 l Z a0 hw [] b4 p1 (own_m p2) (.int (0 : Int32)) (.int (0 : Int32)) .null h4 n0 (Nat.le_trans Z0 E4.1) (own_neg p2) (own_cap p2) E_b4 F_array_b4 g_b4 F_components_b4 F_collect_b4) hZ (hw _ (List.mem_of_getElem? (i := 6) rfl)) (hw _ (List.mem_of_getElem? (i := 3) rfl)) (by decide) (by decide)) (g := (mkF m 24 #[.val (.int p1), .val (.int p2), .val (.int p3), .val (.int (own_m p2)), .val (.int (own_c p2 p3)), .unset, .unset, .unset, .unset, .unset, .unset] [(.int (own_m p2)), (.int p1), (.ref b4), (.ref b4)])) rfl (by rw [hml]; rfl) (Steps.refl _) (a := b4) (argsL := [(.int p1), (.int (own_m p2))]) (rest := [(.ref b4)]) (lenOf pd_0_0 rfl) rfl (by show 2 * 0 + _ ≤ _; exact Nat.le_of_eq rfl) (hb hby at_24) (fun _ _ => ⟨rfl, e4, (by decide : 1 + 1 ≤ _), (by decide : 6 + 256 ≤ _)⟩)
  dsimp only [Pt.U, Pt.locs, Pt.cells, Pt.slots] at X5 l5 y5 z5 st5 hQ5
  subst l5 y5 z5
  obtain ⟨rfl, N5q, K5q, E5q, Fa5, Fc5⟩ := hQ5
  have N5 := Fr.app N0 N5q
  obtain ⟨cq6, kq6, q6a, q6b, q6c⟩ := isOf hZ rfl E5q
  obtain ⟨_, _, ⟨T6, L6, k6, n6⟩, -, X6, ⟨Lc6, hQ6, l6, y6, z6⟩, st6⟩ := X5.virtualBack hx (y := (⟨"com/example/sansid/sansid/algorithm/Collects", "register", "(I)Lcom/example/sansid/sansid/model/Register;"⟩ : MethodName)) (z := (⟨"com/example/sansid/sansid/algorithm/Collects", "register", "(I)Lcom/example/sansid/sansid/model/Register;"⟩ : MethodName)) hown (mvT hZ (hw _ (List.mem_of_getElem? (i := 18) rfl))) (mvT hZ (hw _ (List.mem_of_getElem? (i := 19) rfl))) (notFace_of_selects (args := #[]) (mvT hZ (hw _ (List.mem_of_getElem? (i := 21) rfl)))) (mvT hZ (hw _ (List.mem_of_getElem? (i := 21) rfl))) (mvT hZ (hw _ (List.mem_of_getElem? (i := 20) rfl))) (by decide) (backOf (W := 0) (rm3 l Z a0 hw [] b4 (own_c p2 p3) p1 T5.heap n0 (Nat.le_trans (Nat.le_trans Z0 E4.1) K5q.1) Fa5) hZ (hw _ (List.mem_of_getElem? (i := 22) rfl)) (hw _ (List.mem_of_getElem? (i := 3) rfl)) (by decide) (by decide)) q6a q6c (g := (mkF m 33 #[.val (.int p1), .val (.int p2), .val (.int p3), .val (.int (own_m p2)), .val (.int (own_c p2 p3)), .val (.ref b4), .unset, .unset, .unset, .unset, .unset] [(.int (own_c p2 p3)), (.ref b4)])) rfl (by rw [hml]; rfl) (Steps.refl _) (argsL := [(.int (own_c p2 p3))]) (rest := []) (lenOf pd_0_2 rfl) rfl (by show 2 * 0 + _ ≤ _; exact Nat.le_of_eq rfl) (hb hby at_33) (fun _ _ => ⟨rfl, rfl, (by decide : 1 + 1 + 1 ≤ _), (by decide : 6 + 256 + 2 ≤ _)⟩)
  dsimp only [Pt.U, Pt.locs, Pt.cells, Pt.slots] at X6 l6 y6 z6 st6 hQ6
  subst l6 y6 z6
  obtain ⟨r6, rfl, N6q, K6q, E6q, Fr6a, Fr6i⟩ := hQ6
  have N6 := Fr.app N5 N6q
  obtain ⟨cq7, kq7, q7a, q7b, q7c⟩ := isOf hZ rfl E6q
  obtain ⟨_, _, ⟨T7, L7, k7, n7⟩, -, X7, ⟨Lc7, hQ7, l7, y7, z7⟩, st7⟩ := X6.virtualBack hx (y := (⟨"com/example/sansid/sansid/model/Register", "array", "()J"⟩ : MethodName)) (z := (⟨"com/example/sansid/sansid/model/Register", "array", "()J"⟩ : MethodName)) hown (mvT hZ (hw _ (List.mem_of_getElem? (i := 39) rfl))) (mvT hZ (hw _ (List.mem_of_getElem? (i := 40) rfl))) (notFace_of_selects (args := #[]) (mvT hZ (hw _ (List.mem_of_getElem? (i := 42) rfl)))) (mvT hZ (hw _ (List.mem_of_getElem? (i := 42) rfl))) (mvT hZ (hw _ (List.mem_of_getElem? (i := 41) rfl))) (by decide) (backOf (W := 0) (rm6 l Z a0 hw [] r6 (p1.toInt64) T6.heap n0 (Nat.le_trans (Nat.le_trans (Nat.le_trans Z0 E4.1) K5q.1) K6q.1) Fr6a) hZ (hw _ (List.mem_of_getElem? (i := 43) rfl)) (hw _ (List.mem_of_getElem? (i := 25) rfl)) (by decide) (by decide)) q7a q7c (g := (mkF m 56 #[.val (.int p1), .val (.int p2), .val (.int p3), .val (.int (own_m p2)), .val (.int (own_c p2 p3)), .val (.ref b4), .val (.ref r6), .val (.long (p1.toInt64)), .second, .val (.long ((own_c p2 p3).toInt64)), .second] [(.ref r6)])) rfl (by rw [hml]; rfl) (Steps.refl _) (argsL := []) (rest := []) (lenOf pd_0_4 rfl) rfl (by show 2 * 0 + _ ≤ _; exact Nat.le_of_eq rfl) (hb hby at_56) (fun _ _ => ⟨rfl, rfl, (by decide : 1 + 1 + 1 + 0 ≤ _), (by decide : 6 + 256 + 2 + 0 ≤ _)⟩)
  dsimp only [Pt.U, Pt.locs, Pt.cells, Pt.slots] at X7 l7 y7 z7 st7 hQ7
  subst l7 y7 z7
  obtain ⟨rfl, N7q, hs7⟩ := hQ7
  have N7 := Fr.app N6 N7q
  have E7q : Exa Z T7.heap r6 "com/example/sansid/sansid/model/Register" := by rw [hs7]; exact E6q
  obtain ⟨cq8, kq8, q8a, q8b, q8c⟩ := isOf hZ rfl E7q
  obtain ⟨_, _, ⟨T8, L8, k8, n8⟩, -, X8, ⟨Lc8, hQ8, l8, y8, z8⟩, st8⟩ := X7.virtualBack hx (y := (⟨"com/example/sansid/sansid/model/Register", "index", "()J"⟩ : MethodName)) (z := (⟨"com/example/sansid/sansid/model/Register", "index", "()J"⟩ : MethodName)) hown (mvT hZ (hw _ (List.mem_of_getElem? (i := 44) rfl))) (mvT hZ (hw _ (List.mem_of_getElem? (i := 45) rfl))) (notFace_of_selects (args := #[]) (mvT hZ (hw _ (List.mem_of_getElem? (i := 47) rfl)))) (mvT hZ (hw _ (List.mem_of_getElem? (i := 47) rfl))) (mvT hZ (hw _ (List.mem_of_getElem? (i := 46) rfl))) (by decide) (backOf (W := 0) (rm7 l Z a0 hw [] r6 ((own_c p2 p3).toInt64) T7.heap n0 (by rw [hs7]; exact Nat.le_trans (Nat.le_trans (Nat.le_trans Z0 E4.1) K5q.1) K6q.1) (by rw [hs7]; exact Fr6i)) hZ (hw _ (List.mem_of_getElem? (i := 48) rfl)) (hw _ (List.mem_of_getElem? (i := 25) rfl)) (by decide) (by decide)) q8a q8c (g := (mkF m 67 #[.val (.int p1), .val (.int p2), .val (.int p3), .val (.int (own_m p2)), .val (.int (own_c p2 p3)), .val (.ref b4), .val (.ref r6), .val (.long (p1.toInt64)), .second, .val (.long ((own_c p2 p3).toInt64)), .second] [(.ref r6)])) rfl (by rw [hml]; rfl) (Steps.refl _) (argsL := []) (rest := []) (lenOf pd_0_4 rfl) rfl (by show 2 * 0 + _ ≤ _; exact Nat.le_of_eq rfl) (hb hby at_67) (fun _ _ => ⟨rfl, rfl, (by decide : 1 + 1 + 1 + 0 + 0 ≤ _), (by decide : 6 + 256 + 2 + 0 + 0 ≤ _)⟩)
  dsimp only [Pt.U, Pt.locs, Pt.cells, Pt.slots] at X8 l8 y8 z8 st8 hQ8
  subst l8 y8 z8
  obtain ⟨rfl, N8q, hs8⟩ := hQ8
  have N8 := Fr.app N7 N8q
  obtain ⟨fs, hr, hrun, hended, hW, hsame⟩ := X8.leave (v := some (.int (1 : Int32))) (fun h => by rw [Bd.returns] at h; cases h)
  refine ⟨_, _, pre0 _ ?_, hrun, hended, _, _, rfl, ?_, ⟨_, rfl⟩, hW, hsame.mono (by decide) (by decide)⟩
  · show Steps p.tables e below (s₁.setTop (mkF m 0 #[.val (.int p1), .val (.int p2), .val (.int p3), .unset, .unset, .unset, .unset, .unset, .unset, .unset, .unset] [])) _
    refine XS.iconst X0.here hx rfl (hb hby at_0) ?_
    show Steps p.tables e below (s₁.setTop (mkF m 1 #[.val (.int p1), .val (.int p2), .val (.int p3), .unset, .unset, .unset, .unset, .unset, .unset, .unset, .unset] [(.int (1 : Int32))])) _
    refine XS.iloadN X0.here hx rfl (hb hby at_1) rfl ?_
    show Steps p.tables e below (s₁.setTop (mkF m 2 #[.val (.int p1), .val (.int p2), .val (.int p3), .unset, .unset, .unset, .unset, .unset, .unset, .unset, .unset] [(.int p2), (.int (1 : Int32))])) _
    refine XS.sipush X0.here hx rfl (hb hby at_2) ?_
    show Steps p.tables e below (s₁.setTop (mkF m 5 #[.val (.int p1), .val (.int p2), .val (.int p3), .unset, .unset, .unset, .unset, .unset, .unset, .unset, .unset] [(.int (255 : Int32)), (.int p2), (.int (1 : Int32))])) _
    refine XS.iand X0.here hx rfl (hb hby at_5) rfl ?_
    show Steps p.tables e below (s₁.setTop (mkF m 6 #[.val (.int p1), .val (.int p2), .val (.int p3), .unset, .unset, .unset, .unset, .unset, .unset, .unset, .unset] [(.int (p2 &&& (255 : Int32))), (.int (1 : Int32))])) _
    refine XS.iadd X0.here hx rfl (hb hby at_6) rfl ?_
    show Steps p.tables e below (s₁.setTop (mkF m 7 #[.val (.int p1), .val (.int p2), .val (.int p3), .unset, .unset, .unset, .unset, .unset, .unset, .unset, .unset] [(.int ((1 : Int32) + (p2 &&& (255 : Int32))))])) _
    refine XS.istoreN X0.here hx rfl (hb hby at_7) rfl (l' := #[.val (.int p1), .val (.int p2), .val (.int p3), .val (.int ((1 : Int32) + (p2 &&& (255 : Int32)))), .unset, .unset, .unset, .unset, .unset, .unset, .unset]) rfl ?_
    show Steps p.tables e below (s₁.setTop (mkF m 8 #[.val (.int p1), .val (.int p2), .val (.int p3), .val (.int (own_m p2)), .unset, .unset, .unset, .unset, .unset, .unset, .unset] [])) _
    refine XS.iconst X0.here hx rfl (hb hby at_8) ?_
    show Steps p.tables e below (s₁.setTop (mkF m 9 #[.val (.int p1), .val (.int p2), .val (.int p3), .val (.int (own_m p2)), .unset, .unset, .unset, .unset, .unset, .unset, .unset] [(.int (1 : Int32))])) _
    refine XS.iloadN X0.here hx rfl (hb hby at_9) rfl ?_
    show Steps p.tables e below (s₁.setTop (mkF m 10 #[.val (.int p1), .val (.int p2), .val (.int p3), .val (.int (own_m p2)), .unset, .unset, .unset, .unset, .unset, .unset, .unset] [(.int p3), (.int (1 : Int32))])) _
    refine X0.ldcInt hx hown (mvT hZ (hw _ (List.mem_of_getElem? (i := 0) rfl))) (g := (mkF m 10 #[.val (.int p1), .val (.int p2), .val (.int p3), .val (.int (own_m p2)), .unset, .unset, .unset, .unset, .unset, .unset, .unset] [(.int p3), (.int (1 : Int32))])) rfl (hb hby at_10) _ ?_
    show Steps p.tables e below (s₁.setTop (mkF m 12 #[.val (.int p1), .val (.int p2), .val (.int p3), .val (.int (own_m p2)), .unset, .unset, .unset, .unset, .unset, .unset, .unset] [(.int (2147483647 : Int32)), (.int p3), (.int (1 : Int32))])) _
    refine XS.iand X0.here hx rfl (hb hby at_12) rfl ?_
    show Steps p.tables e below (s₁.setTop (mkF m 13 #[.val (.int p1), .val (.int p2), .val (.int p3), .val (.int (own_m p2)), .unset, .unset, .unset, .unset, .unset, .unset, .unset] [(.int (p3 &&& (2147483647 : Int32))), (.int (1 : Int32))])) _
    refine XS.iloadN X0.here hx rfl (hb hby at_13) rfl ?_
    show Steps p.tables e below (s₁.setTop (mkF m 14 #[.val (.int p1), .val (.int p2), .val (.int p3), .val (.int (own_m p2)), .unset, .unset, .unset, .unset, .unset, .unset, .unset] [(.int (own_m p2)), (.int (p3 &&& (2147483647 : Int32))), (.int (1 : Int32))])) _
    refine Jvm.RoadKit.iremM X0 hx rfl (hb hby at_14) rfl (own_nz p2) ?_
    show Steps p.tables e below (s₁.setTop (mkF m 15 #[.val (.int p1), .val (.int p2), .val (.int p3), .val (.int (own_m p2)), .unset, .unset, .unset, .unset, .unset, .unset, .unset] [(.int ((p3 &&& (2147483647 : Int32)) % (own_m p2))), (.int (1 : Int32))])) _
    refine XS.iadd X0.here hx rfl (hb hby at_15) rfl ?_
    show Steps p.tables e below (s₁.setTop (mkF m 16 #[.val (.int p1), .val (.int p2), .val (.int p3), .val (.int (own_m p2)), .unset, .unset, .unset, .unset, .unset, .unset, .unset] [(.int ((1 : Int32) + ((p3 &&& (2147483647 : Int32)) % (own_m p2))))])) _
    refine XS.istore X0.here hx rfl (hb hby at_16) rfl (l' := #[.val (.int p1), .val (.int p2), .val (.int p3), .val (.int (own_m p2)), .val (.int ((1 : Int32) + ((p3 &&& (2147483647 : Int32)) % (own_m p2)))), .unset, .unset, .unset, .unset, .unset, .unset]) rfl ?_
    show Steps p.tables e below (s₁.setTop (mkF m 18 #[.val (.int p1), .val (.int p2), .val (.int p3), .val (.int (own_m p2)), .val (.int (own_c p2 p3)), .unset, .unset, .unset, .unset, .unset, .unset] [])) _
    refine st4 _ ?_
    show Steps p.tables e below (T4.setTop (mkF m 21 #[.val (.int p1), .val (.int p2), .val (.int p3), .val (.int (own_m p2)), .val (.int (own_c p2 p3)), .unset, .unset, .unset, .unset, .unset, .unset] [(.ref b4)])) _
    refine XS.dup X4.here hx rfl (hb hby at_21) rfl rfl ?_
    show Steps p.tables e below (T4.setTop (mkF m 22 #[.val (.int p1), .val (.int p2), .val (.int p3), .val (.int (own_m p2)), .val (.int (own_c p2 p3)), .unset, .unset, .unset, .unset, .unset, .unset] [(.ref b4), (.ref b4)])) _
    refine XS.iloadN X4.here hx rfl (hb hby at_22) rfl ?_
    show Steps p.tables e below (T4.setTop (mkF m 23 #[.val (.int p1), .val (.int p2), .val (.int p3), .val (.int (own_m p2)), .val (.int (own_c p2 p3)), .unset, .unset, .unset, .unset, .unset, .unset] [(.int p1), (.ref b4), (.ref b4)])) _
    refine XS.iloadN X4.here hx rfl (hb hby at_23) rfl ?_
    show Steps p.tables e below (T4.setTop (mkF m 24 #[.val (.int p1), .val (.int p2), .val (.int p3), .val (.int (own_m p2)), .val (.int (own_c p2 p3)), .unset, .unset, .unset, .unset, .unset, .unset] [(.int (own_m p2)), (.int p1), (.ref b4), (.ref b4)])) _
    refine st5.trans ?_
    show Steps p.tables e below (T5.setTop (mkF m 27 #[.val (.int p1), .val (.int p2), .val (.int p3), .val (.int (own_m p2)), .val (.int (own_c p2 p3)), .unset, .unset, .unset, .unset, .unset, .unset] [(.ref b4)])) _
    refine XS.astore X5.here hx rfl (hb hby at_27) rfl rfl (l' := #[.val (.int p1), .val (.int p2), .val (.int p3), .val (.int (own_m p2)), .val (.int (own_c p2 p3)), .val (.ref b4), .unset, .unset, .unset, .unset, .unset]) rfl ?_
    show Steps p.tables e below (T5.setTop (mkF m 29 #[.val (.int p1), .val (.int p2), .val (.int p3), .val (.int (own_m p2)), .val (.int (own_c p2 p3)), .val (.ref b4), .unset, .unset, .unset, .unset, .unset] [])) _
    refine XS.aload X5.here hx rfl (hb hby at_29) rfl rfl ?_
    show Steps p.tables e below (T5.setTop (mkF m 31 #[.val (.int p1), .val (.int p2), .val (.int p3), .val (.int (own_m p2)), .val (.int (own_c p2 p3)), .val (.ref b4), .unset, .unset, .unset, .unset, .unset] [(.ref b4)])) _
    refine XS.iload X5.here hx rfl (hb hby at_31) rfl ?_
    show Steps p.tables e below (T5.setTop (mkF m 33 #[.val (.int p1), .val (.int p2), .val (.int p3), .val (.int (own_m p2)), .val (.int (own_c p2 p3)), .val (.ref b4), .unset, .unset, .unset, .unset, .unset] [(.int (own_c p2 p3)), (.ref b4)])) _
    refine st6.trans ?_
    show Steps p.tables e below (T6.setTop (mkF m 36 #[.val (.int p1), .val (.int p2), .val (.int p3), .val (.int (own_m p2)), .val (.int (own_c p2 p3)), .val (.ref b4), .unset, .unset, .unset, .unset, .unset] [(.ref r6)])) _
    refine XS.astore X6.here hx rfl (hb hby at_36) rfl rfl (l' := #[.val (.int p1), .val (.int p2), .val (.int p3), .val (.int (own_m p2)), .val (.int (own_c p2 p3)), .val (.ref b4), .val (.ref r6), .unset, .unset, .unset, .unset]) rfl ?_
    show Steps p.tables e below (T6.setTop (mkF m 38 #[.val (.int p1), .val (.int p2), .val (.int p3), .val (.int (own_m p2)), .val (.int (own_c p2 p3)), .val (.ref b4), .val (.ref r6), .unset, .unset, .unset, .unset] [])) _
    refine XS.aload X6.here hx rfl (hb hby at_38) rfl rfl ?_
    show Steps p.tables e below (T6.setTop (mkF m 40 #[.val (.int p1), .val (.int p2), .val (.int p3), .val (.int (own_m p2)), .val (.int (own_c p2 p3)), .val (.ref b4), .val (.ref r6), .unset, .unset, .unset, .unset] [(.ref r6)])) _
    refine XS.ifnonnullYes X6.here hx rfl (pc0 := 40) (pc' := 45) rfl (hb hby at_40) rfl (by decide) (by decide) ?_
    show Steps p.tables e below (T6.setTop (mkF m 45 #[.val (.int p1), .val (.int p2), .val (.int p3), .val (.int (own_m p2)), .val (.int (own_c p2 p3)), .val (.ref b4), .val (.ref r6), .unset, .unset, .unset, .unset] [])) _
    refine XS.iloadN X6.here hx rfl (hb hby at_45) rfl ?_
    show Steps p.tables e below (T6.setTop (mkF m 46 #[.val (.int p1), .val (.int p2), .val (.int p3), .val (.int (own_m p2)), .val (.int (own_c p2 p3)), .val (.ref b4), .val (.ref r6), .unset, .unset, .unset, .unset] [(.int p1)])) _
    refine XS.i2l X6.here hx rfl (hb hby at_46) rfl ?_
    show Steps p.tables e below (T6.setTop (mkF m 47 #[.val (.int p1), .val (.int p2), .val (.int p3), .val (.int (own_m p2)), .val (.int (own_c p2 p3)), .val (.ref b4), .val (.ref r6), .unset, .unset, .unset, .unset] [(.long (p1.toInt64))])) _
    refine XS.lstore X6.here hx rfl (hb hby at_47) rfl (l' := #[.val (.int p1), .val (.int p2), .val (.int p3), .val (.int (own_m p2)), .val (.int (own_c p2 p3)), .val (.ref b4), .val (.ref r6), .val (.long (p1.toInt64)), .second, .unset, .unset]) rfl ?_
    show Steps p.tables e below (T6.setTop (mkF m 49 #[.val (.int p1), .val (.int p2), .val (.int p3), .val (.int (own_m p2)), .val (.int (own_c p2 p3)), .val (.ref b4), .val (.ref r6), .val (.long (p1.toInt64)), .second, .unset, .unset] [])) _
    refine XS.iload X6.here hx rfl (hb hby at_49) rfl ?_
    show Steps p.tables e below (T6.setTop (mkF m 51 #[.val (.int p1), .val (.int p2), .val (.int p3), .val (.int (own_m p2)), .val (.int (own_c p2 p3)), .val (.ref b4), .val (.ref r6), .val (.long (p1.toInt64)), .second, .unset, .unset] [(.int (own_c p2 p3))])) _
    refine XS.i2l X6.here hx rfl (hb hby at_51) rfl ?_
    show Steps p.tables e below (T6.setTop (mkF m 52 #[.val (.int p1), .val (.int p2), .val (.int p3), .val (.int (own_m p2)), .val (.int (own_c p2 p3)), .val (.ref b4), .val (.ref r6), .val (.long (p1.toInt64)), .second, .unset, .unset] [(.long ((own_c p2 p3).toInt64))])) _
    refine XS.lstore X6.here hx rfl (hb hby at_52) rfl (l' := #[.val (.int p1), .val (.int p2), .val (.int p3), .val (.int (own_m p2)), .val (.int (own_c p2 p3)), .val (.ref b4), .val (.ref r6), .val (.long (p1.toInt64)), .second, .val (.long ((own_c p2 p3).toInt64)), .second]) rfl ?_
    show Steps p.tables e below (T6.setTop (mkF m 54 #[.val (.int p1), .val (.int p2), .val (.int p3), .val (.int (own_m p2)), .val (.int (own_c p2 p3)), .val (.ref b4), .val (.ref r6), .val (.long (p1.toInt64)), .second, .val (.long ((own_c p2 p3).toInt64)), .second] [])) _
    refine XS.aload X6.here hx rfl (hb hby at_54) rfl rfl ?_
    show Steps p.tables e below (T6.setTop (mkF m 56 #[.val (.int p1), .val (.int p2), .val (.int p3), .val (.int (own_m p2)), .val (.int (own_c p2 p3)), .val (.ref b4), .val (.ref r6), .val (.long (p1.toInt64)), .second, .val (.long ((own_c p2 p3).toInt64)), .second] [(.ref r6)])) _
    refine st7.trans ?_
    show Steps p.tables e below (T7.setTop (mkF m 59 #[.val (.int p1), .val (.int p2), .val (.int p3), .val (.int (own_m p2)), .val (.int (own_c p2 p3)), .val (.ref b4), .val (.ref r6), .val (.long (p1.toInt64)), .second, .val (.long ((own_c p2 p3).toInt64)), .second] [(.long (p1.toInt64))])) _
    refine XS.lload X7.here hx rfl (hb hby at_59) rfl ?_
    show Steps p.tables e below (T7.setTop (mkF m 61 #[.val (.int p1), .val (.int p2), .val (.int p3), .val (.int (own_m p2)), .val (.int (own_c p2 p3)), .val (.ref b4), .val (.ref r6), .val (.long (p1.toInt64)), .second, .val (.long ((own_c p2 p3).toInt64)), .second] [(.long (p1.toInt64)), (.long (p1.toInt64))])) _
    refine XS.lcmp X7.here hx rfl (hb hby at_61) rfl ?_
    show Steps p.tables e below (T7.setTop (mkF m 62 #[.val (.int p1), .val (.int p2), .val (.int p3), .val (.int (own_m p2)), .val (.int (own_c p2 p3)), .val (.ref b4), .val (.ref r6), .val (.long (p1.toInt64)), .second, .val (.long ((own_c p2 p3).toInt64)), .second] [(.int (lcmpW (p1.toInt64) (p1.toInt64)))])) _
    refine XS.ifNo X7.here hx rfl (hb hby at_62) rfl ((if0 _ _).trans (teq (own_lc0 _ : (lcmpW (p1.toInt64) (p1.toInt64)) = (0 : Int32))).2) ?_
    show Steps p.tables e below (T7.setTop (mkF m 65 #[.val (.int p1), .val (.int p2), .val (.int p3), .val (.int (own_m p2)), .val (.int (own_c p2 p3)), .val (.ref b4), .val (.ref r6), .val (.long (p1.toInt64)), .second, .val (.long ((own_c p2 p3).toInt64)), .second] [])) _
    refine XS.aload X7.here hx rfl (hb hby at_65) rfl rfl ?_
    show Steps p.tables e below (T7.setTop (mkF m 67 #[.val (.int p1), .val (.int p2), .val (.int p3), .val (.int (own_m p2)), .val (.int (own_c p2 p3)), .val (.ref b4), .val (.ref r6), .val (.long (p1.toInt64)), .second, .val (.long ((own_c p2 p3).toInt64)), .second] [(.ref r6)])) _
    refine st8.trans ?_
    show Steps p.tables e below (T8.setTop (mkF m 70 #[.val (.int p1), .val (.int p2), .val (.int p3), .val (.int (own_m p2)), .val (.int (own_c p2 p3)), .val (.ref b4), .val (.ref r6), .val (.long (p1.toInt64)), .second, .val (.long ((own_c p2 p3).toInt64)), .second] [(.long ((own_c p2 p3).toInt64))])) _
    refine XS.lload X8.here hx rfl (hb hby at_70) rfl ?_
    show Steps p.tables e below (T8.setTop (mkF m 72 #[.val (.int p1), .val (.int p2), .val (.int p3), .val (.int (own_m p2)), .val (.int (own_c p2 p3)), .val (.ref b4), .val (.ref r6), .val (.long (p1.toInt64)), .second, .val (.long ((own_c p2 p3).toInt64)), .second] [(.long ((own_c p2 p3).toInt64)), (.long ((own_c p2 p3).toInt64))])) _
    refine XS.lcmp X8.here hx rfl (hb hby at_72) rfl ?_
    show Steps p.tables e below (T8.setTop (mkF m 73 #[.val (.int p1), .val (.int p2), .val (.int p3), .val (.int (own_m p2)), .val (.int (own_c p2 p3)), .val (.ref b4), .val (.ref r6), .val (.long (p1.toInt64)), .second, .val (.long ((own_c p2 p3).toInt64)), .second] [(.int (lcmpW ((own_c p2 p3).toInt64) ((own_c p2 p3).toInt64)))])) _
    refine XS.ifNo X8.here hx rfl (hb hby at_73) rfl ((if0 _ _).trans (teq (own_lc0 _ : (lcmpW ((own_c p2 p3).toInt64) ((own_c p2 p3).toInt64)) = (0 : Int32))).2) ?_
    show Steps p.tables e below (T8.setTop (mkF m 76 #[.val (.int p1), .val (.int p2), .val (.int p3), .val (.int (own_m p2)), .val (.int (own_c p2 p3)), .val (.ref b4), .val (.ref r6), .val (.long (p1.toInt64)), .second, .val (.long ((own_c p2 p3).toInt64)), .second] [])) _
    refine XS.iconst X8.here hx rfl (hb hby at_76) ?_
    show Steps p.tables e below (T8.setTop (mkF m 77 #[.val (.int p1), .val (.int p2), .val (.int p3), .val (.int (own_m p2)), .val (.int (own_c p2 p3)), .val (.ref b4), .val (.ref r6), .val (.long (p1.toInt64)), .second, .val (.long ((own_c p2 p3).toInt64)), .second] [(.int (1 : Int32))])) _
    refine XS.goto X8.here hx rfl (pc0 := 77) (pc' := 81) rfl (hb hby at_77) (by decide) (by decide) ?_
    show Steps p.tables e below (T8.setTop (mkF m 81 #[.val (.int p1), .val (.int p2), .val (.int p3), .val (.int (own_m p2)), .val (.int (own_c p2 p3)), .val (.ref b4), .val (.ref r6), .val (.long (p1.toInt64)), .second, .val (.long ((own_c p2 p3).toInt64)), .second] [(.int (1 : Int32))])) _
    exact retN X8 hx (t := .boolean) Bd.returns (by simp) (hb hby at_81) hr
  · show Q0 Z p1 p2 p3 h0 n0 _ T8.heap _
    exact ⟨rfl, N8⟩
set_option maxRecDepth 65536 in
set_option maxHeartbeats 40000000 in
theorem comes_1 {Post : Tables → Env → Array Value → State → Outcome → State → Prop} (hpost : ∀ tb e args s v u, (limb_1_1.after args s (.returned v) u = true ∧ limb_1_2.after args s (.returned v) u = true ∧ True) → FrameEnd s (.returned v) u (Jvm.fieldLocs frame_1_writes args s ++ Jvm.arrayLocs frame_1_arrays args s ++ Jvm.staticLocs frame_1_statics s) 16 640 → Post tb e args s (.returned v) u) :
    ArmFor flags0 classFile x code maxLocals ret World_1 tables_1 room_1 Calls_1 rest_1 Pre_1 Post := by
  intro l hfl _ _ p e ha hc hk s m args below hf hA hF happ hP
  obtain ⟨hcalls, hrest, hpre⟩ := hP
  obtain ⟨-, -, -, hnamed, -, -, -, hat⟩ := (Spec.applies_iff hf).mp happ
  obtain ⟨hg, hn⟩ := and_e (Cond.before_iff.mp (show (Jvm.Cond.and given_1 narrow_1).before args s = true from hpre))
  obtain ⟨g9, g10⟩ := and_e hg
  obtain ⟨g11, g12⟩ := and_e g10
  obtain ⟨g13, g14⟩ := and_e g12
  obtain ⟨w0, w1, w2, rfl⟩ : ∃ w0 w1 w2 : Value, args = #[w0, w1, w2] := by
    have hs : args.size = 3 := by simpa [Cond.value, given_1] using g9
    obtain ⟨L⟩ := args
    match L, hs with
    | [w0, w1, w2], _ => exact ⟨w0, w1, w2, rfl⟩
  have hw := fun d (hd : d ∈ tables_1) => atoms_spec (ws := Jvm.Cond.code x code maxLocals ret :: tables_1) hat d (List.mem_cons_of_mem _ hd)
  have hfit : Fit s := fun {y c} hc i hi => by
    obtain ⟨ha, rfl⟩ := Array.getElem?_eq_some_iff.mp hc
    have q := List.all_eq_true.mp ((Array.all_eq_true_iff_forall_mem.mp hF) _ (Array.getElem_mem ha)) i (List.mem_range.mpr hi)
    simpa [Array.getElem?_eq_getElem hi] using q
  obtain ⟨i0, ei0⟩ := is_v g11
  obtain rfl : w0 = (.int i0) := Option.some.inj ei0
  obtain ⟨i1, ei1⟩ := is_v g13
  obtain rfl : w1 = (.int i1) := Option.some.inj ei1
  obtain ⟨i2, ei2⟩ := is_v g14
  obtain rfl : w2 = (.int i2) := Option.some.inj ei2
  obtain ⟨n, o, h1, h2, h3, _, L, rfl, ⟨rfl, N⟩, hq⟩ := rm0 l s _ hw tables_1 i0 i1 i2 s.heap s.heap.size (Nat.le_refl _) p e ha hc hk s m _ below hf ((Spec.applies_iff_loose hf).mp happ).1 ⟨rfl, State.Warmed39.refl s, rfl⟩ trivial
  refine ⟨n, _, h1, h2, h3, hpost _ _ _ _ _ _ ⟨Cond.after_iff.mpr rfl, Cond.after_iff.mpr (eq_i res_at (Term.int_eval (1)) rfl), trivial⟩ ⟨hq.1, hq.2.1, (hq.2.2.sift fun y hy => Or.inr (N y hy)).mono (by decide) (by decide)⟩⟩
theorem main_1_1 : Claimed_1_1 := comes_1 fun _ _ _ _ _ _ h hF => ⟨h.1, hF⟩
theorem main_1_2 : Claimed_1_2 := comes_1 fun _ _ _ _ _ _ h hF => ⟨h.2.1, hF⟩
end Jvm.Pilot.@@N@@
namespace Jvm.Pilot.@@N@@
open Jvm Jvm.ClassFile Sem Op Lib Jvm.Free Jvm.Stand Jvm.Pilot.@@N@@.Jvm.D
/-! MADE BY PROGRAM (witnessworld.py) out of the Statement's table words and the real class files: 10 classes; the members and pool entries that the words name. The judged class is class 1, her method 1. -/
namespace start1
open Jvm.ClassFile
def u (s : String) : CpInfo := .utf8 (stringToUtf16 s)
/-- a pool by its gaps: so many unusable entries, then the entry; so many at the end -/
def gap : Nat → List CpInfo → List CpInfo
  | 0, r => r
  | n + 1, r => .unusable :: gap n r
def poolList (es : List (Nat × CpInfo)) (last : Nat) : List CpInfo := es.foldr (fun e r => gap e.1 (e.2 :: r)) (gap last [])
def pool (es : List (Nat × CpInfo)) (last : Nat) : Array CpInfo := ⟨poolList es last⟩
def fileOf (pool : Array CpInfo) (this : Nat) (attrs : Array Attribute := #[]) (ms : Array MethodInfo := #[]) (fl : Nat := 33) (sup : Nat := 0) (ifs : Array Nat := #[]) (fds : Array FieldInfo := #[]) : ClassFile where
  minorVersion := 0
  majorVersion := 65
  constantPool := pool
  accessFlags := fl
  thisClass := this
  superClass := sup
  interfaces := ifs
  fields := fds
  methods := ms
  attributes := attrs
def plain (name : String) (sup : Option ClassId) : Class where
  name := name
  kind := .ordinary
  loader := none
  accessFlags := 33
  super := sup
  interfaces := #[]
  cf := none
  fields := #[]
  methods := #[]
  instanceTypes := #[]
  staticTypes := #[]
  resolved := #[]
  callSites := []
  init := .initialized
  statics := none
  mirror := none

def pool0 : Array CpInfo := pool [(5, u "<init>"), (0, u "()V"), (1, .class_ 10), (1, u "java/lang/Object")] 113

def k0c0 : Code := { maxStack := 0, maxLocals := 1, code := object_method_1_code, exceptionTable := #[], attributes := #[] }
def k0m0 : Method := { name := "<init>", desc := "()V", sig := { parameters := [], returnType := none }, accessFlags := 1, code := some k0c0 }
/-- java/lang/Object -/
def k0 : Class := { plain "java/lang/Object" none with
  accessFlags := 33
  interfaces := #[]
  cf := some (fileOf pool0 8 #[] #[{ accessFlags := 1, nameIndex := 5, descriptorIndex := 6, attributes := #[] }] 33 0 #[] #[])
  fields := #[]
  methods := #[k0m0]
  instanceTypes := #[]
  staticTypes := #[]
  resolved := Array.replicate 124 none
  statics := none }

def pool1 : Array CpInfo := pool [(2, .class_ 4), (1, u "java/lang/Object"), (0, u "<init>"), (0, u "()V"), (0, .integer 2147483647), (0, .class_ 9), (0, u "com/example/sansid/sansid/algorithm/Collects"), (0, .methodref 8 11), (0, .nameAndType 5 12), (0, u "(II)V"), (0, .methodref 8 14), (0, .nameAndType 15 16), (0, u "register"), (0, u "(I)Lcom/example/sansid/sansid/model/Register;"), (0, .methodref 18 19), (0, .class_ 20), (0, .nameAndType 21 22), (0, u "com/example/sansid/sansid/model/Register"), (0, u "array"), (0, u "()J"), (0, .methodref 18 24), (0, .nameAndType 25 22), (0, u "index"), (0, .class_ 27), (0, u "com/example/sansid/sansid/algorithm/CollectsRegisterPinLaw"), (2, u "law"), (0, u "(III)Z")] 3

def k1m0 : Method := { name := "<init>", desc := "()V", sig := { parameters := [], returnType := none }, accessFlags := 2, code := none }
def k1c1 : Code := { maxStack := 4, maxLocals := 11, code := code, exceptionTable := #[], attributes := #[] }
def k1m1 : Method := { name := "law", desc := "(III)Z", sig := { parameters := [.int, .int, .int], returnType := some .boolean }, accessFlags := 9, code := some k1c1 }
/-- com/example/sansid/sansid/algorithm/CollectsRegisterPinLaw -/
def k1 : Class := { plain "com/example/sansid/sansid/algorithm/CollectsRegisterPinLaw" (some 0) with
  accessFlags := 49
  interfaces := #[]
  cf := some (fileOf pool1 26 #[] #[{ accessFlags := 2, nameIndex := 5, descriptorIndex := 6, attributes := #[] }, { accessFlags := 9, nameIndex := 30, descriptorIndex := 31, attributes := #[] }] 49 2 #[] #[])
  fields := #[]
  methods := #[k1m0, k1m1]
  instanceTypes := #[]
  staticTypes := #[]
  resolved := Array.replicate 35 none
  statics := none }

def pool2 : Array CpInfo := pool [(1, .methodref 2 3), (0, .class_ 4), (0, .nameAndType 5 6), (0, u "java/lang/Object"), (0, u "<init>"), (0, u "()V"), (0, .fieldref 8 9), (0, .class_ 10), (0, .nameAndType 11 12), (0, u "com/example/sansid/sansid/algorithm/Collects"), (0, u "array"), (0, u "I"), (0, .fieldref 8 14), (0, .nameAndType 15 12), (0, u "components"), (0, .fieldref 8 17), (0, .nameAndType 18 19), (0, u "collect"), (0, u "[Ljava/lang/Object;"), (7, u "read"), (2, u "last"), (2, u "identical"), (0, u "J"), (39, .class_ 75), (0, u "com/example/sansid/sansid/model/Register"), (0, .methodref 74 77), (0, .nameAndType 5 78), (0, u "(JJ)V"), (2, u "register"), (0, u "(I)Lcom/example/sansid/sansid/model/Register;"), (13, u "(II)V")] 14

def k2c0 : Code := { maxStack := 2, maxLocals := 3, code := prog_7_method_1_code, exceptionTable := #[], attributes := #[] }
def k2m0 : Method := { name := "<init>", desc := "(II)V", sig := { parameters := [.int, .int], returnType := none }, accessFlags := 0, code := some k2c0 }
def k2c1 : Code := { maxStack := 6, maxLocals := 2, code := prog_7_method_7_code, exceptionTable := #[], attributes := #[] }
def k2m1 : Method := { name := "register", desc := "(I)Lcom/example/sansid/sansid/model/Register;", sig := { parameters := [.int], returnType := some (.object "com/example/sansid/sansid/model/Register") }, accessFlags := 0, code := some k2c1 }
/-- com/example/sansid/sansid/algorithm/Collects -/
def k2 : Class := { plain "com/example/sansid/sansid/algorithm/Collects" (some 0) with
  accessFlags := 48
  interfaces := #[]
  cf := some (fileOf pool2 8 #[] #[{ accessFlags := 0, nameIndex := 5, descriptorIndex := 96, attributes := #[] }, { accessFlags := 0, nameIndex := 81, descriptorIndex := 82, attributes := #[] }] 48 2 #[] #[{ accessFlags := 18, nameIndex := 11, descriptorIndex := 12, attributes := #[] }, { accessFlags := 18, nameIndex := 15, descriptorIndex := 12, attributes := #[] }, { accessFlags := 2, nameIndex := 18, descriptorIndex := 19, attributes := #[] }, { accessFlags := 2, nameIndex := 27, descriptorIndex := 12, attributes := #[] }, { accessFlags := 2, nameIndex := 30, descriptorIndex := 19, attributes := #[] }, { accessFlags := 2, nameIndex := 33, descriptorIndex := 34, attributes := #[] }])
  fields := #[{ name := "array", type := .int, accessFlags := 18, slot := 0, constantValue := 0 }, { name := "components", type := .int, accessFlags := 18, slot := 1, constantValue := 0 }, { name := "collect", type := (.array (.object "java/lang/Object")), accessFlags := 2, slot := 2, constantValue := 0 }, { name := "read", type := .int, accessFlags := 2, slot := 3, constantValue := 0 }, { name := "last", type := (.array (.object "java/lang/Object")), accessFlags := 2, slot := 4, constantValue := 0 }, { name := "identical", type := .long, accessFlags := 2, slot := 5, constantValue := 0 }]
  methods := #[k2m0, k2m1]
  instanceTypes := #[.int, .int, (.array (.object "java/lang/Object")), .int, (.array (.object "java/lang/Object")), .long]
  staticTypes := #[]
  resolved := Array.replicate 111 none
  statics := none }

def pool3 : Array CpInfo := pool [(1, .methodref 2 3), (0, .class_ 4), (0, .nameAndType 5 6), (0, u "java/lang/Object"), (0, u "<init>"), (0, u "()V"), (0, .class_ 8), (0, u "java/lang/Record")] 13

def k3c0 : Code := { maxStack := 1, maxLocals := 1, code := jdk_30_method_1_code, exceptionTable := #[], attributes := #[] }
def k3m0 : Method := { name := "<init>", desc := "()V", sig := { parameters := [], returnType := none }, accessFlags := 4, code := some k3c0 }
/-- java/lang/Record -/
def k3 : Class := { plain "java/lang/Record" (some 0) with
  accessFlags := 1057
  interfaces := #[]
  cf := some (fileOf pool3 7 #[] #[{ accessFlags := 4, nameIndex := 5, descriptorIndex := 6, attributes := #[] }] 1057 2 #[] #[])
  fields := #[]
  methods := #[k3m0]
  instanceTypes := #[]
  staticTypes := #[]
  resolved := Array.replicate 22 none
  statics := none }

def pool4 : Array CpInfo := pool [(1, .methodref 2 3), (0, .class_ 4), (0, .nameAndType 5 6), (0, u "java/lang/Record"), (0, u "<init>"), (0, u "()V"), (0, .fieldref 8 9), (0, .class_ 10), (0, .nameAndType 11 12), (0, u "com/example/sansid/sansid/model/Register"), (0, u "array"), (0, u "J"), (0, .fieldref 8 14), (0, .nameAndType 15 12), (0, u "index"), (12, u "(JJ)V"), (6, u "()J")] 21

def k4c0 : Code := { maxStack := 3, maxLocals := 5, code := prog_106_method_1_code, exceptionTable := #[], attributes := #[] }
def k4m0 : Method := { name := "<init>", desc := "(JJ)V", sig := { parameters := [.long, .long], returnType := none }, accessFlags := 1, code := some k4c0 }
def k4c1 : Code := { maxStack := 2, maxLocals := 1, code := prog_106_method_5_code, exceptionTable := #[], attributes := #[] }
def k4m1 : Method := { name := "array", desc := "()J", sig := { parameters := [], returnType := some .long }, accessFlags := 1, code := some k4c1 }
def k4c2 : Code := { maxStack := 2, maxLocals := 1, code := prog_106_method_6_code, exceptionTable := #[], attributes := #[] }
def k4m2 : Method := { name := "index", desc := "()J", sig := { parameters := [], returnType := some .long }, accessFlags := 1, code := some k4c2 }
/-- com/example/sansid/sansid/model/Register -/
def k4 : Class := { plain "com/example/sansid/sansid/model/Register" (some 3) with
  accessFlags := 49
  interfaces := #[]
  cf := some (fileOf pool4 8 #[] #[{ accessFlags := 1, nameIndex := 5, descriptorIndex := 28, attributes := #[] }, { accessFlags := 1, nameIndex := 11, descriptorIndex := 35, attributes := #[] }, { accessFlags := 1, nameIndex := 15, descriptorIndex := 35, attributes := #[] }] 49 2 #[] #[{ accessFlags := 18, nameIndex := 11, descriptorIndex := 12, attributes := #[] }, { accessFlags := 18, nameIndex := 15, descriptorIndex := 12, attributes := #[] }])
  fields := #[{ name := "array", type := .long, accessFlags := 18, slot := 0, constantValue := 0 }, { name := "index", type := .long, accessFlags := 18, slot := 1, constantValue := 0 }]
  methods := #[k4m0, k4m1, k4m2]
  instanceTypes := #[.long, .long]
  staticTypes := #[]
  resolved := Array.replicate 57 none
  statics := none }

def pool5 : Array CpInfo := pool [(1, u "java/lang/Cloneable"), (0, .class_ 1), (0, u "java/lang/Object"), (0, .class_ 3)] 3

/-- java/lang/Cloneable -/
def k5 : Class := { plain "java/lang/Cloneable" (some 0) with
  accessFlags := 1537
  interfaces := #[]
  cf := some (fileOf pool5 2 #[] #[] 1537 4 #[] #[])
  fields := #[]
  methods := #[]
  instanceTypes := #[]
  staticTypes := #[]
  resolved := Array.replicate 8 none
  statics := none }

def pool6 : Array CpInfo := pool [(1, u "java/io/Serializable"), (0, .class_ 1), (0, u "java/lang/Object"), (0, .class_ 3)] 3

/-- java/io/Serializable -/
def k6 : Class := { plain "java/io/Serializable" (some 0) with
  accessFlags := 1537
  interfaces := #[]
  cf := some (fileOf pool6 2 #[] #[] 1537 4 #[] #[])
  fields := #[]
  methods := #[]
  instanceTypes := #[]
  staticTypes := #[]
  resolved := Array.replicate 8 none
  statics := none }

/-- the primitive byte -/
def k7 : Class := { plain "byte" none with kind := .primitive 'B', accessFlags := 0x411 }
/-- [B -/
def k8 : Class := { plain "[B" (some 0) with kind := .array 7 .byte, interfaces := #[5, 6], accessFlags := 1041 }

/-- [Ljava/lang/Object; -/
def k9 : Class := { plain "[Ljava/lang/Object;" (some 0) with kind := .array 0 (.object "java/lang/Object"), interfaces := #[5, 6], accessFlags := 1041 }

def heap : Heap := #[]
def classes : Array Class := #[k0, k1, k2, k3, k4, k5, k6, k7, k8, k9]
def interned : List (Array UInt16 × Addr) := []
def slotsUsed : Nat := 0
def theMethod : MethodId := ⟨1, 1⟩
def args0 : Array Value := #[.int 5, .int 7, .int 3]
def aboutOver (below : List Frame) : State where
  vm := { classes := classes, interned := interned.toArray }
  heap := heap
  slotsUsed := slotsUsed
  threads := #[{ frames := .invoking theMethod args0 :: below }]
def below0 : List Frame := [.native { method := ⟨0, 0⟩, args := #[] }]
def about1 : State := aboutOver below0
def p0 : Program := .bare "" "" ""
def e0 : Env := launch0.env 0 0 0
theorem w_frames : about1.frames = Frame.invoking theMethod args0 :: below0 := rfl
set_option maxRecDepth 65536 in
theorem w_args : argsFit about1.vm theMethod args0 = true := by decide +kernel
set_option maxRecDepth 65536 in
theorem w_heap : heapFits about1 = true := by decide +kernel
set_option maxRecDepth 65536 in
theorem w_runnable : about1.curStatus? = some .runnable := by decide +kernel
set_option maxRecDepth 65536 in
theorem w_alone : about1.alone = true := by decide +kernel
set_option maxRecDepth 65536 in
theorem w_named : about1.methodNamed? x = some theMethod := by decide +kernel
set_option maxRecDepth 65536 in
theorem w_hears : about1.hears theMethod below0 = true := by decide +kernel
set_option maxRecDepth 65536 in
theorem w_ripe : about1.ripe theMethod args0 below0 = true := by decide +kernel
theorem w_running : about1.status = .running := rfl
set_option maxRecDepth 65536 in
theorem w_room : about1.hasRoom e0.platform room_1 = true :=
  launch0.hasRoom_least _ room_1 (by decide +kernel) (by decide +kernel) (by decide +kernel) (by decide +kernel) (by decide +kernel) (by decide +kernel)
theorem allAtoms_all (ts : List Jvm.Cond) (a : Array Jvm.Value) (st : Jvm.State) : (allAtoms ts).before a st = ts.all (fun c => c.before a st) := by
  induction ts with
  | nil => rfl
  | cons c t ih =>
    show (Jvm.Cond.and c (allAtoms t)).before a st = _
    rw [Jvm.Cond.before_and, ih, List.all_cons]
def words1 : List Jvm.Cond := Jvm.Cond.code x code maxLocals ret :: tables_1
/-- a 'code' word, met by the world's own term for the bytes: nothing is compared byte by byte -/
theorem code_word {y : MethodName} {bytes : ByteArray} {mx : Nat} {rt : Option FieldType} {a : Array Value} {s : State} {m : MethodId} {meth : Method} {c : Code} (h1 : s.methodNamed? y = some m) (h2 : s.vm.method? m = some meth) (h3 : meth.code = some c) (h4 : c.code = bytes)
    (h5 : (c.maxLocals == mx && c.exceptionTable.isEmpty && decide (c.maxStack ≤ mostOperands) && decide (meth.sig.returnType = rt) && !meth.locks && decide (parseMethodDescriptor y.desc = some meth.sig)) = true) : (Jvm.Cond.code y bytes mx rt).before a s = true := by
  simp only [Bool.and_eq_true, beq_iff_eq, Bool.not_eq_true', decide_eq_true_eq] at h5
  obtain ⟨⟨⟨⟨⟨g1, g2⟩, g3⟩, g4⟩, g5⟩, g6⟩ := h5
  simp [Cond.before, Cond.holds, Cond.value, h1, h2, h3, h4, g1, g2, g3, g4, g5, g6]
def isCode : Jvm.Cond → Bool
  | .code _ _ _ _ => true
  | _ => false
theorem all_split {L : List Jvm.Cond} {P : Jvm.Cond → Bool} (h1 : L.all (fun c => isCode c || P c) = true) (h2 : ∀ c ∈ L.filter isCode, P c = true) : L.all P = true := by
  refine List.all_eq_true.mpr fun c hc => ?_
  have h := List.all_eq_true.mp h1 c hc
  rcases Bool.eq_false_or_eq_true (isCode c) with hi | hi
  · exact h2 c (List.mem_filter.mpr ⟨hc, hi⟩)
  · simpa [hi] using h
set_option maxRecDepth 65536 in
theorem w_c0 : (Jvm.Cond.code x code maxLocals ret).before args0 about1 = true := code_word (m := ⟨1, 1⟩) (meth := k1m1) (c := k1c1) (by decide +kernel) rfl rfl rfl (by decide +kernel)
set_option maxRecDepth 65536 in
theorem w_c1 : (Jvm.Cond.code ({ cls := "com/example/sansid/sansid/algorithm/Collects", name := "<init>", desc := "(II)V" } : Jvm.MethodName) prog_7_method_1_code (3 : Nat) (Option.none : Option Jvm.ClassFile.FieldType)).before args0 about1 = true := code_word (m := ⟨2, 0⟩) (meth := k2m0) (c := k2c0) (by decide +kernel) rfl rfl rfl (by decide +kernel)
set_option maxRecDepth 65536 in
theorem w_c2 : (Jvm.Cond.code ({ cls := "java/lang/Object", name := "<init>", desc := "()V" } : Jvm.MethodName) object_method_1_code (1 : Nat) (Option.none : Option Jvm.ClassFile.FieldType)).before args0 about1 = true := code_word (m := ⟨0, 0⟩) (meth := k0m0) (c := k0c0) (by decide +kernel) rfl rfl rfl (by decide +kernel)
set_option maxRecDepth 65536 in
theorem w_c3 : (Jvm.Cond.code ({ cls := "com/example/sansid/sansid/algorithm/Collects", name := "register", desc := "(I)Lcom/example/sansid/sansid/model/Register;" } : Jvm.MethodName) prog_7_method_7_code (2 : Nat) (Option.some (Jvm.ClassFile.FieldType.object "com/example/sansid/sansid/model/Register"))).before args0 about1 = true := code_word (m := ⟨2, 1⟩) (meth := k2m1) (c := k2c1) (by decide +kernel) rfl rfl rfl (by decide +kernel)
set_option maxRecDepth 65536 in
theorem w_c4 : (Jvm.Cond.code ({ cls := "com/example/sansid/sansid/model/Register", name := "<init>", desc := "(JJ)V" } : Jvm.MethodName) prog_106_method_1_code (5 : Nat) (Option.none : Option Jvm.ClassFile.FieldType)).before args0 about1 = true := code_word (m := ⟨4, 0⟩) (meth := k4m0) (c := k4c0) (by decide +kernel) rfl rfl rfl (by decide +kernel)
set_option maxRecDepth 65536 in
theorem w_c5 : (Jvm.Cond.code ({ cls := "java/lang/Record", name := "<init>", desc := "()V" } : Jvm.MethodName) jdk_30_method_1_code (1 : Nat) (Option.none : Option Jvm.ClassFile.FieldType)).before args0 about1 = true := code_word (m := ⟨3, 0⟩) (meth := k3m0) (c := k3c0) (by decide +kernel) rfl rfl rfl (by decide +kernel)
set_option maxRecDepth 65536 in
theorem w_c6 : (Jvm.Cond.code ({ cls := "com/example/sansid/sansid/model/Register", name := "array", desc := "()J" } : Jvm.MethodName) prog_106_method_5_code (1 : Nat) (Option.some Jvm.ClassFile.FieldType.long)).before args0 about1 = true := code_word (m := ⟨4, 1⟩) (meth := k4m1) (c := k4c1) (by decide +kernel) rfl rfl rfl (by decide +kernel)
set_option maxRecDepth 65536 in
theorem w_c7 : (Jvm.Cond.code ({ cls := "com/example/sansid/sansid/model/Register", name := "index", desc := "()J" } : Jvm.MethodName) prog_106_method_6_code (1 : Nat) (Option.some Jvm.ClassFile.FieldType.long)).before args0 about1 = true := code_word (m := ⟨4, 2⟩) (meth := k4m2) (c := k4c2) (by decide +kernel) rfl rfl rfl (by decide +kernel)
def codes1 : List Jvm.Cond := [Jvm.Cond.code x code maxLocals ret, Jvm.Cond.code ({ cls := "com/example/sansid/sansid/algorithm/Collects", name := "<init>", desc := "(II)V" } : Jvm.MethodName) prog_7_method_1_code (3 : Nat) (Option.none : Option Jvm.ClassFile.FieldType), Jvm.Cond.code ({ cls := "java/lang/Object", name := "<init>", desc := "()V" } : Jvm.MethodName) object_method_1_code (1 : Nat) (Option.none : Option Jvm.ClassFile.FieldType), Jvm.Cond.code ({ cls := "com/example/sansid/sansid/algorithm/Collects", name := "register", desc := "(I)Lcom/example/sansid/sansid/model/Register;" } : Jvm.MethodName) prog_7_method_7_code (2 : Nat) (Option.some (Jvm.ClassFile.FieldType.object "com/example/sansid/sansid/model/Register")), Jvm.Cond.code ({ cls := "com/example/sansid/sansid/model/Register", name := "<init>", desc := "(JJ)V" } : Jvm.MethodName) prog_106_method_1_code (5 : Nat) (Option.none : Option Jvm.ClassFile.FieldType), Jvm.Cond.code ({ cls := "java/lang/Record", name := "<init>", desc := "()V" } : Jvm.MethodName) jdk_30_method_1_code (1 : Nat) (Option.none : Option Jvm.ClassFile.FieldType), Jvm.Cond.code ({ cls := "com/example/sansid/sansid/model/Register", name := "array", desc := "()J" } : Jvm.MethodName) prog_106_method_5_code (1 : Nat) (Option.some Jvm.ClassFile.FieldType.long), Jvm.Cond.code ({ cls := "com/example/sansid/sansid/model/Register", name := "index", desc := "()J" } : Jvm.MethodName) prog_106_method_6_code (1 : Nat) (Option.some Jvm.ClassFile.FieldType.long)]
set_option maxRecDepth 65536 in
theorem codes_eq : words1.filter isCode = codes1 := rfl
theorem w_codes : ∀ c ∈ words1.filter isCode, c.before args0 about1 = true := by
  rw [codes_eq]
  intro c hc
  simp only [codes1, List.mem_cons, List.not_mem_nil, or_false] at hc
  rcases hc with rfl | rfl | rfl | rfl | rfl | rfl | rfl | rfl
  · exact w_c0
  · exact w_c1
  · exact w_c2
  · exact w_c3
  · exact w_c4
  · exact w_c5
  · exact w_c6
  · exact w_c7
set_option maxRecDepth 65536 in
theorem w_t1 : (words1.take 24).all (fun c => isCode c || c.before args0 about1) = true := by decide +kernel
set_option maxRecDepth 65536 in
theorem w_t2 : ((words1.drop 24).take 24).all (fun c => isCode c || c.before args0 about1) = true := by decide +kernel
set_option maxRecDepth 65536 in
theorem w_t3 : ((words1.drop 24).drop 24).all (fun c => isCode c || c.before args0 about1) = true := by decide +kernel
theorem w_tables : (allAtoms (Jvm.Cond.code x code maxLocals ret :: tables_1)).before args0 about1 = true := by
  rw [allAtoms_all]
  show words1.all (fun c => c.before args0 about1) = true
  refine all_split ?_ w_codes
  rw [← List.take_append_drop 24 words1, List.all_append, w_t1, ← List.take_append_drop 24 (words1.drop 24), List.all_append, w_t2, w_t3]
  rfl
set_option maxRecDepth 65536 in
theorem w_case : (Jvm.Cond.and given_1 narrow_1).before args0 about1 = true := by decide +kernel
theorem w_applies : (headSpec (Jvm.Cond.code x code maxLocals ret :: tables_1) room_1).applies x e0.platform about1 = true :=
  (Spec.applies_iff w_frames).mpr ⟨w_running, w_runnable, w_alone, w_named, w_hears, w_ripe, w_room, w_tables⟩
theorem atStart : AtStart classFile x code maxLocals ret World_1 tables_1 room_1 Calls_1 rest_1 Pre_1 launch0 p0 e0 about1 theMethod args0 below0 :=
  ⟨lists_1, trivial, launch0.admits_env _ _ _, launch0.least_env, fairChoices_fair.cas, fairChoices_fair.clock, w_frames, w_args, w_heap, w_applies, trivial, trivial, w_case⟩
end start1
theorem witness_1 : WitnessClaimed_1 := ⟨start1.p0, start1.e0, start1.about1, start1.theMethod, start1.args0, start1.below0, start1.atStart⟩
end Jvm.Pilot.@@N@@
