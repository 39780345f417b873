import JvmDerived
import JvmDerived.Pilot.@@N@@Statement
import JvmDerived.Pilot.@@N@@Code
set_option linter.unusedVariables false
set_option linter.unusedSimpArgs false
namespace Jvm.RoadKit
open Sem ClassFile Op Lib Jvm.Stand Jvm.Free Jvm.LawKit
section New
variable {p : Program} {l : Launch} {e : Env} {R : Room} {s : State} {m : MethodId} {args : Array Value} {below : List Frame} {meth : Method} {c : Code} {T : State} {locs : List Loc} {cells slots : Nat}
theorem retI (X : Stand p l e R s m args below meth c T locs cells slots) (hx : p.tables.exec = Jvm.exec) {pc : Nat} {Ls : Array Slot} {z : Int32} {rest : List Value} (hret : meth.sig.returnType = some .int) (hd : decode c.code pc = .ok (.ireturn, 1)) {fs : List Frame}
    (hl : ∀ (f : JFrame) (acts : List Action), f.method = m → f.locked = none → f.entered = [] → (doReturn e (T.setTop f) acts (some (.int z))).1 = T.setFrames fs) : Steps p.tables e below (T.setTop (mkF m pc Ls (.int z :: rest))) (T.setFrames fs) := by
  have hm' : T.vm.method? m = some meth := X.method'
  have hn : narrow .int (.int z) = .int z := rfl
  show Steps p.tables e below (T.setTop { method := m, pc := pc, locals := Ls, stack := _ :: rest, locked := none }) _
  jvm_step X.here [X.here.top, hx, hd, hm', hret, hn]
  first | (intro acts; rw [hl _ acts rfl rfl rfl]) | rw [hl _ _ rfl rfl rfl]
  exact Steps.refl _
end New
end Jvm.RoadKit
namespace Jvm.Pilot.@@N@@
open Jvm Jvm.ClassFile Sem Op Lib Jvm.Free Jvm.Stand Jvm.LawKit Jvm.RoadKit Bundle Jvm.Pilot.@@N@@.Jvm.D
def own_min (p1 : Int32) (p2 : Int32) : Int32 := if p2 < p1 then p2 else p1
theorem d1_0 : decode jdk_29_method_69_code 0 = .ok (.iload_n 0, 1) := by decide +kernel
theorem d1_1 : decode jdk_29_method_69_code 1 = .ok (.iload_n 1, 1) := by decide +kernel
theorem d1_2 : decode jdk_29_method_69_code 2 = .ok (.if_icmp .gt 7, 3) := by decide +kernel
theorem d1_5 : decode jdk_29_method_69_code 5 = .ok (.iload_n 0, 1) := by decide +kernel
theorem d1_6 : decode jdk_29_method_69_code 6 = .ok (.goto 4, 3) := by decide +kernel
theorem d1_9 : decode jdk_29_method_69_code 9 = .ok (.iload_n 1, 1) := by decide +kernel
theorem d1_10 : decode jdk_29_method_69_code 10 = .ok (.ireturn, 1) := by decide +kernel
theorem ef_1 (m : MethodId) (x0 : Int32) (x1 : Int32) : entryFrame m #[(.int x0), (.int x1)] 2 = mkF m 0 #[.val (.int x0), .val (.int x1)] [] := by first | (simp [entryFrame, mkF, argsToLocals, Value.category]; done) | rfl
def Q1 (Z : State) (p1 : Int32) (p2 : Int32) (h0 : Heap) (n0 : Nat) (v : Option Value) (h : Heap) (L : List Loc) : Prop := v = some (.int (own_min p1 p2)) ∧ Fr n0 L ∧ h = h0
set_option maxRecDepth 65536 in
set_option maxHeartbeats 40000000 in
theorem rm1 (l : Launch) (Z : State) (a0 : Array Value) (hw : ∀ d ∈ tables_1, d.before a0 Z = true) (ws : List Jvm.Cond) (p1 : Int32) (p2 : Int32) (h0 : Heap) (n0 : Nat) (Z0 : n0 ≤ h0.size) :
    MetFree l (⟨"java/lang/Math", "min", "(II)I"⟩ : MethodName) (head1 (Jvm.Cond.code (⟨"java/lang/Math", "min", "(II)I"⟩ : MethodName) jdk_29_method_69_code 2 (some .int) :: ws) ({ frames := 0, cells := 0, slots := 0, locals := 0 } : Room)) (fun a U => a = #[(.int p1), (.int p2)] ∧ Z.Warmed39 U.vm ∧ U.heap = h0) (fun _ _ _ _ _ => True) (fun _ U o U' => ∃ v L, o = .returned v ∧ Q1 Z p1 p2 h0 n0 v U'.heap L ∧ FrameEnd U o U' L ({ frames := 0, cells := 0, slots := 0, locals := 0 } : Room).cells ({ frames := 0, cells := 0, slots := 0, locals := 0 } : Room).slots) := by
  refine MetFree.of_bodySF (Jvm.Free.JP.mathPlain rfl (by decide +kernel)) hisR ?_
  intro p e s m args below meth c s₁ Bd hml0 hP hK
  obtain ⟨rfl, hZ, hh⟩ := hP
  have hx := Bd.exec
  have hby := Bd.bytes
  have hml : c.maxLocals = 2 := hml0
  have hown : s.vm.findClass "java/lang/Math" = some m.cls := findClass_of_methodNamed Bd.named
  have hnm := (name_of_methodNamed Bd.named Bd.method).1
  have X0 : Stand p l e ({ frames := 0, cells := 0, slots := 0, locals := 0 } : Room) s m #[(.int p1), (.int p2)] below meth c s₁ [] 0 0 := Stand.of_body Bd
  have e0 : s₁.heap = h0 := by rw [← hh, Bd.state]; rfl
  have N0 := Fr.nil n0
  have pre0 : ∀ t, Steps p.tables e below (s₁.setTop (mkF m 0 #[.val (.int p1), .val (.int p2)] [])) t → Steps p.tables e below (s₁.setTop (entryFrame m #[(.int p1), (.int p2)] 2)) t := fun t k => castTop (ef_1 m p1 p2) k
  obtain ⟨fs, hr, hrun, hended, hW, hsame⟩ := X0.leave (v := some (.int (own_min p1 p2))) (fun h => by rw [Bd.returns] at h; cases h)
  refine ⟨_, _, pre0 _ ?_, hrun, hended, _, _, rfl, ?_, ⟨_, rfl⟩, hW, hsame.mono (by decide) (by decide)⟩
  · show Steps p.tables e below (s₁.setTop (mkF m 0 #[.val (.int p1), .val (.int p2)] [])) _
    refine XS.iloadN X0.here hx rfl (hb hby d1_0) rfl ?_
    show Steps p.tables e below (s₁.setTop (mkF m 1 #[.val (.int p1), .val (.int p2)] [(.int p1)])) _
    refine XS.iloadN X0.here hx rfl (hb hby d1_1) rfl ?_
    show Steps p.tables e below (s₁.setTop (mkF m 2 #[.val (.int p1), .val (.int p2)] [(.int p2), (.int p1)])) _
    by_cases hc2 : p2 < p1
    · refine XS.icmpYes X0.here hx rfl (pc0 := 2) (pc' := 9) rfl (hb hby d1_2) rfl (tlt hc2).2.2.1 (by decide) (by decide) ?_
      show Steps p.tables e below (s₁.setTop (mkF m 9 #[.val (.int p1), .val (.int p2)] [])) _
      refine XS.iloadN X0.here hx rfl (hb hby d1_9) rfl ?_
      show Steps p.tables e below (s₁.setTop (mkF m 10 #[.val (.int p1), .val (.int p2)] [(.int p2)])) _
      have hv : (own_min p1 p2) = p2 := by unfold own_min; rw [if_pos hc2]
      rw [hv] at hr
      exact retI X0 hx Bd.returns (hb hby d1_10) hr
    · refine XS.icmpNo X0.here hx rfl (hb hby d1_2) rfl (flt hc2).2.2.1 ?_
      show Steps p.tables e below (s₁.setTop (mkF m 5 #[.val (.int p1), .val (.int p2)] [])) _
      refine XS.iloadN X0.here hx rfl (hb hby d1_5) rfl ?_
      show Steps p.tables e below (s₁.setTop (mkF m 6 #[.val (.int p1), .val (.int p2)] [(.int p1)])) _
      refine XS.goto X0.here hx rfl (pc0 := 6) (pc' := 10) rfl (hb hby d1_6) (by decide) (by decide) ?_
      show Steps p.tables e below (s₁.setTop (mkF m 10 #[.val (.int p1), .val (.int p2)] [(.int p1)])) _
      have hv : (own_min p1 p2) = p1 := by unfold own_min; rw [if_neg hc2]
      rw [hv] at hr
      exact retI X0 hx Bd.returns (hb hby d1_10) hr
  · show Q1 Z p1 p2 h0 n0 _ s₁.heap _
    rw [e0]
    exact ⟨rfl, N0, rfl⟩
def own_pa (p1 : Int32) (p2 : Int32) (p3 : Int32) : Int32 := if (p3 - (16 : Int32)) < p2 then p3 else (p1 + (((((p2 - p1) + (16 : Int32)) - (1 : Int32)) / (16 : Int32)) * (16 : Int32)))
theorem d2_0 : decode prog_9_method_10_code 0 = .ok (.iload_n 2, 1) := by decide +kernel
theorem d2_1 : decode prog_9_method_10_code 1 = .ok (.istore_n 3, 1) := by decide +kernel
theorem d2_2 : decode prog_9_method_10_code 2 = .ok (.iload_n 1, 1) := by decide +kernel
theorem d2_3 : decode prog_9_method_10_code 3 = .ok (.iload_n 2, 1) := by decide +kernel
theorem d2_4 : decode prog_9_method_10_code 4 = .ok (.bipush 16, 2) := by decide +kernel
theorem d2_6 : decode prog_9_method_10_code 6 = .ok (.isub, 1) := by decide +kernel
theorem d2_7 : decode prog_9_method_10_code 7 = .ok (.if_icmp .gt 20, 3) := by decide +kernel
theorem d2_10 : decode prog_9_method_10_code 10 = .ok (.iload_n 0, 1) := by decide +kernel
theorem d2_11 : decode prog_9_method_10_code 11 = .ok (.iload_n 1, 1) := by decide +kernel
theorem d2_12 : decode prog_9_method_10_code 12 = .ok (.iload_n 0, 1) := by decide +kernel
theorem d2_13 : decode prog_9_method_10_code 13 = .ok (.isub, 1) := by decide +kernel
theorem d2_14 : decode prog_9_method_10_code 14 = .ok (.bipush 16, 2) := by decide +kernel
theorem d2_16 : decode prog_9_method_10_code 16 = .ok (.iadd, 1) := by decide +kernel
theorem d2_17 : decode prog_9_method_10_code 17 = .ok (.iconst 1, 1) := by decide +kernel
theorem d2_18 : decode prog_9_method_10_code 18 = .ok (.isub, 1) := by decide +kernel
theorem d2_19 : decode prog_9_method_10_code 19 = .ok (.bipush 16, 2) := by decide +kernel
theorem d2_21 : decode prog_9_method_10_code 21 = .ok (.idiv, 1) := by decide +kernel
theorem d2_22 : decode prog_9_method_10_code 22 = .ok (.bipush 16, 2) := by decide +kernel
theorem d2_24 : decode prog_9_method_10_code 24 = .ok (.imul, 1) := by decide +kernel
theorem d2_25 : decode prog_9_method_10_code 25 = .ok (.iadd, 1) := by decide +kernel
theorem d2_26 : decode prog_9_method_10_code 26 = .ok (.istore_n 3, 1) := by decide +kernel
theorem d2_27 : decode prog_9_method_10_code 27 = .ok (.iload_n 3, 1) := by decide +kernel
theorem d2_28 : decode prog_9_method_10_code 28 = .ok (.ireturn, 1) := by decide +kernel
theorem pn_2 : plainName "com/example/brevitree/brevitree/BlockPlanner" = true := by first | (simp [plainName, overriddenIn]; done) | decide +kernel
theorem ef_2 (m : MethodId) (x0 : Int32) (x1 : Int32) (x2 : Int32) : entryFrame m #[(.int x0), (.int x1), (.int x2)] 4 = mkF m 0 #[.val (.int x0), .val (.int x1), .val (.int x2), .unset] [] := by first | (simp [entryFrame, mkF, argsToLocals, Value.category]; done) | rfl
def Q2 (Z : State) (p1 : Int32) (p2 : Int32) (p3 : Int32) (h0 : Heap) (n0 : Nat) (v : Option Value) (h : Heap) (L : List Loc) : Prop := v = some (.int (own_pa p1 p2 p3)) ∧ Fr n0 L ∧ h = h0
set_option maxRecDepth 65536 in
set_option maxHeartbeats 40000000 in
theorem rm2 (l : Launch) (Z : State) (a0 : Array Value) (hw : ∀ d ∈ tables_1, d.before a0 Z = true) (ws : List Jvm.Cond) (p1 : Int32) (p2 : Int32) (p3 : Int32) (h0 : Heap) (n0 : Nat) (Z0 : n0 ≤ h0.size) :
    MetFree l (⟨"com/example/brevitree/brevitree/BlockPlanner", "probeAfter", "(III)I"⟩ : MethodName) (head1 (Jvm.Cond.code (⟨"com/example/brevitree/brevitree/BlockPlanner", "probeAfter", "(III)I"⟩ : MethodName) prog_9_method_10_code 4 (some .int) :: ws) ({ frames := 0, cells := 0, slots := 0, locals := 0 } : Room)) (fun a U => a = #[(.int p1), (.int p2), (.int p3)] ∧ Z.Warmed39 U.vm ∧ U.heap = h0) (fun _ _ _ _ _ => True) (fun _ U o U' => ∃ v L, o = .returned v ∧ Q2 Z p1 p2 p3 h0 n0 v U'.heap L ∧ FrameEnd U o U' L ({ frames := 0, cells := 0, slots := 0, locals := 0 } : Room).cells ({ frames := 0, cells := 0, slots := 0, locals := 0 } : Room).slots) := by
  refine MetFree.of_bodySF (plainFor_of_name pn_2) hisR ?_
  intro p e s m args below meth c s₁ Bd hml0 hP hK
  obtain ⟨rfl, hZ, hh⟩ := hP
  have hx := Bd.exec
  have hby := Bd.bytes
  have hml : c.maxLocals = 4 := hml0
  have hown : s.vm.findClass "com/example/brevitree/brevitree/BlockPlanner" = some m.cls := findClass_of_methodNamed Bd.named
  have hnm := (name_of_methodNamed Bd.named Bd.method).1
  have X0 : Stand p l e ({ frames := 0, cells := 0, slots := 0, locals := 0 } : Room) s m #[(.int p1), (.int p2), (.int p3)] below meth c s₁ [] 0 0 := Stand.of_body Bd
  have e0 : s₁.heap = h0 := by rw [← hh, Bd.state]; rfl
  have N0 := Fr.nil n0
  have pre0 : ∀ t, Steps p.tables e below (s₁.setTop (mkF m 0 #[.val (.int p1), .val (.int p2), .val (.int p3), .unset] [])) t → Steps p.tables e below (s₁.setTop (entryFrame m #[(.int p1), (.int p2), (.int p3)] 4)) t := fun t k => castTop (ef_2 m p1 p2 p3) k
  obtain ⟨fs, hr, hrun, hended, hW, hsame⟩ := X0.leave (v := some (.int (own_pa p1 p2 p3))) (fun h => by rw [Bd.returns] at h; cases h)
  refine ⟨_, _, pre0 _ ?_, hrun, hended, _, _, rfl, ?_, ⟨_, rfl⟩, hW, hsame.mono (by decide) (by decide)⟩
  · show Steps p.tables e below (s₁.setTop (mkF m 0 #[.val (.int p1), .val (.int p2), .val (.int p3), .unset] [])) _
    refine XS.iloadN X0.here hx rfl (hb hby d2_0) rfl ?_
    show Steps p.tables e below (s₁.setTop (mkF m 1 #[.val (.int p1), .val (.int p2), .val (.int p3), .unset] [(.int p3)])) _
    refine XS.istoreN X0.here hx rfl (hb hby d2_1) rfl (l' := #[.val (.int p1), .val (.int p2), .val (.int p3), .val (.int p3)]) rfl ?_
    show Steps p.tables e below (s₁.setTop (mkF m 2 #[.val (.int p1), .val (.int p2), .val (.int p3), .val (.int p3)] [])) _
    refine XS.iloadN X0.here hx rfl (hb hby d2_2) rfl ?_
    show Steps p.tables e below (s₁.setTop (mkF m 3 #[.val (.int p1), .val (.int p2), .val (.int p3), .val (.int p3)] [(.int p2)])) _
    refine XS.iloadN X0.here hx rfl (hb hby d2_3) rfl ?_
    show Steps p.tables e below (s₁.setTop (mkF m 4 #[.val (.int p1), .val (.int p2), .val (.int p3), .val (.int p3)] [(.int p3), (.int p2)])) _
    refine XS.bipush X0.here hx rfl (hb hby d2_4) ?_
    show Steps p.tables e below (s₁.setTop (mkF m 6 #[.val (.int p1), .val (.int p2), .val (.int p3), .val (.int p3)] [(.int (16 : Int32)), (.int p3), (.int p2)])) _
    refine XS.isub X0.here hx rfl (hb hby d2_6) rfl ?_
    show Steps p.tables e below (s₁.setTop (mkF m 7 #[.val (.int p1), .val (.int p2), .val (.int p3), .val (.int p3)] [(.int (p3 - (16 : Int32))), (.int p2)])) _
    by_cases hc7 : (p3 - (16 : Int32)) < p2
    · refine XS.icmpYes X0.here hx rfl (pc0 := 7) (pc' := 27) rfl (hb hby d2_7) rfl (tlt hc7).2.2.1 (by decide) (by decide) ?_
      show Steps p.tables e below (s₁.setTop (mkF m 27 #[.val (.int p1), .val (.int p2), .val (.int p3), .val (.int p3)] [])) _
      refine XS.iloadN X0.here hx rfl (hb hby d2_27) rfl ?_
      show Steps p.tables e below (s₁.setTop (mkF m 28 #[.val (.int p1), .val (.int p2), .val (.int p3), .val (.int p3)] [(.int p3)])) _
      have hv : (own_pa p1 p2 p3) = p3 := by unfold own_pa; rw [if_pos hc7]
      rw [hv] at hr
      exact retI X0 hx Bd.returns (hb hby d2_28) hr
    · refine XS.icmpNo X0.here hx rfl (hb hby d2_7) rfl (flt hc7).2.2.1 ?_
      show Steps p.tables e below (s₁.setTop (mkF m 10 #[.val (.int p1), .val (.int p2), .val (.int p3), .val (.int p3)] [])) _
      refine XS.iloadN X0.here hx rfl (hb hby d2_10) rfl ?_
      show Steps p.tables e below (s₁.setTop (mkF m 11 #[.val (.int p1), .val (.int p2), .val (.int p3), .val (.int p3)] [(.int p1)])) _
      refine XS.iloadN X0.here hx rfl (hb hby d2_11) rfl ?_
      show Steps p.tables e below (s₁.setTop (mkF m 12 #[.val (.int p1), .val (.int p2), .val (.int p3), .val (.int p3)] [(.int p2), (.int p1)])) _
      refine XS.iloadN X0.here hx rfl (hb hby d2_12) rfl ?_
      show Steps p.tables e below (s₁.setTop (mkF m 13 #[.val (.int p1), .val (.int p2), .val (.int p3), .val (.int p3)] [(.int p1), (.int p2), (.int p1)])) _
      refine XS.isub X0.here hx rfl (hb hby d2_13) rfl ?_
      show Steps p.tables e below (s₁.setTop (mkF m 14 #[.val (.int p1), .val (.int p2), .val (.int p3), .val (.int p3)] [(.int (p2 - p1)), (.int p1)])) _
      refine XS.bipush X0.here hx rfl (hb hby d2_14) ?_
      show Steps p.tables e below (s₁.setTop (mkF m 16 #[.val (.int p1), .val (.int p2), .val (.int p3), .val (.int p3)] [(.int (16 : Int32)), (.int (p2 - p1)), (.int p1)])) _
      refine XS.iadd X0.here hx rfl (hb hby d2_16) rfl ?_
      show Steps p.tables e below (s₁.setTop (mkF m 17 #[.val (.int p1), .val (.int p2), .val (.int p3), .val (.int p3)] [(.int ((p2 - p1) + (16 : Int32))), (.int p1)])) _
      refine XS.iconst X0.here hx rfl (hb hby d2_17) ?_
      show Steps p.tables e below (s₁.setTop (mkF m 18 #[.val (.int p1), .val (.int p2), .val (.int p3), .val (.int p3)] [(.int (1 : Int32)), (.int ((p2 - p1) + (16 : Int32))), (.int p1)])) _
      refine XS.isub X0.here hx rfl (hb hby d2_18) rfl ?_
      show Steps p.tables e below (s₁.setTop (mkF m 19 #[.val (.int p1), .val (.int p2), .val (.int p3), .val (.int p3)] [(.int (((p2 - p1) + (16 : Int32)) - (1 : Int32))), (.int p1)])) _
      refine XS.bipush X0.here hx rfl (hb hby d2_19) ?_
      show Steps p.tables e below (s₁.setTop (mkF m 21 #[.val (.int p1), .val (.int p2), .val (.int p3), .val (.int p3)] [(.int (16 : Int32)), (.int (((p2 - p1) + (16 : Int32)) - (1 : Int32))), (.int p1)])) _
      refine XS.idiv X0.here hx rfl (hb hby d2_21) rfl (by decide) ?_
      show Steps p.tables e below (s₁.setTop (mkF m 22 #[.val (.int p1), .val (.int p2), .val (.int p3), .val (.int p3)] [(.int ((((p2 - p1) + (16 : Int32)) - (1 : Int32)) / (16 : Int32))), (.int p1)])) _
      refine XS.bipush X0.here hx rfl (hb hby d2_22) ?_
      show Steps p.tables e below (s₁.setTop (mkF m 24 #[.val (.int p1), .val (.int p2), .val (.int p3), .val (.int p3)] [(.int (16 : Int32)), (.int ((((p2 - p1) + (16 : Int32)) - (1 : Int32)) / (16 : Int32))), (.int p1)])) _
      refine XS.imul X0.here hx rfl (hb hby d2_24) rfl ?_
      show Steps p.tables e below (s₁.setTop (mkF m 25 #[.val (.int p1), .val (.int p2), .val (.int p3), .val (.int p3)] [(.int (((((p2 - p1) + (16 : Int32)) - (1 : Int32)) / (16 : Int32)) * (16 : Int32))), (.int p1)])) _
      refine XS.iadd X0.here hx rfl (hb hby d2_25) rfl ?_
      show Steps p.tables e below (s₁.setTop (mkF m 26 #[.val (.int p1), .val (.int p2), .val (.int p3), .val (.int p3)] [(.int (p1 + (((((p2 - p1) + (16 : Int32)) - (1 : Int32)) / (16 : Int32)) * (16 : Int32))))])) _
      refine XS.istoreN X0.here hx rfl (hb hby d2_26) rfl (l' := #[.val (.int p1), .val (.int p2), .val (.int p3), .val (.int (p1 + (((((p2 - p1) + (16 : Int32)) - (1 : Int32)) / (16 : Int32)) * (16 : Int32))))]) rfl ?_
      show Steps p.tables e below (s₁.setTop (mkF m 27 #[.val (.int p1), .val (.int p2), .val (.int p3), .val (.int (p1 + (((((p2 - p1) + (16 : Int32)) - (1 : Int32)) / (16 : Int32)) * (16 : Int32))))] [])) _
      refine XS.iloadN X0.here hx rfl (hb hby d2_27) rfl ?_
      show Steps p.tables e below (s₁.setTop (mkF m 28 #[.val (.int p1), .val (.int p2), .val (.int p3), .val (.int (p1 + (((((p2 - p1) + (16 : Int32)) - (1 : Int32)) / (16 : Int32)) * (16 : Int32))))] [(.int (p1 + (((((p2 - p1) + (16 : Int32)) - (1 : Int32)) / (16 : Int32)) * (16 : Int32))))])) _
      have hv : (own_pa p1 p2 p3) = (p1 + (((((p2 - p1) + (16 : Int32)) - (1 : Int32)) / (16 : Int32)) * (16 : Int32))) := by unfold own_pa; rw [if_neg hc7]
      rw [hv] at hr
      exact retI X0 hx Bd.returns (hb hby d2_28) hr
  · show Q2 Z p1 p2 p3 h0 n0 _ s₁.heap _
    rw [e0]
    exact ⟨rfl, N0, rfl⟩

def own_end (x : Int32) : Int32 := x &&& (2147483647 : Int32)
def own_rem (b r : Int32) : Int32 := (((b.toInt64) &&& (2147483647 : Int64)) - (((b.toInt64) &&& (2147483647 : Int64)) / ((r.toInt64) + (1 : Int64))) * ((r.toInt64) + (1 : Int64))).toInt32
def own_mn (b r : Int32) : Int32 := own_min (b &&& (63 : Int32)) r
theorem own_end_nn (x : Int32) : 0 ≤ (own_end x).toInt := by
  have h := c_mask x (2147483647 : Int32) 31 (by decide) (by decide)
  unfold own_end; rw [h]; omega
theorem own_nz (r : Int32) (h : 0 ≤ r.toInt) : ¬ (((r.toInt64) + (1 : Int64)) = (0 : Int64)) := by
  intro q
  have a1 := c_ladd r.toInt64 (1 : Int64)
  have a2 := c_i2l r
  have k : (1 : Int64).toInt = 1 := by decide
  have k0 : (0 : Int64).toInt = 0 := by decide
  have hr := rng32 r
  rw [q, k, k0, a2] at a1
  omega
theorem own_rem_b (b r : Int32) (h : 0 ≤ r.toInt) : 0 ≤ (own_rem b r).toInt ∧ (own_rem b r).toInt ≤ r.toInt := by
  have a1 := c_ladd r.toInt64 (1 : Int64)
  have a2 := c_i2l r
  have k : (1 : Int64).toInt = 1 := by decide
  have hr := rng32 r
  have hs := rng64 ((r.toInt64) + (1 : Int64))
  rw [a2, k] at a1
  have ey : ((r.toInt64) + (1 : Int64)).toInt = r.toInt + 1 := by omega
  have hx := c_maskL b.toInt64 (2147483647 : Int64) 31 (by decide) (by decide)
  have hl := (c_lrem ((b.toInt64) &&& (2147483647 : Int64)) ((r.toInt64) + (1 : Int64)) (r.toInt + 1) ey).1 (by rw [hx]; omega)
  have hm1 : 0 ≤ ((b.toInt64) &&& (2147483647 : Int64)).toInt % (r.toInt + 1) := Int.emod_nonneg _ (by omega)
  have hm2 : ((b.toInt64) &&& (2147483647 : Int64)).toInt % (r.toInt + 1) < r.toInt + 1 := Int.emod_lt_of_pos _ (by omega)
  have hc := c_l2i (((b.toInt64) &&& (2147483647 : Int64)) - (((b.toInt64) &&& (2147483647 : Int64)) / ((r.toInt64) + (1 : Int64))) * ((r.toInt64) + (1 : Int64)))
  have hg := rng32 (own_rem b r)
  unfold own_rem at hg ⊢
  omega
theorem own_mn_b (b r : Int32) (h : 0 ≤ r.toInt) : 0 ≤ (own_mn b r).toInt ∧ (own_mn b r).toInt ≤ r.toInt := by
  have hm := c_mask b (63 : Int32) 6 (by decide) (by decide)
  unfold own_mn own_min
  simp only [Int32.lt_iff_toInt_lt]
  split <;> omega
theorem own_sub_b {e g : Int32} (h : 0 ≤ e.toInt) (hg : 0 ≤ g.toInt ∧ g.toInt ≤ e.toInt) : (e - g).toInt = e.toInt - g.toInt := by
  have a := c_isub e g
  have r1 := rng32 e
  have r2 := rng32 (e - g)
  omega
theorem own_lc {x y : Int64} : (0 < (lcmpW x y).toInt ↔ y.toInt < x.toInt) ∧ ((lcmpW x y).toInt < 0 ↔ x.toInt < y.toInt) ∧ ((lcmpW x y).toInt = 0 ↔ x.toInt = y.toInt) := by
  have h := c_lcmp x y
  rcases Int.lt_trichotomy x.toInt y.toInt with q | q | q
  · have := h.1 q; omega
  · have := h.2.1 q; omega
  · have := h.2.2 q; omega
theorem own_e16 (e : Int32) (he : 0 ≤ e.toInt) : ((e.toInt64) - (16 : Int64)).toInt = e.toInt - 16 := by
  have a := c_lsub e.toInt64 (16 : Int64)
  have b := c_i2l e
  have k : (16 : Int64).toInt = 16 := by decide
  have r := rng32 e
  have s := rng64 ((e.toInt64) - (16 : Int64))
  rw [b, k] at a
  omega
theorem own_i16 (e : Int32) (he : 0 ≤ e.toInt) : (e - (16 : Int32)).toInt = e.toInt - 16 := by
  have a := c_isub e (16 : Int32)
  have k : (16 : Int32).toInt = 16 := by decide
  have r := rng32 e
  have s := rng32 (e - (16 : Int32))
  rw [k] at a
  omega
theorem own_f2 (p r e : Int32) (he : 0 ≤ e.toInt) (h : (0 : Int32) < lcmpW (r.toInt64) ((e.toInt64) - (16 : Int64))) : own_pa p r e = e := by
  have k0 : (0 : Int32).toInt = 0 := by decide
  rw [Int32.lt_iff_toInt_lt, k0, own_lc.1, own_e16 e he, c_i2l] at h
  unfold own_pa
  rw [if_pos]
  rw [Int32.lt_iff_toInt_lt, own_i16 e he]
  exact h
theorem own_val (p r e : Int32) (he : 0 ≤ e.toInt) (hr : 0 ≤ r.toInt ∧ r.toInt ≤ e.toInt) (hp : 0 ≤ p.toInt ∧ p.toInt ≤ r.toInt) (h : ¬ (0 : Int32) < lcmpW (r.toInt64) ((e.toInt64) - (16 : Int64))) :
    (own_pa p r e).toInt = p.toInt + (r.toInt - p.toInt + 15) / 16 * 16 ∧ r.toInt ≤ e.toInt - 16 := by
  have k0 : (0 : Int32).toInt = 0 := by decide
  have k1 : (1 : Int32).toInt = 1 := by decide
  have k16 : (16 : Int32).toInt = 16 := by decide
  have h' := h
  rw [Int32.lt_iff_toInt_lt, k0, own_lc.1, own_e16 e he, c_i2l] at h'
  have hre := rng32 e
  have b1 := own_sub_b (e := r) (g := p) hr.1 hp
  have b2 : ((r - p) + (16 : Int32)).toInt = r.toInt - p.toInt + 16 := by
    have a := c_iadd (r - p) (16 : Int32)
    have s := rng32 ((r - p) + (16 : Int32))
    rw [k16, b1] at a; omega
  have b3 : (((r - p) + (16 : Int32)) - (1 : Int32)).toInt = r.toInt - p.toInt + 15 := by
    have a := c_isub ((r - p) + (16 : Int32)) (1 : Int32)
    have s := rng32 (((r - p) + (16 : Int32)) - (1 : Int32))
    rw [k1, b2] at a; omega
  have b4 : ((((r - p) + (16 : Int32)) - (1 : Int32)) / (16 : Int32)).toInt = (r.toInt - p.toInt + 15) / 16 := by
    have a := (c_idiv (((r - p) + (16 : Int32)) - (1 : Int32)) (16 : Int32) 16 k16 (by decide)).1 (by omega)
    rw [a, b3]
  have b5 : (((((r - p) + (16 : Int32)) - (1 : Int32)) / (16 : Int32)) * (16 : Int32)).toInt = (r.toInt - p.toInt + 15) / 16 * 16 := by
    have a := c_imul ((((r - p) + (16 : Int32)) - (1 : Int32)) / (16 : Int32)) (16 : Int32)
    have s := rng32 (((((r - p) + (16 : Int32)) - (1 : Int32)) / (16 : Int32)) * (16 : Int32))
    rw [k16, b4] at a; omega
  have b6 : (p + (((((r - p) + (16 : Int32)) - (1 : Int32)) / (16 : Int32)) * (16 : Int32))).toInt = p.toInt + (r.toInt - p.toInt + 15) / 16 * 16 := by
    have a := c_iadd p (((((r - p) + (16 : Int32)) - (1 : Int32)) / (16 : Int32)) * (16 : Int32))
    have s := rng32 (p + (((((r - p) + (16 : Int32)) - (1 : Int32)) / (16 : Int32)) * (16 : Int32)))
    rw [b5] at a; omega
  refine ⟨?_, by omega⟩
  unfold own_pa
  rw [if_neg]
  · exact b6
  · rw [Int32.lt_iff_toInt_lt, own_i16 e he]; exact h'
theorem own_d (x y : Int32) (h : 0 ≤ x.toInt) (h2 : 0 ≤ y.toInt) : ((x.toInt64) - (y.toInt64)).toInt = x.toInt - y.toInt := by
  have a := c_lsub x.toInt64 y.toInt64
  have b := c_i2l x
  have c := c_i2l y
  have r := rng32 x
  have r2 := rng32 y
  have s := rng64 ((x.toInt64) - (y.toInt64))
  rw [b, c] at a
  omega
theorem own_f1 (p r e : Int32) (he : 0 ≤ e.toInt) (hr : 0 ≤ r.toInt ∧ r.toInt ≤ e.toInt) (hp : 0 ≤ p.toInt ∧ p.toInt ≤ r.toInt) (h : ¬ (0 : Int32) < lcmpW (r.toInt64) ((e.toInt64) - (16 : Int64))) :
    ¬ (lcmpW (((own_pa p r e).toInt64) - (r.toInt64)) (0 : Int64) < (0 : Int32)) ∧ lcmpW (((own_pa p r e).toInt64) - (r.toInt64)) (16 : Int64) < (0 : Int32) ∧ lcmpW ((((own_pa p r e).toInt64) - (p.toInt64)) &&& (15 : Int64)) (0 : Int64) = (0 : Int32) := by
  obtain ⟨hv, hre⟩ := own_val p r e he hr hp h
  have k0 : (0 : Int32).toInt = 0 := by decide
  have z0 : (0 : Int64).toInt = 0 := by decide
  have z16 : (16 : Int64).toInt = 16 := by decide
  have d1 := own_d (own_pa p r e) r (by omega) hr.1
  have d2 := own_d (own_pa p r e) p (by omega) hp.1
  refine ⟨?_, ?_, ?_⟩
  · rw [Int32.lt_iff_toInt_lt, k0, own_lc.2.1, d1, z0]; omega
  · rw [Int32.lt_iff_toInt_lt, k0, own_lc.2.1, d1, z16]; omega
  · rw [← Int32.toInt_inj, k0, own_lc.2.2, z0, c_maskL _ (15 : Int64) 4 (by decide) (by decide), d2]
    omega
def own_gt (p1 p2 : Int32) : Int32 := own_rem p2 (own_end p1)
def own_rt (p1 p2 : Int32) : Int32 := own_end p1 - own_gt p1 p2
def own_btt (p1 p2 p3 : Int32) : Int32 := own_rem p3 (own_rt p1 p2)
def own_ptt (p1 p2 p3 : Int32) : Int32 := own_rt p1 p2 - own_btt p1 p2 p3
theorem own_rt_b (p1 p2 : Int32) : 0 ≤ (own_rt p1 p2).toInt ∧ (own_rt p1 p2).toInt ≤ (own_end p1).toInt := by
  have h := own_end_nn p1
  have hg : 0 ≤ (own_gt p1 p2).toInt ∧ (own_gt p1 p2).toInt ≤ (own_end p1).toInt := own_rem_b _ _ h
  have q := own_sub_b h hg
  unfold own_rt; omega
theorem own_ptt_b (p1 p2 p3 : Int32) : 0 ≤ (own_ptt p1 p2 p3).toInt ∧ (own_ptt p1 p2 p3).toInt ≤ (own_rt p1 p2).toInt := by
  have h := (own_rt_b p1 p2).1
  have hg : 0 ≤ (own_btt p1 p2 p3).toInt ∧ (own_btt p1 p2 p3).toInt ≤ (own_rt p1 p2).toInt := own_rem_b _ _ h
  have q := own_sub_b h hg
  unfold own_ptt; omega
theorem pn_0 : plainName "com/example/brevitree/brevitree/BlockPlannerProbeAfterPinLaw" = true := by first | (simp [plainName, overriddenIn]; done) | decide +kernel
theorem pd_0_1 : parseMethodDescriptor "(III)I" = some ⟨[.int, .int, .int], some .int⟩ := by decide +kernel
theorem ef_0 (m : MethodId) (x0 : Int32) (x1 : Int32) (x2 : Int32) (x3 : Int32) : entryFrame m #[(.int x0), (.int x1), (.int x2), (.int x3)] maxLocals = mkF m 0 #[.val (.int x0), .val (.int x1), .val (.int x2), .val (.int x3), .unset, .unset, .unset, .unset, .unset, .unset, .unset, .unset, .unset, .unset, .unset, .unset] [] := by first | (simp [entryFrame, mkF, argsToLocals, Value.category, maxLocals]; done) | rfl
def Q0 (Z : State) (p1 : Int32) (p2 : Int32) (p3 : Int32) (p4 : Int32) (h0 : Heap) (n0 : Nat) (v : Option Value) (h : Heap) (L : List Loc) : Prop := v = some (.int (1 : Int32)) ∧ Fr n0 L
set_option maxRecDepth 65536 in
set_option maxHeartbeats 40000000 in
theorem rm0_tt (l : Launch) (Z : State) (a0 : Array Value) (hw : ∀ d ∈ tables_1, d.before a0 Z = true) (ws : List Jvm.Cond) (p1 : Int32) (p2 : Int32) (p3 : Int32) (p4 : Int32) (h0 : Heap) (n0 : Nat) (Z0 : n0 ≤ h0.size) (hc14 : (p4 &&& (1 : Int32)) = (0 : Int32)) (hc55 : (p4 &&& (2 : Int32)) = (0 : Int32)) :
    MetFree l x (head1 (Jvm.Cond.code x code maxLocals ret :: ws) room_1) (fun a U => a = #[(.int p1), (.int p2), (.int p3), (.int p4)] ∧ Z.Warmed39 U.vm ∧ U.heap = h0) (fun _ _ _ _ _ => True) (fun _ U o U' => ∃ v L, o = .returned v ∧ Q0 Z p1 p2 p3 p4 h0 n0 v U'.heap L ∧ FrameEnd U o U' L room_1.cells room_1.slots) := by
  refine MetFree.of_bodySF (plainFor_of_name pn_0) hisR ?_
  intro p e s m args below meth c s₁ Bd hml0 hP hK
  obtain ⟨rfl, hZ, hh⟩ := hP
  have hx := Bd.exec
  have hby := Bd.bytes
  have hml : c.maxLocals = 16 := hml0
  have hown : s.vm.findClass "com/example/brevitree/brevitree/BlockPlannerProbeAfterPinLaw" = some m.cls := findClass_of_methodNamed Bd.named
  have hnm := (name_of_methodNamed Bd.named Bd.method).1
  have X0 : Stand p l e room_1 s m #[(.int p1), (.int p2), (.int p3), (.int p4)] below meth c s₁ [] 0 0 := Stand.of_body Bd
  have e0 : s₁.heap = h0 := by rw [← hh, Bd.state]; rfl
  have N0 := Fr.nil n0
  have pre0 : ∀ t, Steps p.tables e below (s₁.setTop (mkF m 0 #[.val (.int p1), .val (.int p2), .val (.int p3), .val (.int p4), .unset, .unset, .unset, .unset, .unset, .unset, .unset, .unset, .unset, .unset, .unset, .unset] [])) t → Steps p.tables e below (s₁.setTop (entryFrame m #[(.int p1), (.int p2), (.int p3), (.int p4)] maxLocals)) t := fun t k => castTop (ef_0 m p1 p2 p3 p4) k
  obtain ⟨_, _, ⟨T5, L5, k5, n5⟩, -, X5, ⟨Lc5, hQ5, l5, y5, z5⟩, st5⟩ := Jvm.LawKit.callS X0 hx (y := (⟨"com/example/brevitree/brevitree/BlockPlanner", "probeAfter", "(III)I"⟩ : MethodName)) hown (mvT hZ (hw _ (List.mem_of_getElem? (i := 6) rfl))) (mvT hZ (hw _ (List.mem_of_getElem? (i := 7) rfl))) (mvT hZ (hw _ (List.mem_of_getElem? (i := 8) rfl))) (mvT hZ (hw _ (List.mem_of_getElem? (i := 9) rfl))) (by decide) (backOf (W := 0) (rm2 l Z a0 hw [] (own_ptt p1 p2 p3) (own_rt p1 p2) (own_end p1) h0 n0 Z0) hZ (hw _ (List.mem_of_getElem? (i := 9) rfl)) (hw _ (List.mem_of_getElem? (i := 8) rfl)) (by decide) (by decide)) (g := (mkF m 100 #[.val (.int p1), .val (.int p2), .val (.int p3), .val (.int p4), .val (.int (own_end p1)), .val (.long ((own_end p1).toInt64)), .second, .val (.int (own_gt p1 p2)), .val (.int (own_rt p1 p2)), .val (.int (own_btt p1 p2 p3)), .val (.int (own_ptt p1 p2 p3)), .unset, .unset, .unset, .unset, .unset] [(.int (own_end p1)), (.int (own_rt p1 p2)), (.int (own_ptt p1 p2 p3))])) rfl (by rw [hml]; rfl) (argsL := [(.int (own_ptt p1 p2 p3)), (.int (own_rt p1 p2)), (.int (own_end p1))]) (rest := []) (lenOf pd_0_1 rfl) rfl (by show 2 * 0 + _ ≤ _; exact Nat.le_of_eq rfl) (hb hby at_100) (fun _ _ => ⟨rfl, e0, (by decide : 0 + 0 ≤ _), (by decide : 0 + 0 ≤ _)⟩)
  dsimp only [Pt.U, Pt.locs, Pt.cells, Pt.slots] at X5 l5 y5 z5 st5 hQ5
  subst l5 y5 z5
  obtain ⟨rfl, N5q, hs5⟩ := hQ5
  have N5 := Fr.app N0 N5q
  obtain ⟨fs, hr, hrun, hended, hW, hsame⟩ := X5.leave (v := some (.int (1 : Int32))) (fun h => by rw [Bd.returns] at h; cases h)
  refine ⟨_, _, pre0 _ ?_, hrun, hended, _, _, rfl, ?_, ⟨_, rfl⟩, hW, hsame.mono (by decide) (by decide)⟩
  · show Steps p.tables e below (s₁.setTop (mkF m 0 #[.val (.int p1), .val (.int p2), .val (.int p3), .val (.int p4), .unset, .unset, .unset, .unset, .unset, .unset, .unset, .unset, .unset, .unset, .unset, .unset] [])) _
    refine XS.iloadN X0.here hx rfl (hb hby at_0) rfl ?_
    show Steps p.tables e below (s₁.setTop (mkF m 1 #[.val (.int p1), .val (.int p2), .val (.int p3), .val (.int p4), .unset, .unset, .unset, .unset, .unset, .unset, .unset, .unset, .unset, .unset, .unset, .unset] [(.int p1)])) _
    refine X0.ldcInt hx hown (mvT hZ (hw _ (List.mem_of_getElem? (i := 0) rfl))) (g := (mkF m 1 #[.val (.int p1), .val (.int p2), .val (.int p3), .val (.int p4), .unset, .unset, .unset, .unset, .unset, .unset, .unset, .unset, .unset, .unset, .unset, .unset] [(.int p1)])) rfl (hb hby at_1) _ ?_
    show Steps p.tables e below (s₁.setTop (mkF m 3 #[.val (.int p1), .val (.int p2), .val (.int p3), .val (.int p4), .unset, .unset, .unset, .unset, .unset, .unset, .unset, .unset, .unset, .unset, .unset, .unset] [(.int (2147483647 : Int32)), (.int p1)])) _
    refine XS.iand X0.here hx rfl (hb hby at_3) rfl ?_
    show Steps p.tables e below (s₁.setTop (mkF m 4 #[.val (.int p1), .val (.int p2), .val (.int p3), .val (.int p4), .unset, .unset, .unset, .unset, .unset, .unset, .unset, .unset, .unset, .unset, .unset, .unset] [(.int (p1 &&& (2147483647 : Int32)))])) _
    refine XS.istore X0.here hx rfl (hb hby at_4) rfl (l' := #[.val (.int p1), .val (.int p2), .val (.int p3), .val (.int p4), .val (.int (p1 &&& (2147483647 : Int32))), .unset, .unset, .unset, .unset, .unset, .unset, .unset, .unset, .unset, .unset, .unset]) rfl ?_
    show Steps p.tables e below (s₁.setTop (mkF m 6 #[.val (.int p1), .val (.int p2), .val (.int p3), .val (.int p4), .val (.int (own_end p1)), .unset, .unset, .unset, .unset, .unset, .unset, .unset, .unset, .unset, .unset, .unset] [])) _
    refine XS.iload X0.here hx rfl (hb hby at_6) rfl ?_
    show Steps p.tables e below (s₁.setTop (mkF m 8 #[.val (.int p1), .val (.int p2), .val (.int p3), .val (.int p4), .val (.int (own_end p1)), .unset, .unset, .unset, .unset, .unset, .unset, .unset, .unset, .unset, .unset, .unset] [(.int (own_end p1))])) _
    refine XS.i2l X0.here hx rfl (hb hby at_8) rfl ?_
    show Steps p.tables e below (s₁.setTop (mkF m 9 #[.val (.int p1), .val (.int p2), .val (.int p3), .val (.int p4), .val (.int (own_end p1)), .unset, .unset, .unset, .unset, .unset, .unset, .unset, .unset, .unset, .unset, .unset] [(.long ((own_end p1).toInt64))])) _
    refine XS.lstore X0.here hx rfl (hb hby at_9) rfl (l' := #[.val (.int p1), .val (.int p2), .val (.int p3), .val (.int p4), .val (.int (own_end p1)), .val (.long ((own_end p1).toInt64)), .second, .unset, .unset, .unset, .unset, .unset, .unset, .unset, .unset, .unset]) rfl ?_
    show Steps p.tables e below (s₁.setTop (mkF m 11 #[.val (.int p1), .val (.int p2), .val (.int p3), .val (.int p4), .val (.int (own_end p1)), .val (.long ((own_end p1).toInt64)), .second, .unset, .unset, .unset, .unset, .unset, .unset, .unset, .unset, .unset] [])) _
    refine XS.iloadN X0.here hx rfl (hb hby at_11) rfl ?_
    show Steps p.tables e below (s₁.setTop (mkF m 12 #[.val (.int p1), .val (.int p2), .val (.int p3), .val (.int p4), .val (.int (own_end p1)), .val (.long ((own_end p1).toInt64)), .second, .unset, .unset, .unset, .unset, .unset, .unset, .unset, .unset, .unset] [(.int p4)])) _
    refine XS.iconst X0.here hx rfl (hb hby at_12) ?_
    show Steps p.tables e below (s₁.setTop (mkF m 13 #[.val (.int p1), .val (.int p2), .val (.int p3), .val (.int p4), .val (.int (own_end p1)), .val (.long ((own_end p1).toInt64)), .second, .unset, .unset, .unset, .unset, .unset, .unset, .unset, .unset, .unset] [(.int (1 : Int32)), (.int p4)])) _
    refine XS.iand X0.here hx rfl (hb hby at_13) rfl ?_
    show Steps p.tables e below (s₁.setTop (mkF m 14 #[.val (.int p1), .val (.int p2), .val (.int p3), .val (.int p4), .val (.int (own_end p1)), .val (.long ((own_end p1).toInt64)), .second, .unset, .unset, .unset, .unset, .unset, .unset, .unset, .unset, .unset] [(.int (p4 &&& (1 : Int32)))])) _
    refine XS.ifYes X0.here hx rfl (pc0 := 14) (pc' := 31) rfl (hb hby at_14) rfl ((if0 _ _).trans (teq hc14).1) (by decide) (by decide) ?_
    show Steps p.tables e below (s₁.setTop (mkF m 31 #[.val (.int p1), .val (.int p2), .val (.int p3), .val (.int p4), .val (.int (own_end p1)), .val (.long ((own_end p1).toInt64)), .second, .unset, .unset, .unset, .unset, .unset, .unset, .unset, .unset, .unset] [])) _
    refine XS.iloadN X0.here hx rfl (hb hby at_31) rfl ?_
    show Steps p.tables e below (s₁.setTop (mkF m 32 #[.val (.int p1), .val (.int p2), .val (.int p3), .val (.int p4), .val (.int (own_end p1)), .val (.long ((own_end p1).toInt64)), .second, .unset, .unset, .unset, .unset, .unset, .unset, .unset, .unset, .unset] [(.int p2)])) _
    refine XS.i2l X0.here hx rfl (hb hby at_32) rfl ?_
    show Steps p.tables e below (s₁.setTop (mkF m 33 #[.val (.int p1), .val (.int p2), .val (.int p3), .val (.int p4), .val (.int (own_end p1)), .val (.long ((own_end p1).toInt64)), .second, .unset, .unset, .unset, .unset, .unset, .unset, .unset, .unset, .unset] [(.long (p2.toInt64))])) _
    refine X0.ldc2Long hx hown (mvT hZ (hw _ (List.mem_of_getElem? (i := 5) rfl))) (g := (mkF m 33 #[.val (.int p1), .val (.int p2), .val (.int p3), .val (.int p4), .val (.int (own_end p1)), .val (.long ((own_end p1).toInt64)), .second, .unset, .unset, .unset, .unset, .unset, .unset, .unset, .unset, .unset] [(.long (p2.toInt64))])) rfl (hb hby at_33) _ ?_
    show Steps p.tables e below (s₁.setTop (mkF m 36 #[.val (.int p1), .val (.int p2), .val (.int p3), .val (.int p4), .val (.int (own_end p1)), .val (.long ((own_end p1).toInt64)), .second, .unset, .unset, .unset, .unset, .unset, .unset, .unset, .unset, .unset] [(.long (2147483647 : Int64)), (.long (p2.toInt64))])) _
    refine XS.land X0.here hx rfl (hb hby at_36) rfl ?_
    show Steps p.tables e below (s₁.setTop (mkF m 37 #[.val (.int p1), .val (.int p2), .val (.int p3), .val (.int p4), .val (.int (own_end p1)), .val (.long ((own_end p1).toInt64)), .second, .unset, .unset, .unset, .unset, .unset, .unset, .unset, .unset, .unset] [(.long ((p2.toInt64) &&& (2147483647 : Int64)))])) _
    refine XS.lload X0.here hx rfl (hb hby at_37) rfl ?_
    show Steps p.tables e below (s₁.setTop (mkF m 39 #[.val (.int p1), .val (.int p2), .val (.int p3), .val (.int p4), .val (.int (own_end p1)), .val (.long ((own_end p1).toInt64)), .second, .unset, .unset, .unset, .unset, .unset, .unset, .unset, .unset, .unset] [(.long ((own_end p1).toInt64)), (.long ((p2.toInt64) &&& (2147483647 : Int64)))])) _
    refine XS.lconst X0.here hx rfl (hb hby at_39) ?_
    show Steps p.tables e below (s₁.setTop (mkF m 40 #[.val (.int p1), .val (.int p2), .val (.int p3), .val (.int p4), .val (.int (own_end p1)), .val (.long ((own_end p1).toInt64)), .second, .unset, .unset, .unset, .unset, .unset, .unset, .unset, .unset, .unset] [(.long (1 : Int64)), (.long ((own_end p1).toInt64)), (.long ((p2.toInt64) &&& (2147483647 : Int64)))])) _
    refine XS.ladd X0.here hx rfl (hb hby at_40) rfl ?_
    show Steps p.tables e below (s₁.setTop (mkF m 41 #[.val (.int p1), .val (.int p2), .val (.int p3), .val (.int p4), .val (.int (own_end p1)), .val (.long ((own_end p1).toInt64)), .second, .unset, .unset, .unset, .unset, .unset, .unset, .unset, .unset, .unset] [(.long (((own_end p1).toInt64) + (1 : Int64))), (.long ((p2.toInt64) &&& (2147483647 : Int64)))])) _
    refine XS.lrem X0.here hx rfl (hb hby at_41) rfl (own_nz _ (own_end_nn p1)) ?_
    show Steps p.tables e below (s₁.setTop (mkF m 42 #[.val (.int p1), .val (.int p2), .val (.int p3), .val (.int p4), .val (.int (own_end p1)), .val (.long ((own_end p1).toInt64)), .second, .unset, .unset, .unset, .unset, .unset, .unset, .unset, .unset, .unset] [(.long (((p2.toInt64) &&& (2147483647 : Int64)) - (((p2.toInt64) &&& (2147483647 : Int64)) / (((own_end p1).toInt64) + (1 : Int64))) * (((own_end p1).toInt64) + (1 : Int64))))])) _
    refine XS.l2i X0.here hx rfl (hb hby at_42) rfl ?_
    show Steps p.tables e below (s₁.setTop (mkF m 43 #[.val (.int p1), .val (.int p2), .val (.int p3), .val (.int p4), .val (.int (own_end p1)), .val (.long ((own_end p1).toInt64)), .second, .unset, .unset, .unset, .unset, .unset, .unset, .unset, .unset, .unset] [(.int ((((p2.toInt64) &&& (2147483647 : Int64)) - (((p2.toInt64) &&& (2147483647 : Int64)) / (((own_end p1).toInt64) + (1 : Int64))) * (((own_end p1).toInt64) + (1 : Int64))).toInt32))])) _
    refine XS.istore X0.here hx rfl (hb hby at_43) rfl (l' := #[.val (.int p1), .val (.int p2), .val (.int p3), .val (.int p4), .val (.int (own_end p1)), .val (.long ((own_end p1).toInt64)), .second, .val (.int ((((p2.toInt64) &&& (2147483647 : Int64)) - (((p2.toInt64) &&& (2147483647 : Int64)) / (((own_end p1).toInt64) + (1 : Int64))) * (((own_end p1).toInt64) + (1 : Int64))).toInt32)), .unset, .unset, .unset, .unset, .unset, .unset, .unset, .unset]) rfl ?_
    show Steps p.tables e below (s₁.setTop (mkF m 45 #[.val (.int p1), .val (.int p2), .val (.int p3), .val (.int p4), .val (.int (own_end p1)), .val (.long ((own_end p1).toInt64)), .second, .val (.int (own_gt p1 p2)), .unset, .unset, .unset, .unset, .unset, .unset, .unset, .unset] [])) _
    refine XS.iload X0.here hx rfl (hb hby at_45) rfl ?_
    show Steps p.tables e below (s₁.setTop (mkF m 47 #[.val (.int p1), .val (.int p2), .val (.int p3), .val (.int p4), .val (.int (own_end p1)), .val (.long ((own_end p1).toInt64)), .second, .val (.int (own_gt p1 p2)), .unset, .unset, .unset, .unset, .unset, .unset, .unset, .unset] [(.int (own_end p1))])) _
    refine XS.iload X0.here hx rfl (hb hby at_47) rfl ?_
    show Steps p.tables e below (s₁.setTop (mkF m 49 #[.val (.int p1), .val (.int p2), .val (.int p3), .val (.int p4), .val (.int (own_end p1)), .val (.long ((own_end p1).toInt64)), .second, .val (.int (own_gt p1 p2)), .unset, .unset, .unset, .unset, .unset, .unset, .unset, .unset] [(.int (own_gt p1 p2)), (.int (own_end p1))])) _
    refine XS.isub X0.here hx rfl (hb hby at_49) rfl ?_
    show Steps p.tables e below (s₁.setTop (mkF m 50 #[.val (.int p1), .val (.int p2), .val (.int p3), .val (.int p4), .val (.int (own_end p1)), .val (.long ((own_end p1).toInt64)), .second, .val (.int (own_gt p1 p2)), .unset, .unset, .unset, .unset, .unset, .unset, .unset, .unset] [(.int ((own_end p1) - (own_gt p1 p2)))])) _
    refine XS.istore X0.here hx rfl (hb hby at_50) rfl (l' := #[.val (.int p1), .val (.int p2), .val (.int p3), .val (.int p4), .val (.int (own_end p1)), .val (.long ((own_end p1).toInt64)), .second, .val (.int (own_gt p1 p2)), .val (.int ((own_end p1) - (own_gt p1 p2))), .unset, .unset, .unset, .unset, .unset, .unset, .unset]) rfl ?_
    show Steps p.tables e below (s₁.setTop (mkF m 52 #[.val (.int p1), .val (.int p2), .val (.int p3), .val (.int p4), .val (.int (own_end p1)), .val (.long ((own_end p1).toInt64)), .second, .val (.int (own_gt p1 p2)), .val (.int (own_rt p1 p2)), .unset, .unset, .unset, .unset, .unset, .unset, .unset] [])) _
    refine XS.iloadN X0.here hx rfl (hb hby at_52) rfl ?_
    show Steps p.tables e below (s₁.setTop (mkF m 53 #[.val (.int p1), .val (.int p2), .val (.int p3), .val (.int p4), .val (.int (own_end p1)), .val (.long ((own_end p1).toInt64)), .second, .val (.int (own_gt p1 p2)), .val (.int (own_rt p1 p2)), .unset, .unset, .unset, .unset, .unset, .unset, .unset] [(.int p4)])) _
    refine XS.iconst X0.here hx rfl (hb hby at_53) ?_
    show Steps p.tables e below (s₁.setTop (mkF m 54 #[.val (.int p1), .val (.int p2), .val (.int p3), .val (.int p4), .val (.int (own_end p1)), .val (.long ((own_end p1).toInt64)), .second, .val (.int (own_gt p1 p2)), .val (.int (own_rt p1 p2)), .unset, .unset, .unset, .unset, .unset, .unset, .unset] [(.int (2 : Int32)), (.int p4)])) _
    refine XS.iand X0.here hx rfl (hb hby at_54) rfl ?_
    show Steps p.tables e below (s₁.setTop (mkF m 55 #[.val (.int p1), .val (.int p2), .val (.int p3), .val (.int p4), .val (.int (own_end p1)), .val (.long ((own_end p1).toInt64)), .second, .val (.int (own_gt p1 p2)), .val (.int (own_rt p1 p2)), .unset, .unset, .unset, .unset, .unset, .unset, .unset] [(.int (p4 &&& (2 : Int32)))])) _
    refine XS.ifYes X0.here hx rfl (pc0 := 55) (pc' := 72) rfl (hb hby at_55) rfl ((if0 _ _).trans (teq hc55).1) (by decide) (by decide) ?_
    show Steps p.tables e below (s₁.setTop (mkF m 72 #[.val (.int p1), .val (.int p2), .val (.int p3), .val (.int p4), .val (.int (own_end p1)), .val (.long ((own_end p1).toInt64)), .second, .val (.int (own_gt p1 p2)), .val (.int (own_rt p1 p2)), .unset, .unset, .unset, .unset, .unset, .unset, .unset] [])) _
    refine XS.iloadN X0.here hx rfl (hb hby at_72) rfl ?_
    show Steps p.tables e below (s₁.setTop (mkF m 73 #[.val (.int p1), .val (.int p2), .val (.int p3), .val (.int p4), .val (.int (own_end p1)), .val (.long ((own_end p1).toInt64)), .second, .val (.int (own_gt p1 p2)), .val (.int (own_rt p1 p2)), .unset, .unset, .unset, .unset, .unset, .unset, .unset] [(.int p3)])) _
    refine XS.i2l X0.here hx rfl (hb hby at_73) rfl ?_
    show Steps p.tables e below (s₁.setTop (mkF m 74 #[.val (.int p1), .val (.int p2), .val (.int p3), .val (.int p4), .val (.int (own_end p1)), .val (.long ((own_end p1).toInt64)), .second, .val (.int (own_gt p1 p2)), .val (.int (own_rt p1 p2)), .unset, .unset, .unset, .unset, .unset, .unset, .unset] [(.long (p3.toInt64))])) _
    refine X0.ldc2Long hx hown (mvT hZ (hw _ (List.mem_of_getElem? (i := 5) rfl))) (g := (mkF m 74 #[.val (.int p1), .val (.int p2), .val (.int p3), .val (.int p4), .val (.int (own_end p1)), .val (.long ((own_end p1).toInt64)), .second, .val (.int (own_gt p1 p2)), .val (.int (own_rt p1 p2)), .unset, .unset, .unset, .unset, .unset, .unset, .unset] [(.long (p3.toInt64))])) rfl (hb hby at_74) _ ?_
    show Steps p.tables e below (s₁.setTop (mkF m 77 #[.val (.int p1), .val (.int p2), .val (.int p3), .val (.int p4), .val (.int (own_end p1)), .val (.long ((own_end p1).toInt64)), .second, .val (.int (own_gt p1 p2)), .val (.int (own_rt p1 p2)), .unset, .unset, .unset, .unset, .unset, .unset, .unset] [(.long (2147483647 : Int64)), (.long (p3.toInt64))])) _
    refine XS.land X0.here hx rfl (hb hby at_77) rfl ?_
    show Steps p.tables e below (s₁.setTop (mkF m 78 #[.val (.int p1), .val (.int p2), .val (.int p3), .val (.int p4), .val (.int (own_end p1)), .val (.long ((own_end p1).toInt64)), .second, .val (.int (own_gt p1 p2)), .val (.int (own_rt p1 p2)), .unset, .unset, .unset, .unset, .unset, .unset, .unset] [(.long ((p3.toInt64) &&& (2147483647 : Int64)))])) _
    refine XS.iload X0.here hx rfl (hb hby at_78) rfl ?_
    show Steps p.tables e below (s₁.setTop (mkF m 80 #[.val (.int p1), .val (.int p2), .val (.int p3), .val (.int p4), .val (.int (own_end p1)), .val (.long ((own_end p1).toInt64)), .second, .val (.int (own_gt p1 p2)), .val (.int (own_rt p1 p2)), .unset, .unset, .unset, .unset, .unset, .unset, .unset] [(.int (own_rt p1 p2)), (.long ((p3.toInt64) &&& (2147483647 : Int64)))])) _
    refine XS.i2l X0.here hx rfl (hb hby at_80) rfl ?_
    show Steps p.tables e below (s₁.setTop (mkF m 81 #[.val (.int p1), .val (.int p2), .val (.int p3), .val (.int p4), .val (.int (own_end p1)), .val (.long ((own_end p1).toInt64)), .second, .val (.int (own_gt p1 p2)), .val (.int (own_rt p1 p2)), .unset, .unset, .unset, .unset, .unset, .unset, .unset] [(.long ((own_rt p1 p2).toInt64)), (.long ((p3.toInt64) &&& (2147483647 : Int64)))])) _
    refine XS.lconst X0.here hx rfl (hb hby at_81) ?_
    show Steps p.tables e below (s₁.setTop (mkF m 82 #[.val (.int p1), .val (.int p2), .val (.int p3), .val (.int p4), .val (.int (own_end p1)), .val (.long ((own_end p1).toInt64)), .second, .val (.int (own_gt p1 p2)), .val (.int (own_rt p1 p2)), .unset, .unset, .unset, .unset, .unset, .unset, .unset] [(.long (1 : Int64)), (.long ((own_rt p1 p2).toInt64)), (.long ((p3.toInt64) &&& (2147483647 : Int64)))])) _
    refine XS.ladd X0.here hx rfl (hb hby at_82) rfl ?_
    show Steps p.tables e below (s₁.setTop (mkF m 83 #[.val (.int p1), .val (.int p2), .val (.int p3), .val (.int p4), .val (.int (own_end p1)), .val (.long ((own_end p1).toInt64)), .second, .val (.int (own_gt p1 p2)), .val (.int (own_rt p1 p2)), .unset, .unset, .unset, .unset, .unset, .unset, .unset] [(.long (((own_rt p1 p2).toInt64) + (1 : Int64))), (.long ((p3.toInt64) &&& (2147483647 : Int64)))])) _
    refine XS.lrem X0.here hx rfl (hb hby at_83) rfl (own_nz _ (own_rt_b p1 p2).1) ?_
    show Steps p.tables e below (s₁.setTop (mkF m 84 #[.val (.int p1), .val (.int p2), .val (.int p3), .val (.int p4), .val (.int (own_end p1)), .val (.long ((own_end p1).toInt64)), .second, .val (.int (own_gt p1 p2)), .val (.int (own_rt p1 p2)), .unset, .unset, .unset, .unset, .unset, .unset, .unset] [(.long (((p3.toInt64) &&& (2147483647 : Int64)) - (((p3.toInt64) &&& (2147483647 : Int64)) / (((own_rt p1 p2).toInt64) + (1 : Int64))) * (((own_rt p1 p2).toInt64) + (1 : Int64))))])) _
    refine XS.l2i X0.here hx rfl (hb hby at_84) rfl ?_
    show Steps p.tables e below (s₁.setTop (mkF m 85 #[.val (.int p1), .val (.int p2), .val (.int p3), .val (.int p4), .val (.int (own_end p1)), .val (.long ((own_end p1).toInt64)), .second, .val (.int (own_gt p1 p2)), .val (.int (own_rt p1 p2)), .unset, .unset, .unset, .unset, .unset, .unset, .unset] [(.int ((((p3.toInt64) &&& (2147483647 : Int64)) - (((p3.toInt64) &&& (2147483647 : Int64)) / (((own_rt p1 p2).toInt64) + (1 : Int64))) * (((own_rt p1 p2).toInt64) + (1 : Int64))).toInt32))])) _
    refine XS.istore X0.here hx rfl (hb hby at_85) rfl (l' := #[.val (.int p1), .val (.int p2), .val (.int p3), .val (.int p4), .val (.int (own_end p1)), .val (.long ((own_end p1).toInt64)), .second, .val (.int (own_gt p1 p2)), .val (.int (own_rt p1 p2)), .val (.int ((((p3.toInt64) &&& (2147483647 : Int64)) - (((p3.toInt64) &&& (2147483647 : Int64)) / (((own_rt p1 p2).toInt64) + (1 : Int64))) * (((own_rt p1 p2).toInt64) + (1 : Int64))).toInt32)), .unset, .unset, .unset, .unset, .unset, .unset]) rfl ?_
    show Steps p.tables e below (s₁.setTop (mkF m 87 #[.val (.int p1), .val (.int p2), .val (.int p3), .val (.int p4), .val (.int (own_end p1)), .val (.long ((own_end p1).toInt64)), .second, .val (.int (own_gt p1 p2)), .val (.int (own_rt p1 p2)), .val (.int (own_btt p1 p2 p3)), .unset, .unset, .unset, .unset, .unset, .unset] [])) _
    refine XS.iload X0.here hx rfl (hb hby at_87) rfl ?_
    show Steps p.tables e below (s₁.setTop (mkF m 89 #[.val (.int p1), .val (.int p2), .val (.int p3), .val (.int p4), .val (.int (own_end p1)), .val (.long ((own_end p1).toInt64)), .second, .val (.int (own_gt p1 p2)), .val (.int (own_rt p1 p2)), .val (.int (own_btt p1 p2 p3)), .unset, .unset, .unset, .unset, .unset, .unset] [(.int (own_rt p1 p2))])) _
    refine XS.iload X0.here hx rfl (hb hby at_89) rfl ?_
    show Steps p.tables e below (s₁.setTop (mkF m 91 #[.val (.int p1), .val (.int p2), .val (.int p3), .val (.int p4), .val (.int (own_end p1)), .val (.long ((own_end p1).toInt64)), .second, .val (.int (own_gt p1 p2)), .val (.int (own_rt p1 p2)), .val (.int (own_btt p1 p2 p3)), .unset, .unset, .unset, .unset, .unset, .unset] [(.int (own_btt p1 p2 p3)), (.int (own_rt p1 p2))])) _
    refine XS.isub X0.here hx rfl (hb hby at_91) rfl ?_
    show Steps p.tables e below (s₁.setTop (mkF m 92 #[.val (.int p1), .val (.int p2), .val (.int p3), .val (.int p4), .val (.int (own_end p1)), .val (.long ((own_end p1).toInt64)), .second, .val (.int (own_gt p1 p2)), .val (.int (own_rt p1 p2)), .val (.int (own_btt p1 p2 p3)), .unset, .unset, .unset, .unset, .unset, .unset] [(.int ((own_rt p1 p2) - (own_btt p1 p2 p3)))])) _
    refine XS.istore X0.here hx rfl (hb hby at_92) rfl (l' := #[.val (.int p1), .val (.int p2), .val (.int p3), .val (.int p4), .val (.int (own_end p1)), .val (.long ((own_end p1).toInt64)), .second, .val (.int (own_gt p1 p2)), .val (.int (own_rt p1 p2)), .val (.int (own_btt p1 p2 p3)), .val (.int ((own_rt p1 p2) - (own_btt p1 p2 p3))), .unset, .unset, .unset, .unset, .unset]) rfl ?_
    show Steps p.tables e below (s₁.setTop (mkF m 94 #[.val (.int p1), .val (.int p2), .val (.int p3), .val (.int p4), .val (.int (own_end p1)), .val (.long ((own_end p1).toInt64)), .second, .val (.int (own_gt p1 p2)), .val (.int (own_rt p1 p2)), .val (.int (own_btt p1 p2 p3)), .val (.int (own_ptt p1 p2 p3)), .unset, .unset, .unset, .unset, .unset] [])) _
    refine XS.iload X0.here hx rfl (hb hby at_94) rfl ?_
    show Steps p.tables e below (s₁.setTop (mkF m 96 #[.val (.int p1), .val (.int p2), .val (.int p3), .val (.int p4), .val (.int (own_end p1)), .val (.long ((own_end p1).toInt64)), .second, .val (.int (own_gt p1 p2)), .val (.int (own_rt p1 p2)), .val (.int (own_btt p1 p2 p3)), .val (.int (own_ptt p1 p2 p3)), .unset, .unset, .unset, .unset, .unset] [(.int (own_ptt p1 p2 p3))])) _
    refine XS.iload X0.here hx rfl (hb hby at_96) rfl ?_
    show Steps p.tables e below (s₁.setTop (mkF m 98 #[.val (.int p1), .val (.int p2), .val (.int p3), .val (.int p4), .val (.int (own_end p1)), .val (.long ((own_end p1).toInt64)), .second, .val (.int (own_gt p1 p2)), .val (.int (own_rt p1 p2)), .val (.int (own_btt p1 p2 p3)), .val (.int (own_ptt p1 p2 p3)), .unset, .unset, .unset, .unset, .unset] [(.int (own_rt p1 p2)), (.int (own_ptt p1 p2 p3))])) _
    refine XS.iload X0.here hx rfl (hb hby at_98) rfl ?_
    show Steps p.tables e below (s₁.setTop (mkF m 100 #[.val (.int p1), .val (.int p2), .val (.int p3), .val (.int p4), .val (.int (own_end p1)), .val (.long ((own_end p1).toInt64)), .second, .val (.int (own_gt p1 p2)), .val (.int (own_rt p1 p2)), .val (.int (own_btt p1 p2 p3)), .val (.int (own_ptt p1 p2 p3)), .unset, .unset, .unset, .unset, .unset] [(.int (own_end p1)), (.int (own_rt p1 p2)), (.int (own_ptt p1 p2 p3))])) _
    refine st5 _ ?_
    show Steps p.tables e below (T5.setTop (mkF m 103 #[.val (.int p1), .val (.int p2), .val (.int p3), .val (.int p4), .val (.int (own_end p1)), .val (.long ((own_end p1).toInt64)), .second, .val (.int (own_gt p1 p2)), .val (.int (own_rt p1 p2)), .val (.int (own_btt p1 p2 p3)), .val (.int (own_ptt p1 p2 p3)), .unset, .unset, .unset, .unset, .unset] [(.int (own_pa (own_ptt p1 p2 p3) (own_rt p1 p2) (own_end p1)))])) _
    refine XS.istore X5.here hx rfl (hb hby at_103) rfl (l' := #[.val (.int p1), .val (.int p2), .val (.int p3), .val (.int p4), .val (.int (own_end p1)), .val (.long ((own_end p1).toInt64)), .second, .val (.int (own_gt p1 p2)), .val (.int (own_rt p1 p2)), .val (.int (own_btt p1 p2 p3)), .val (.int (own_ptt p1 p2 p3)), .val (.int (own_pa (own_ptt p1 p2 p3) (own_rt p1 p2) (own_end p1))), .unset, .unset, .unset, .unset]) rfl ?_
    show Steps p.tables e below (T5.setTop (mkF m 105 #[.val (.int p1), .val (.int p2), .val (.int p3), .val (.int p4), .val (.int (own_end p1)), .val (.long ((own_end p1).toInt64)), .second, .val (.int (own_gt p1 p2)), .val (.int (own_rt p1 p2)), .val (.int (own_btt p1 p2 p3)), .val (.int (own_ptt p1 p2 p3)), .val (.int (own_pa (own_ptt p1 p2 p3) (own_rt p1 p2) (own_end p1))), .unset, .unset, .unset, .unset] [])) _
    refine XS.iload X5.here hx rfl (hb hby at_105) rfl ?_
    show Steps p.tables e below (T5.setTop (mkF m 107 #[.val (.int p1), .val (.int p2), .val (.int p3), .val (.int p4), .val (.int (own_end p1)), .val (.long ((own_end p1).toInt64)), .second, .val (.int (own_gt p1 p2)), .val (.int (own_rt p1 p2)), .val (.int (own_btt p1 p2 p3)), .val (.int (own_ptt p1 p2 p3)), .val (.int (own_pa (own_ptt p1 p2 p3) (own_rt p1 p2) (own_end p1))), .unset, .unset, .unset, .unset] [(.int (own_rt p1 p2))])) _
    refine XS.i2l X5.here hx rfl (hb hby at_107) rfl ?_
    show Steps p.tables e below (T5.setTop (mkF m 108 #[.val (.int p1), .val (.int p2), .val (.int p3), .val (.int p4), .val (.int (own_end p1)), .val (.long ((own_end p1).toInt64)), .second, .val (.int (own_gt p1 p2)), .val (.int (own_rt p1 p2)), .val (.int (own_btt p1 p2 p3)), .val (.int (own_ptt p1 p2 p3)), .val (.int (own_pa (own_ptt p1 p2 p3) (own_rt p1 p2) (own_end p1))), .unset, .unset, .unset, .unset] [(.long ((own_rt p1 p2).toInt64))])) _
    refine XS.lload X5.here hx rfl (hb hby at_108) rfl ?_
    show Steps p.tables e below (T5.setTop (mkF m 110 #[.val (.int p1), .val (.int p2), .val (.int p3), .val (.int p4), .val (.int (own_end p1)), .val (.long ((own_end p1).toInt64)), .second, .val (.int (own_gt p1 p2)), .val (.int (own_rt p1 p2)), .val (.int (own_btt p1 p2 p3)), .val (.int (own_ptt p1 p2 p3)), .val (.int (own_pa (own_ptt p1 p2 p3) (own_rt p1 p2) (own_end p1))), .unset, .unset, .unset, .unset] [(.long ((own_end p1).toInt64)), (.long ((own_rt p1 p2).toInt64))])) _
    refine X5.ldc2Long hx hown (mvT hZ (hw _ (List.mem_of_getElem? (i := 10) rfl))) (g := (mkF m 110 #[.val (.int p1), .val (.int p2), .val (.int p3), .val (.int p4), .val (.int (own_end p1)), .val (.long ((own_end p1).toInt64)), .second, .val (.int (own_gt p1 p2)), .val (.int (own_rt p1 p2)), .val (.int (own_btt p1 p2 p3)), .val (.int (own_ptt p1 p2 p3)), .val (.int (own_pa (own_ptt p1 p2 p3) (own_rt p1 p2) (own_end p1))), .unset, .unset, .unset, .unset] [(.long ((own_end p1).toInt64)), (.long ((own_rt p1 p2).toInt64))])) rfl (hb hby at_110) _ ?_
    show Steps p.tables e below (T5.setTop (mkF m 113 #[.val (.int p1), .val (.int p2), .val (.int p3), .val (.int p4), .val (.int (own_end p1)), .val (.long ((own_end p1).toInt64)), .second, .val (.int (own_gt p1 p2)), .val (.int (own_rt p1 p2)), .val (.int (own_btt p1 p2 p3)), .val (.int (own_ptt p1 p2 p3)), .val (.int (own_pa (own_ptt p1 p2 p3) (own_rt p1 p2) (own_end p1))), .unset, .unset, .unset, .unset] [(.long (16 : Int64)), (.long ((own_end p1).toInt64)), (.long ((own_rt p1 p2).toInt64))])) _
    refine XS.lsub X5.here hx rfl (hb hby at_113) rfl ?_
    show Steps p.tables e below (T5.setTop (mkF m 114 #[.val (.int p1), .val (.int p2), .val (.int p3), .val (.int p4), .val (.int (own_end p1)), .val (.long ((own_end p1).toInt64)), .second, .val (.int (own_gt p1 p2)), .val (.int (own_rt p1 p2)), .val (.int (own_btt p1 p2 p3)), .val (.int (own_ptt p1 p2 p3)), .val (.int (own_pa (own_ptt p1 p2 p3) (own_rt p1 p2) (own_end p1))), .unset, .unset, .unset, .unset] [(.long (((own_end p1).toInt64) - (16 : Int64))), (.long ((own_rt p1 p2).toInt64))])) _
    refine XS.lcmp X5.here hx rfl (hb hby at_114) rfl ?_
    show Steps p.tables e below (T5.setTop (mkF m 115 #[.val (.int p1), .val (.int p2), .val (.int p3), .val (.int p4), .val (.int (own_end p1)), .val (.long ((own_end p1).toInt64)), .second, .val (.int (own_gt p1 p2)), .val (.int (own_rt p1 p2)), .val (.int (own_btt p1 p2 p3)), .val (.int (own_ptt p1 p2 p3)), .val (.int (own_pa (own_ptt p1 p2 p3) (own_rt p1 p2) (own_end p1))), .unset, .unset, .unset, .unset] [(.int (lcmpW ((own_rt p1 p2).toInt64) (((own_end p1).toInt64) - (16 : Int64))))])) _
    by_cases hc115 : (0 : Int32) < (lcmpW ((own_rt p1 p2).toInt64) (((own_end p1).toInt64) - (16 : Int64)))
    · refine XS.ifYes X5.here hx rfl (pc0 := 115) (pc' := 169) rfl (hb hby at_115) rfl ((if0 _ _).trans (tlt hc115).2.2.1) (by decide) (by decide) ?_
      show Steps p.tables e below (T5.setTop (mkF m 169 #[.val (.int p1), .val (.int p2), .val (.int p3), .val (.int p4), .val (.int (own_end p1)), .val (.long ((own_end p1).toInt64)), .second, .val (.int (own_gt p1 p2)), .val (.int (own_rt p1 p2)), .val (.int (own_btt p1 p2 p3)), .val (.int (own_ptt p1 p2 p3)), .val (.int (own_pa (own_ptt p1 p2 p3) (own_rt p1 p2) (own_end p1))), .unset, .unset, .unset, .unset] [])) _
      refine XS.iload X5.here hx rfl (hb hby at_169) rfl ?_
      show Steps p.tables e below (T5.setTop (mkF m 171 #[.val (.int p1), .val (.int p2), .val (.int p3), .val (.int p4), .val (.int (own_end p1)), .val (.long ((own_end p1).toInt64)), .second, .val (.int (own_gt p1 p2)), .val (.int (own_rt p1 p2)), .val (.int (own_btt p1 p2 p3)), .val (.int (own_ptt p1 p2 p3)), .val (.int (own_pa (own_ptt p1 p2 p3) (own_rt p1 p2) (own_end p1))), .unset, .unset, .unset, .unset] [(.int (own_pa (own_ptt p1 p2 p3) (own_rt p1 p2) (own_end p1)))])) _
      refine XS.iload X5.here hx rfl (hb hby at_171) rfl ?_
      show Steps p.tables e below (T5.setTop (mkF m 173 #[.val (.int p1), .val (.int p2), .val (.int p3), .val (.int p4), .val (.int (own_end p1)), .val (.long ((own_end p1).toInt64)), .second, .val (.int (own_gt p1 p2)), .val (.int (own_rt p1 p2)), .val (.int (own_btt p1 p2 p3)), .val (.int (own_ptt p1 p2 p3)), .val (.int (own_pa (own_ptt p1 p2 p3) (own_rt p1 p2) (own_end p1))), .unset, .unset, .unset, .unset] [(.int (own_end p1)), (.int (own_pa (own_ptt p1 p2 p3) (own_rt p1 p2) (own_end p1)))])) _
      refine XS.icmpNo X5.here hx rfl (hb hby at_173) rfl (teq (own_f2 _ _ _ (own_end_nn p1) hc115 : (own_pa (own_ptt p1 p2 p3) (own_rt p1 p2) (own_end p1)) = (own_end p1))).2 ?_
      show Steps p.tables e below (T5.setTop (mkF m 176 #[.val (.int p1), .val (.int p2), .val (.int p3), .val (.int p4), .val (.int (own_end p1)), .val (.long ((own_end p1).toInt64)), .second, .val (.int (own_gt p1 p2)), .val (.int (own_rt p1 p2)), .val (.int (own_btt p1 p2 p3)), .val (.int (own_ptt p1 p2 p3)), .val (.int (own_pa (own_ptt p1 p2 p3) (own_rt p1 p2) (own_end p1))), .unset, .unset, .unset, .unset] [])) _
      refine XS.iconst X5.here hx rfl (hb hby at_176) ?_
      show Steps p.tables e below (T5.setTop (mkF m 177 #[.val (.int p1), .val (.int p2), .val (.int p3), .val (.int p4), .val (.int (own_end p1)), .val (.long ((own_end p1).toInt64)), .second, .val (.int (own_gt p1 p2)), .val (.int (own_rt p1 p2)), .val (.int (own_btt p1 p2 p3)), .val (.int (own_ptt p1 p2 p3)), .val (.int (own_pa (own_ptt p1 p2 p3) (own_rt p1 p2) (own_end p1))), .unset, .unset, .unset, .unset] [(.int (1 : Int32))])) _
      refine XS.goto X5.here hx rfl (pc0 := 177) (pc' := 181) rfl (hb hby at_177) (by decide) (by decide) ?_
      show Steps p.tables e below (T5.setTop (mkF m 181 #[.val (.int p1), .val (.int p2), .val (.int p3), .val (.int p4), .val (.int (own_end p1)), .val (.long ((own_end p1).toInt64)), .second, .val (.int (own_gt p1 p2)), .val (.int (own_rt p1 p2)), .val (.int (own_btt p1 p2 p3)), .val (.int (own_ptt p1 p2 p3)), .val (.int (own_pa (own_ptt p1 p2 p3) (own_rt p1 p2) (own_end p1))), .unset, .unset, .unset, .unset] [(.int (1 : Int32))])) _
      exact retN X5 hx (t := .boolean) Bd.returns (by simp) (hb hby at_181) hr
    · refine XS.ifNo X5.here hx rfl (hb hby at_115) rfl ((if0 _ _).trans (flt hc115).2.2.1) ?_
      show Steps p.tables e below (T5.setTop (mkF m 118 #[.val (.int p1), .val (.int p2), .val (.int p3), .val (.int p4), .val (.int (own_end p1)), .val (.long ((own_end p1).toInt64)), .second, .val (.int (own_gt p1 p2)), .val (.int (own_rt p1 p2)), .val (.int (own_btt p1 p2 p3)), .val (.int (own_ptt p1 p2 p3)), .val (.int (own_pa (own_ptt p1 p2 p3) (own_rt p1 p2) (own_end p1))), .unset, .unset, .unset, .unset] [])) _
      refine XS.iload X5.here hx rfl (hb hby at_118) rfl ?_
      show Steps p.tables e below (T5.setTop (mkF m 120 #[.val (.int p1), .val (.int p2), .val (.int p3), .val (.int p4), .val (.int (own_end p1)), .val (.long ((own_end p1).toInt64)), .second, .val (.int (own_gt p1 p2)), .val (.int (own_rt p1 p2)), .val (.int (own_btt p1 p2 p3)), .val (.int (own_ptt p1 p2 p3)), .val (.int (own_pa (own_ptt p1 p2 p3) (own_rt p1 p2) (own_end p1))), .unset, .unset, .unset, .unset] [(.int (own_pa (own_ptt p1 p2 p3) (own_rt p1 p2) (own_end p1)))])) _
      refine XS.i2l X5.here hx rfl (hb hby at_120) rfl ?_
      show Steps p.tables e below (T5.setTop (mkF m 121 #[.val (.int p1), .val (.int p2), .val (.int p3), .val (.int p4), .val (.int (own_end p1)), .val (.long ((own_end p1).toInt64)), .second, .val (.int (own_gt p1 p2)), .val (.int (own_rt p1 p2)), .val (.int (own_btt p1 p2 p3)), .val (.int (own_ptt p1 p2 p3)), .val (.int (own_pa (own_ptt p1 p2 p3) (own_rt p1 p2) (own_end p1))), .unset, .unset, .unset, .unset] [(.long ((own_pa (own_ptt p1 p2 p3) (own_rt p1 p2) (own_end p1)).toInt64))])) _
      refine XS.iload X5.here hx rfl (hb hby at_121) rfl ?_
      show Steps p.tables e below (T5.setTop (mkF m 123 #[.val (.int p1), .val (.int p2), .val (.int p3), .val (.int p4), .val (.int (own_end p1)), .val (.long ((own_end p1).toInt64)), .second, .val (.int (own_gt p1 p2)), .val (.int (own_rt p1 p2)), .val (.int (own_btt p1 p2 p3)), .val (.int (own_ptt p1 p2 p3)), .val (.int (own_pa (own_ptt p1 p2 p3) (own_rt p1 p2) (own_end p1))), .unset, .unset, .unset, .unset] [(.int (own_rt p1 p2)), (.long ((own_pa (own_ptt p1 p2 p3) (own_rt p1 p2) (own_end p1)).toInt64))])) _
      refine XS.i2l X5.here hx rfl (hb hby at_123) rfl ?_
      show Steps p.tables e below (T5.setTop (mkF m 124 #[.val (.int p1), .val (.int p2), .val (.int p3), .val (.int p4), .val (.int (own_end p1)), .val (.long ((own_end p1).toInt64)), .second, .val (.int (own_gt p1 p2)), .val (.int (own_rt p1 p2)), .val (.int (own_btt p1 p2 p3)), .val (.int (own_ptt p1 p2 p3)), .val (.int (own_pa (own_ptt p1 p2 p3) (own_rt p1 p2) (own_end p1))), .unset, .unset, .unset, .unset] [(.long ((own_rt p1 p2).toInt64)), (.long ((own_pa (own_ptt p1 p2 p3) (own_rt p1 p2) (own_end p1)).toInt64))])) _
      refine XS.lsub X5.here hx rfl (hb hby at_124) rfl ?_
      show Steps p.tables e below (T5.setTop (mkF m 125 #[.val (.int p1), .val (.int p2), .val (.int p3), .val (.int p4), .val (.int (own_end p1)), .val (.long ((own_end p1).toInt64)), .second, .val (.int (own_gt p1 p2)), .val (.int (own_rt p1 p2)), .val (.int (own_btt p1 p2 p3)), .val (.int (own_ptt p1 p2 p3)), .val (.int (own_pa (own_ptt p1 p2 p3) (own_rt p1 p2) (own_end p1))), .unset, .unset, .unset, .unset] [(.long (((own_pa (own_ptt p1 p2 p3) (own_rt p1 p2) (own_end p1)).toInt64) - ((own_rt p1 p2).toInt64)))])) _
      refine XS.lstore X5.here hx rfl (hb hby at_125) rfl (l' := #[.val (.int p1), .val (.int p2), .val (.int p3), .val (.int p4), .val (.int (own_end p1)), .val (.long ((own_end p1).toInt64)), .second, .val (.int (own_gt p1 p2)), .val (.int (own_rt p1 p2)), .val (.int (own_btt p1 p2 p3)), .val (.int (own_ptt p1 p2 p3)), .val (.int (own_pa (own_ptt p1 p2 p3) (own_rt p1 p2) (own_end p1))), .val (.long (((own_pa (own_ptt p1 p2 p3) (own_rt p1 p2) (own_end p1)).toInt64) - ((own_rt p1 p2).toInt64))), .second, .unset, .unset]) rfl ?_
      show Steps p.tables e below (T5.setTop (mkF m 127 #[.val (.int p1), .val (.int p2), .val (.int p3), .val (.int p4), .val (.int (own_end p1)), .val (.long ((own_end p1).toInt64)), .second, .val (.int (own_gt p1 p2)), .val (.int (own_rt p1 p2)), .val (.int (own_btt p1 p2 p3)), .val (.int (own_ptt p1 p2 p3)), .val (.int (own_pa (own_ptt p1 p2 p3) (own_rt p1 p2) (own_end p1))), .val (.long (((own_pa (own_ptt p1 p2 p3) (own_rt p1 p2) (own_end p1)).toInt64) - ((own_rt p1 p2).toInt64))), .second, .unset, .unset] [])) _
      refine XS.iload X5.here hx rfl (hb hby at_127) rfl ?_
      show Steps p.tables e below (T5.setTop (mkF m 129 #[.val (.int p1), .val (.int p2), .val (.int p3), .val (.int p4), .val (.int (own_end p1)), .val (.long ((own_end p1).toInt64)), .second, .val (.int (own_gt p1 p2)), .val (.int (own_rt p1 p2)), .val (.int (own_btt p1 p2 p3)), .val (.int (own_ptt p1 p2 p3)), .val (.int (own_pa (own_ptt p1 p2 p3) (own_rt p1 p2) (own_end p1))), .val (.long (((own_pa (own_ptt p1 p2 p3) (own_rt p1 p2) (own_end p1)).toInt64) - ((own_rt p1 p2).toInt64))), .second, .unset, .unset] [(.int (own_pa (own_ptt p1 p2 p3) (own_rt p1 p2) (own_end p1)))])) _
      refine XS.i2l X5.here hx rfl (hb hby at_129) rfl ?_
      show Steps p.tables e below (T5.setTop (mkF m 130 #[.val (.int p1), .val (.int p2), .val (.int p3), .val (.int p4), .val (.int (own_end p1)), .val (.long ((own_end p1).toInt64)), .second, .val (.int (own_gt p1 p2)), .val (.int (own_rt p1 p2)), .val (.int (own_btt p1 p2 p3)), .val (.int (own_ptt p1 p2 p3)), .val (.int (own_pa (own_ptt p1 p2 p3) (own_rt p1 p2) (own_end p1))), .val (.long (((own_pa (own_ptt p1 p2 p3) (own_rt p1 p2) (own_end p1)).toInt64) - ((own_rt p1 p2).toInt64))), .second, .unset, .unset] [(.long ((own_pa (own_ptt p1 p2 p3) (own_rt p1 p2) (own_end p1)).toInt64))])) _
      refine XS.iload X5.here hx rfl (hb hby at_130) rfl ?_
      show Steps p.tables e below (T5.setTop (mkF m 132 #[.val (.int p1), .val (.int p2), .val (.int p3), .val (.int p4), .val (.int (own_end p1)), .val (.long ((own_end p1).toInt64)), .second, .val (.int (own_gt p1 p2)), .val (.int (own_rt p1 p2)), .val (.int (own_btt p1 p2 p3)), .val (.int (own_ptt p1 p2 p3)), .val (.int (own_pa (own_ptt p1 p2 p3) (own_rt p1 p2) (own_end p1))), .val (.long (((own_pa (own_ptt p1 p2 p3) (own_rt p1 p2) (own_end p1)).toInt64) - ((own_rt p1 p2).toInt64))), .second, .unset, .unset] [(.int (own_ptt p1 p2 p3)), (.long ((own_pa (own_ptt p1 p2 p3) (own_rt p1 p2) (own_end p1)).toInt64))])) _
      refine XS.i2l X5.here hx rfl (hb hby at_132) rfl ?_
      show Steps p.tables e below (T5.setTop (mkF m 133 #[.val (.int p1), .val (.int p2), .val (.int p3), .val (.int p4), .val (.int (own_end p1)), .val (.long ((own_end p1).toInt64)), .second, .val (.int (own_gt p1 p2)), .val (.int (own_rt p1 p2)), .val (.int (own_btt p1 p2 p3)), .val (.int (own_ptt p1 p2 p3)), .val (.int (own_pa (own_ptt p1 p2 p3) (own_rt p1 p2) (own_end p1))), .val (.long (((own_pa (own_ptt p1 p2 p3) (own_rt p1 p2) (own_end p1)).toInt64) - ((own_rt p1 p2).toInt64))), .second, .unset, .unset] [(.long ((own_ptt p1 p2 p3).toInt64)), (.long ((own_pa (own_ptt p1 p2 p3) (own_rt p1 p2) (own_end p1)).toInt64))])) _
      refine XS.lsub X5.here hx rfl (hb hby at_133) rfl ?_
      show Steps p.tables e below (T5.setTop (mkF m 134 #[.val (.int p1), .val (.int p2), .val (.int p3), .val (.int p4), .val (.int (own_end p1)), .val (.long ((own_end p1).toInt64)), .second, .val (.int (own_gt p1 p2)), .val (.int (own_rt p1 p2)), .val (.int (own_btt p1 p2 p3)), .val (.int (own_ptt p1 p2 p3)), .val (.int (own_pa (own_ptt p1 p2 p3) (own_rt p1 p2) (own_end p1))), .val (.long (((own_pa (own_ptt p1 p2 p3) (own_rt p1 p2) (own_end p1)).toInt64) - ((own_rt p1 p2).toInt64))), .second, .unset, .unset] [(.long (((own_pa (own_ptt p1 p2 p3) (own_rt p1 p2) (own_end p1)).toInt64) - ((own_ptt p1 p2 p3).toInt64)))])) _
      refine XS.lstore X5.here hx rfl (hb hby at_134) rfl (l' := #[.val (.int p1), .val (.int p2), .val (.int p3), .val (.int p4), .val (.int (own_end p1)), .val (.long ((own_end p1).toInt64)), .second, .val (.int (own_gt p1 p2)), .val (.int (own_rt p1 p2)), .val (.int (own_btt p1 p2 p3)), .val (.int (own_ptt p1 p2 p3)), .val (.int (own_pa (own_ptt p1 p2 p3) (own_rt p1 p2) (own_end p1))), .val (.long (((own_pa (own_ptt p1 p2 p3) (own_rt p1 p2) (own_end p1)).toInt64) - ((own_rt p1 p2).toInt64))), .second, .val (.long (((own_pa (own_ptt p1 p2 p3) (own_rt p1 p2) (own_end p1)).toInt64) - ((own_ptt p1 p2 p3).toInt64))), .second]) rfl ?_
      show Steps p.tables e below (T5.setTop (mkF m 136 #[.val (.int p1), .val (.int p2), .val (.int p3), .val (.int p4), .val (.int (own_end p1)), .val (.long ((own_end p1).toInt64)), .second, .val (.int (own_gt p1 p2)), .val (.int (own_rt p1 p2)), .val (.int (own_btt p1 p2 p3)), .val (.int (own_ptt p1 p2 p3)), .val (.int (own_pa (own_ptt p1 p2 p3) (own_rt p1 p2) (own_end p1))), .val (.long (((own_pa (own_ptt p1 p2 p3) (own_rt p1 p2) (own_end p1)).toInt64) - ((own_rt p1 p2).toInt64))), .second, .val (.long (((own_pa (own_ptt p1 p2 p3) (own_rt p1 p2) (own_end p1)).toInt64) - ((own_ptt p1 p2 p3).toInt64))), .second] [])) _
      refine XS.lload X5.here hx rfl (hb hby at_136) rfl ?_
      show Steps p.tables e below (T5.setTop (mkF m 138 #[.val (.int p1), .val (.int p2), .val (.int p3), .val (.int p4), .val (.int (own_end p1)), .val (.long ((own_end p1).toInt64)), .second, .val (.int (own_gt p1 p2)), .val (.int (own_rt p1 p2)), .val (.int (own_btt p1 p2 p3)), .val (.int (own_ptt p1 p2 p3)), .val (.int (own_pa (own_ptt p1 p2 p3) (own_rt p1 p2) (own_end p1))), .val (.long (((own_pa (own_ptt p1 p2 p3) (own_rt p1 p2) (own_end p1)).toInt64) - ((own_rt p1 p2).toInt64))), .second, .val (.long (((own_pa (own_ptt p1 p2 p3) (own_rt p1 p2) (own_end p1)).toInt64) - ((own_ptt p1 p2 p3).toInt64))), .second] [(.long (((own_pa (own_ptt p1 p2 p3) (own_rt p1 p2) (own_end p1)).toInt64) - ((own_rt p1 p2).toInt64)))])) _
      refine XS.lconst X5.here hx rfl (hb hby at_138) ?_
      show Steps p.tables e below (T5.setTop (mkF m 139 #[.val (.int p1), .val (.int p2), .val (.int p3), .val (.int p4), .val (.int (own_end p1)), .val (.long ((own_end p1).toInt64)), .second, .val (.int (own_gt p1 p2)), .val (.int (own_rt p1 p2)), .val (.int (own_btt p1 p2 p3)), .val (.int (own_ptt p1 p2 p3)), .val (.int (own_pa (own_ptt p1 p2 p3) (own_rt p1 p2) (own_end p1))), .val (.long (((own_pa (own_ptt p1 p2 p3) (own_rt p1 p2) (own_end p1)).toInt64) - ((own_rt p1 p2).toInt64))), .second, .val (.long (((own_pa (own_ptt p1 p2 p3) (own_rt p1 p2) (own_end p1)).toInt64) - ((own_ptt p1 p2 p3).toInt64))), .second] [(.long (0 : Int64)), (.long (((own_pa (own_ptt p1 p2 p3) (own_rt p1 p2) (own_end p1)).toInt64) - ((own_rt p1 p2).toInt64)))])) _
      refine XS.lcmp X5.here hx rfl (hb hby at_139) rfl ?_
      show Steps p.tables e below (T5.setTop (mkF m 140 #[.val (.int p1), .val (.int p2), .val (.int p3), .val (.int p4), .val (.int (own_end p1)), .val (.long ((own_end p1).toInt64)), .second, .val (.int (own_gt p1 p2)), .val (.int (own_rt p1 p2)), .val (.int (own_btt p1 p2 p3)), .val (.int (own_ptt p1 p2 p3)), .val (.int (own_pa (own_ptt p1 p2 p3) (own_rt p1 p2) (own_end p1))), .val (.long (((own_pa (own_ptt p1 p2 p3) (own_rt p1 p2) (own_end p1)).toInt64) - ((own_rt p1 p2).toInt64))), .second, .val (.long (((own_pa (own_ptt p1 p2 p3) (own_rt p1 p2) (own_end p1)).toInt64) - ((own_ptt p1 p2 p3).toInt64))), .second] [(.int (lcmpW (((own_pa (own_ptt p1 p2 p3) (own_rt p1 p2) (own_end p1)).toInt64) - ((own_rt p1 p2).toInt64)) (0 : Int64)))])) _
      refine XS.ifNo X5.here hx rfl (hb hby at_140) rfl ((if0 _ _).trans (flt ((own_f1 _ _ _ (own_end_nn p1) (own_rt_b p1 p2) (own_ptt_b p1 p2 p3) hc115).1 : ¬ ((lcmpW (((own_pa (own_ptt p1 p2 p3) (own_rt p1 p2) (own_end p1)).toInt64) - ((own_rt p1 p2).toInt64)) (0 : Int64)) < (0 : Int32)))).1) ?_
      show Steps p.tables e below (T5.setTop (mkF m 143 #[.val (.int p1), .val (.int p2), .val (.int p3), .val (.int p4), .val (.int (own_end p1)), .val (.long ((own_end p1).toInt64)), .second, .val (.int (own_gt p1 p2)), .val (.int (own_rt p1 p2)), .val (.int (own_btt p1 p2 p3)), .val (.int (own_ptt p1 p2 p3)), .val (.int (own_pa (own_ptt p1 p2 p3) (own_rt p1 p2) (own_end p1))), .val (.long (((own_pa (own_ptt p1 p2 p3) (own_rt p1 p2) (own_end p1)).toInt64) - ((own_rt p1 p2).toInt64))), .second, .val (.long (((own_pa (own_ptt p1 p2 p3) (own_rt p1 p2) (own_end p1)).toInt64) - ((own_ptt p1 p2 p3).toInt64))), .second] [])) _
      refine XS.lload X5.here hx rfl (hb hby at_143) rfl ?_
      show Steps p.tables e below (T5.setTop (mkF m 145 #[.val (.int p1), .val (.int p2), .val (.int p3), .val (.int p4), .val (.int (own_end p1)), .val (.long ((own_end p1).toInt64)), .second, .val (.int (own_gt p1 p2)), .val (.int (own_rt p1 p2)), .val (.int (own_btt p1 p2 p3)), .val (.int (own_ptt p1 p2 p3)), .val (.int (own_pa (own_ptt p1 p2 p3) (own_rt p1 p2) (own_end p1))), .val (.long (((own_pa (own_ptt p1 p2 p3) (own_rt p1 p2) (own_end p1)).toInt64) - ((own_rt p1 p2).toInt64))), .second, .val (.long (((own_pa (own_ptt p1 p2 p3) (own_rt p1 p2) (own_end p1)).toInt64) - ((own_ptt p1 p2 p3).toInt64))), .second] [(.long (((own_pa (own_ptt p1 p2 p3) (own_rt p1 p2) (own_end p1)).toInt64) - ((own_rt p1 p2).toInt64)))])) _
      refine X5.ldc2Long hx hown (mvT hZ (hw _ (List.mem_of_getElem? (i := 10) rfl))) (g := (mkF m 145 #[.val (.int p1), .val (.int p2), .val (.int p3), .val (.int p4), .val (.int (own_end p1)), .val (.long ((own_end p1).toInt64)), .second, .val (.int (own_gt p1 p2)), .val (.int (own_rt p1 p2)), .val (.int (own_btt p1 p2 p3)), .val (.int (own_ptt p1 p2 p3)), .val (.int (own_pa (own_ptt p1 p2 p3) (own_rt p1 p2) (own_end p1))), .val (.long (((own_pa (own_ptt p1 p2 p3) (own_rt p1 p2) (own_end p1)).toInt64) - ((own_rt p1 p2).toInt64))), .second, .val (.long (((own_pa (own_ptt p1 p2 p3) (own_rt p1 p2) (own_end p1)).toInt64) - ((own_ptt p1 p2 p3).toInt64))), .second] [(.long (((own_pa (own_ptt p1 p2 p3) (own_rt p1 p2) (own_end p1)).toInt64) - ((own_rt p1 p2).toInt64)))])) rfl (hb hby at_145) _ ?_
      show Steps p.tables e below (T5.setTop (mkF m 148 #[.val (.int p1), .val (.int p2), .val (.int p3), .val (.int p4), .val (.int (own_end p1)), .val (.long ((own_end p1).toInt64)), .second, .val (.int (own_gt p1 p2)), .val (.int (own_rt p1 p2)), .val (.int (own_btt p1 p2 p3)), .val (.int (own_ptt p1 p2 p3)), .val (.int (own_pa (own_ptt p1 p2 p3) (own_rt p1 p2) (own_end p1))), .val (.long (((own_pa (own_ptt p1 p2 p3) (own_rt p1 p2) (own_end p1)).toInt64) - ((own_rt p1 p2).toInt64))), .second, .val (.long (((own_pa (own_ptt p1 p2 p3) (own_rt p1 p2) (own_end p1)).toInt64) - ((own_ptt p1 p2 p3).toInt64))), .second] [(.long (16 : Int64)), (.long (((own_pa (own_ptt p1 p2 p3) (own_rt p1 p2) (own_end p1)).toInt64) - ((own_rt p1 p2).toInt64)))])) _
      refine XS.lcmp X5.here hx rfl (hb hby at_148) rfl ?_
      show Steps p.tables e below (T5.setTop (mkF m 149 #[.val (.int p1), .val (.int p2), .val (.int p3), .val (.int p4), .val (.int (own_end p1)), .val (.long ((own_end p1).toInt64)), .second, .val (.int (own_gt p1 p2)), .val (.int (own_rt p1 p2)), .val (.int (own_btt p1 p2 p3)), .val (.int (own_ptt p1 p2 p3)), .val (.int (own_pa (own_ptt p1 p2 p3) (own_rt p1 p2) (own_end p1))), .val (.long (((own_pa (own_ptt p1 p2 p3) (own_rt p1 p2) (own_end p1)).toInt64) - ((own_rt p1 p2).toInt64))), .second, .val (.long (((own_pa (own_ptt p1 p2 p3) (own_rt p1 p2) (own_end p1)).toInt64) - ((own_ptt p1 p2 p3).toInt64))), .second] [(.int (lcmpW (((own_pa (own_ptt p1 p2 p3) (own_rt p1 p2) (own_end p1)).toInt64) - ((own_rt p1 p2).toInt64)) (16 : Int64)))])) _
      refine XS.ifNo X5.here hx rfl (hb hby at_149) rfl ((if0 _ _).trans (tlt ((own_f1 _ _ _ (own_end_nn p1) (own_rt_b p1 p2) (own_ptt_b p1 p2 p3) hc115).2.1 : (lcmpW (((own_pa (own_ptt p1 p2 p3) (own_rt p1 p2) (own_end p1)).toInt64) - ((own_rt p1 p2).toInt64)) (16 : Int64)) < (0 : Int32))).2.1) ?_
      show Steps p.tables e below (T5.setTop (mkF m 152 #[.val (.int p1), .val (.int p2), .val (.int p3), .val (.int p4), .val (.int (own_end p1)), .val (.long ((own_end p1).toInt64)), .second, .val (.int (own_gt p1 p2)), .val (.int (own_rt p1 p2)), .val (.int (own_btt p1 p2 p3)), .val (.int (own_ptt p1 p2 p3)), .val (.int (own_pa (own_ptt p1 p2 p3) (own_rt p1 p2) (own_end p1))), .val (.long (((own_pa (own_ptt p1 p2 p3) (own_rt p1 p2) (own_end p1)).toInt64) - ((own_rt p1 p2).toInt64))), .second, .val (.long (((own_pa (own_ptt p1 p2 p3) (own_rt p1 p2) (own_end p1)).toInt64) - ((own_ptt p1 p2 p3).toInt64))), .second] [])) _
      refine XS.lload X5.here hx rfl (hb hby at_152) rfl ?_
      show Steps p.tables e below (T5.setTop (mkF m 154 #[.val (.int p1), .val (.int p2), .val (.int p3), .val (.int p4), .val (.int (own_end p1)), .val (.long ((own_end p1).toInt64)), .second, .val (.int (own_gt p1 p2)), .val (.int (own_rt p1 p2)), .val (.int (own_btt p1 p2 p3)), .val (.int (own_ptt p1 p2 p3)), .val (.int (own_pa (own_ptt p1 p2 p3) (own_rt p1 p2) (own_end p1))), .val (.long (((own_pa (own_ptt p1 p2 p3) (own_rt p1 p2) (own_end p1)).toInt64) - ((own_rt p1 p2).toInt64))), .second, .val (.long (((own_pa (own_ptt p1 p2 p3) (own_rt p1 p2) (own_end p1)).toInt64) - ((own_ptt p1 p2 p3).toInt64))), .second] [(.long (((own_pa (own_ptt p1 p2 p3) (own_rt p1 p2) (own_end p1)).toInt64) - ((own_ptt p1 p2 p3).toInt64)))])) _
      refine X5.ldc2Long hx hown (mvT hZ (hw _ (List.mem_of_getElem? (i := 11) rfl))) (g := (mkF m 154 #[.val (.int p1), .val (.int p2), .val (.int p3), .val (.int p4), .val (.int (own_end p1)), .val (.long ((own_end p1).toInt64)), .second, .val (.int (own_gt p1 p2)), .val (.int (own_rt p1 p2)), .val (.int (own_btt p1 p2 p3)), .val (.int (own_ptt p1 p2 p3)), .val (.int (own_pa (own_ptt p1 p2 p3) (own_rt p1 p2) (own_end p1))), .val (.long (((own_pa (own_ptt p1 p2 p3) (own_rt p1 p2) (own_end p1)).toInt64) - ((own_rt p1 p2).toInt64))), .second, .val (.long (((own_pa (own_ptt p1 p2 p3) (own_rt p1 p2) (own_end p1)).toInt64) - ((own_ptt p1 p2 p3).toInt64))), .second] [(.long (((own_pa (own_ptt p1 p2 p3) (own_rt p1 p2) (own_end p1)).toInt64) - ((own_ptt p1 p2 p3).toInt64)))])) rfl (hb hby at_154) _ ?_
      show Steps p.tables e below (T5.setTop (mkF m 157 #[.val (.int p1), .val (.int p2), .val (.int p3), .val (.int p4), .val (.int (own_end p1)), .val (.long ((own_end p1).toInt64)), .second, .val (.int (own_gt p1 p2)), .val (.int (own_rt p1 p2)), .val (.int (own_btt p1 p2 p3)), .val (.int (own_ptt p1 p2 p3)), .val (.int (own_pa (own_ptt p1 p2 p3) (own_rt p1 p2) (own_end p1))), .val (.long (((own_pa (own_ptt p1 p2 p3) (own_rt p1 p2) (own_end p1)).toInt64) - ((own_rt p1 p2).toInt64))), .second, .val (.long (((own_pa (own_ptt p1 p2 p3) (own_rt p1 p2) (own_end p1)).toInt64) - ((own_ptt p1 p2 p3).toInt64))), .second] [(.long (15 : Int64)), (.long (((own_pa (own_ptt p1 p2 p3) (own_rt p1 p2) (own_end p1)).toInt64) - ((own_ptt p1 p2 p3).toInt64)))])) _
      refine XS.land X5.here hx rfl (hb hby at_157) rfl ?_
      show Steps p.tables e below (T5.setTop (mkF m 158 #[.val (.int p1), .val (.int p2), .val (.int p3), .val (.int p4), .val (.int (own_end p1)), .val (.long ((own_end p1).toInt64)), .second, .val (.int (own_gt p1 p2)), .val (.int (own_rt p1 p2)), .val (.int (own_btt p1 p2 p3)), .val (.int (own_ptt p1 p2 p3)), .val (.int (own_pa (own_ptt p1 p2 p3) (own_rt p1 p2) (own_end p1))), .val (.long (((own_pa (own_ptt p1 p2 p3) (own_rt p1 p2) (own_end p1)).toInt64) - ((own_rt p1 p2).toInt64))), .second, .val (.long (((own_pa (own_ptt p1 p2 p3) (own_rt p1 p2) (own_end p1)).toInt64) - ((own_ptt p1 p2 p3).toInt64))), .second] [(.long ((((own_pa (own_ptt p1 p2 p3) (own_rt p1 p2) (own_end p1)).toInt64) - ((own_ptt p1 p2 p3).toInt64)) &&& (15 : Int64)))])) _
      refine XS.lconst X5.here hx rfl (hb hby at_158) ?_
      show Steps p.tables e below (T5.setTop (mkF m 159 #[.val (.int p1), .val (.int p2), .val (.int p3), .val (.int p4), .val (.int (own_end p1)), .val (.long ((own_end p1).toInt64)), .second, .val (.int (own_gt p1 p2)), .val (.int (own_rt p1 p2)), .val (.int (own_btt p1 p2 p3)), .val (.int (own_ptt p1 p2 p3)), .val (.int (own_pa (own_ptt p1 p2 p3) (own_rt p1 p2) (own_end p1))), .val (.long (((own_pa (own_ptt p1 p2 p3) (own_rt p1 p2) (own_end p1)).toInt64) - ((own_rt p1 p2).toInt64))), .second, .val (.long (((own_pa (own_ptt p1 p2 p3) (own_rt p1 p2) (own_end p1)).toInt64) - ((own_ptt p1 p2 p3).toInt64))), .second] [(.long (0 : Int64)), (.long ((((own_pa (own_ptt p1 p2 p3) (own_rt p1 p2) (own_end p1)).toInt64) - ((own_ptt p1 p2 p3).toInt64)) &&& (15 : Int64)))])) _
      refine XS.lcmp X5.here hx rfl (hb hby at_159) rfl ?_
      show Steps p.tables e below (T5.setTop (mkF m 160 #[.val (.int p1), .val (.int p2), .val (.int p3), .val (.int p4), .val (.int (own_end p1)), .val (.long ((own_end p1).toInt64)), .second, .val (.int (own_gt p1 p2)), .val (.int (own_rt p1 p2)), .val (.int (own_btt p1 p2 p3)), .val (.int (own_ptt p1 p2 p3)), .val (.int (own_pa (own_ptt p1 p2 p3) (own_rt p1 p2) (own_end p1))), .val (.long (((own_pa (own_ptt p1 p2 p3) (own_rt p1 p2) (own_end p1)).toInt64) - ((own_rt p1 p2).toInt64))), .second, .val (.long (((own_pa (own_ptt p1 p2 p3) (own_rt p1 p2) (own_end p1)).toInt64) - ((own_ptt p1 p2 p3).toInt64))), .second] [(.int (lcmpW ((((own_pa (own_ptt p1 p2 p3) (own_rt p1 p2) (own_end p1)).toInt64) - ((own_ptt p1 p2 p3).toInt64)) &&& (15 : Int64)) (0 : Int64)))])) _
      refine XS.ifNo X5.here hx rfl (hb hby at_160) rfl ((if0 _ _).trans (teq ((own_f1 _ _ _ (own_end_nn p1) (own_rt_b p1 p2) (own_ptt_b p1 p2 p3) hc115).2.2 : (lcmpW ((((own_pa (own_ptt p1 p2 p3) (own_rt p1 p2) (own_end p1)).toInt64) - ((own_ptt p1 p2 p3).toInt64)) &&& (15 : Int64)) (0 : Int64)) = (0 : Int32))).2) ?_
      show Steps p.tables e below (T5.setTop (mkF m 163 #[.val (.int p1), .val (.int p2), .val (.int p3), .val (.int p4), .val (.int (own_end p1)), .val (.long ((own_end p1).toInt64)), .second, .val (.int (own_gt p1 p2)), .val (.int (own_rt p1 p2)), .val (.int (own_btt p1 p2 p3)), .val (.int (own_ptt p1 p2 p3)), .val (.int (own_pa (own_ptt p1 p2 p3) (own_rt p1 p2) (own_end p1))), .val (.long (((own_pa (own_ptt p1 p2 p3) (own_rt p1 p2) (own_end p1)).toInt64) - ((own_rt p1 p2).toInt64))), .second, .val (.long (((own_pa (own_ptt p1 p2 p3) (own_rt p1 p2) (own_end p1)).toInt64) - ((own_ptt p1 p2 p3).toInt64))), .second] [])) _
      refine XS.iconst X5.here hx rfl (hb hby at_163) ?_
      show Steps p.tables e below (T5.setTop (mkF m 164 #[.val (.int p1), .val (.int p2), .val (.int p3), .val (.int p4), .val (.int (own_end p1)), .val (.long ((own_end p1).toInt64)), .second, .val (.int (own_gt p1 p2)), .val (.int (own_rt p1 p2)), .val (.int (own_btt p1 p2 p3)), .val (.int (own_ptt p1 p2 p3)), .val (.int (own_pa (own_ptt p1 p2 p3) (own_rt p1 p2) (own_end p1))), .val (.long (((own_pa (own_ptt p1 p2 p3) (own_rt p1 p2) (own_end p1)).toInt64) - ((own_rt p1 p2).toInt64))), .second, .val (.long (((own_pa (own_ptt p1 p2 p3) (own_rt p1 p2) (own_end p1)).toInt64) - ((own_ptt p1 p2 p3).toInt64))), .second] [(.int (1 : Int32))])) _
      refine XS.goto X5.here hx rfl (pc0 := 164) (pc' := 168) rfl (hb hby at_164) (by decide) (by decide) ?_
      show Steps p.tables e below (T5.setTop (mkF m 168 #[.val (.int p1), .val (.int p2), .val (.int p3), .val (.int p4), .val (.int (own_end p1)), .val (.long ((own_end p1).toInt64)), .second, .val (.int (own_gt p1 p2)), .val (.int (own_rt p1 p2)), .val (.int (own_btt p1 p2 p3)), .val (.int (own_ptt p1 p2 p3)), .val (.int (own_pa (own_ptt p1 p2 p3) (own_rt p1 p2) (own_end p1))), .val (.long (((own_pa (own_ptt p1 p2 p3) (own_rt p1 p2) (own_end p1)).toInt64) - ((own_rt p1 p2).toInt64))), .second, .val (.long (((own_pa (own_ptt p1 p2 p3) (own_rt p1 p2) (own_end p1)).toInt64) - ((own_ptt p1 p2 p3).toInt64))), .second] [(.int (1 : Int32))])) _
      exact retN X5 hx (t := .boolean) Bd.returns (by simp) (hb hby at_168) hr
  · show Q0 Z p1 p2 p3 p4 h0 n0 _ T5.heap _
    exact ⟨rfl, N5⟩
def own_btf (p1 p2 p3 : Int32) : Int32 := own_mn p3 (own_rt p1 p2)
def own_ptf (p1 p2 p3 : Int32) : Int32 := own_rt p1 p2 - own_btf p1 p2 p3
theorem own_ptf_b (p1 p2 p3 : Int32) : 0 ≤ (own_ptf p1 p2 p3).toInt ∧ (own_ptf p1 p2 p3).toInt ≤ (own_rt p1 p2).toInt := by
  have h := (own_rt_b p1 p2).1
  have hg : 0 ≤ (own_btf p1 p2 p3).toInt ∧ (own_btf p1 p2 p3).toInt ≤ (own_rt p1 p2).toInt := own_mn_b _ _ h
  have q := own_sub_b h hg
  unfold own_ptf; omega
theorem pd_0_0 : parseMethodDescriptor "(II)I" = some ⟨[.int, .int], some .int⟩ := by decide +kernel
set_option maxRecDepth 65536 in
set_option maxHeartbeats 40000000 in
theorem rm0_tf (l : Launch) (Z : State) (a0 : Array Value) (hw : ∀ d ∈ tables_1, d.before a0 Z = true) (ws : List Jvm.Cond) (p1 : Int32) (p2 : Int32) (p3 : Int32) (p4 : Int32) (h0 : Heap) (n0 : Nat) (Z0 : n0 ≤ h0.size) (hc14 : (p4 &&& (1 : Int32)) = (0 : Int32)) (hc55 : ¬ ((p4 &&& (2 : Int32)) = (0 : Int32))) :
    MetFree l x (head1 (Jvm.Cond.code x code maxLocals ret :: ws) room_1) (fun a U => a = #[(.int p1), (.int p2), (.int p3), (.int p4)] ∧ Z.Warmed39 U.vm ∧ U.heap = h0) (fun _ _ _ _ _ => True) (fun _ U o U' => ∃ v L, o = .returned v ∧ Q0 Z p1 p2 p3 p4 h0 n0 v U'.heap L ∧ FrameEnd U o U' L room_1.cells room_1.slots) := by
  refine MetFree.of_bodySF (plainFor_of_name pn_0) hisR ?_
  intro p e s m args below meth c s₁ Bd hml0 hP hK
  obtain ⟨rfl, hZ, hh⟩ := hP
  have hx := Bd.exec
  have hby := Bd.bytes
  have hml : c.maxLocals = 16 := hml0
  have hown : s.vm.findClass "com/example/brevitree/brevitree/BlockPlannerProbeAfterPinLaw" = some m.cls := findClass_of_methodNamed Bd.named
  have hnm := (name_of_methodNamed Bd.named Bd.method).1
  have X0 : Stand p l e room_1 s m #[(.int p1), (.int p2), (.int p3), (.int p4)] below meth c s₁ [] 0 0 := Stand.of_body Bd
  have e0 : s₁.heap = h0 := by rw [← hh, Bd.state]; rfl
  have N0 := Fr.nil n0
  have pre0 : ∀ t, Steps p.tables e below (s₁.setTop (mkF m 0 #[.val (.int p1), .val (.int p2), .val (.int p3), .val (.int p4), .unset, .unset, .unset, .unset, .unset, .unset, .unset, .unset, .unset, .unset, .unset, .unset] [])) t → Steps p.tables e below (s₁.setTop (entryFrame m #[(.int p1), (.int p2), (.int p3), (.int p4)] maxLocals)) t := fun t k => castTop (ef_0 m p1 p2 p3 p4) k
  obtain ⟨_, _, ⟨T5, L5, k5, n5⟩, -, X5, ⟨Lc5, hQ5, l5, y5, z5⟩, st5⟩ := Jvm.LawKit.callS X0 hx (y := (⟨"java/lang/Math", "min", "(II)I"⟩ : MethodName)) hown (mvT hZ (hw _ (List.mem_of_getElem? (i := 1) rfl))) (mvT hZ (hw _ (List.mem_of_getElem? (i := 2) rfl))) (mvT hZ (hw _ (List.mem_of_getElem? (i := 3) rfl))) (mvT hZ (hw _ (List.mem_of_getElem? (i := 4) rfl))) (by decide) (backOf (W := 0) (rm1 l Z a0 hw [] (p3 &&& (63 : Int32)) (own_rt p1 p2) h0 n0 Z0) hZ (hw _ (List.mem_of_getElem? (i := 4) rfl)) (hw _ (List.mem_of_getElem? (i := 3) rfl)) (by decide) (by decide)) (g := (mkF m 64 #[.val (.int p1), .val (.int p2), .val (.int p3), .val (.int p4), .val (.int (own_end p1)), .val (.long ((own_end p1).toInt64)), .second, .val (.int (own_gt p1 p2)), .val (.int (own_rt p1 p2)), .unset, .unset, .unset, .unset, .unset, .unset, .unset] [(.int (own_rt p1 p2)), (.int (p3 &&& (63 : Int32)))])) rfl (by rw [hml]; rfl) (argsL := [(.int (p3 &&& (63 : Int32))), (.int (own_rt p1 p2))]) (rest := []) (lenOf pd_0_0 rfl) rfl (by show 2 * 0 + _ ≤ _; exact Nat.le_of_eq rfl) (hb hby at_64) (fun _ _ => ⟨rfl, e0, (by decide : 0 + 0 ≤ _), (by decide : 0 + 0 ≤ _)⟩)
  dsimp only [Pt.U, Pt.locs, Pt.cells, Pt.slots] at X5 l5 y5 z5 st5 hQ5
  subst l5 y5 z5
  obtain ⟨rfl, N5q, hs5⟩ := hQ5
  have N5 := Fr.app N0 N5q
  obtain ⟨_, _, ⟨T6, L6, k6, n6⟩, -, X6, ⟨Lc6, hQ6, l6, y6, z6⟩, st6⟩ := Jvm.LawKit.callS X5 hx (y := (⟨"com/example/brevitree/brevitree/BlockPlanner", "probeAfter", "(III)I"⟩ : MethodName)) hown (mvT hZ (hw _ (List.mem_of_getElem? (i := 6) rfl))) (mvT hZ (hw _ (List.mem_of_getElem? (i := 7) rfl))) (mvT hZ (hw _ (List.mem_of_getElem? (i := 8) rfl))) (mvT hZ (hw _ (List.mem_of_getElem? (i := 9) rfl))) (by decide) (backOf (W := 0) (rm2 l Z a0 hw [] (own_ptf p1 p2 p3) (own_rt p1 p2) (own_end p1) T5.heap n0 (by rw [hs5]; exact Z0)) hZ (hw _ (List.mem_of_getElem? (i := 9) rfl)) (hw _ (List.mem_of_getElem? (i := 8) rfl)) (by decide) (by decide)) (g := (mkF m 100 #[.val (.int p1), .val (.int p2), .val (.int p3), .val (.int p4), .val (.int (own_end p1)), .val (.long ((own_end p1).toInt64)), .second, .val (.int (own_gt p1 p2)), .val (.int (own_rt p1 p2)), .val (.int (own_btf p1 p2 p3)), .val (.int (own_ptf p1 p2 p3)), .unset, .unset, .unset, .unset, .unset] [(.int (own_end p1)), (.int (own_rt p1 p2)), (.int (own_ptf p1 p2 p3))])) rfl (by rw [hml]; rfl) (argsL := [(.int (own_ptf p1 p2 p3)), (.int (own_rt p1 p2)), (.int (own_end p1))]) (rest := []) (lenOf pd_0_1 rfl) rfl (by show 2 * 0 + _ ≤ _; exact Nat.le_of_eq rfl) (hb hby at_100) (fun _ _ => ⟨rfl, rfl, (by decide : 0 + 0 ≤ _), (by decide : 0 + 0 ≤ _)⟩)
  dsimp only [Pt.U, Pt.locs, Pt.cells, Pt.slots] at X6 l6 y6 z6 st6 hQ6
  subst l6 y6 z6
  obtain ⟨rfl, N6q, hs6⟩ := hQ6
  have N6 := Fr.app N5 N6q
  obtain ⟨fs, hr, hrun, hended, hW, hsame⟩ := X6.leave (v := some (.int (1 : Int32))) (fun h => by rw [Bd.returns] at h; cases h)
  refine ⟨_, _, pre0 _ ?_, hrun, hended, _, _, rfl, ?_, ⟨_, rfl⟩, hW, hsame.mono (by decide) (by decide)⟩
  · show Steps p.tables e below (s₁.setTop (mkF m 0 #[.val (.int p1), .val (.int p2), .val (.int p3), .val (.int p4), .unset, .unset, .unset, .unset, .unset, .unset, .unset, .unset, .unset, .unset, .unset, .unset] [])) _
    refine XS.iloadN X0.here hx rfl (hb hby at_0) rfl ?_
    show Steps p.tables e below (s₁.setTop (mkF m 1 #[.val (.int p1), .val (.int p2), .val (.int p3), .val (.int p4), .unset, .unset, .unset, .unset, .unset, .unset, .unset, .unset, .unset, .unset, .unset, .unset] [(.int p1)])) _
    refine X0.ldcInt hx hown (mvT hZ (hw _ (List.mem_of_getElem? (i := 0) rfl))) (g := (mkF m 1 #[.val (.int p1), .val (.int p2), .val (.int p3), .val (.int p4), .unset, .unset, .unset, .unset, .unset, .unset, .unset, .unset, .unset, .unset, .unset, .unset] [(.int p1)])) rfl (hb hby at_1) _ ?_
    show Steps p.tables e below (s₁.setTop (mkF m 3 #[.val (.int p1), .val (.int p2), .val (.int p3), .val (.int p4), .unset, .unset, .unset, .unset, .unset, .unset, .unset, .unset, .unset, .unset, .unset, .unset] [(.int (2147483647 : Int32)), (.int p1)])) _
    refine XS.iand X0.here hx rfl (hb hby at_3) rfl ?_
    show Steps p.tables e below (s₁.setTop (mkF m 4 #[.val (.int p1), .val (.int p2), .val (.int p3), .val (.int p4), .unset, .unset, .unset, .unset, .unset, .unset, .unset, .unset, .unset, .unset, .unset, .unset] [(.int (p1 &&& (2147483647 : Int32)))])) _
    refine XS.istore X0.here hx rfl (hb hby at_4) rfl (l' := #[.val (.int p1), .val (.int p2), .val (.int p3), .val (.int p4), .val (.int (p1 &&& (2147483647 : Int32))), .unset, .unset, .unset, .unset, .unset, .unset, .unset, .unset, .unset, .unset, .unset]) rfl ?_
    show Steps p.tables e below (s₁.setTop (mkF m 6 #[.val (.int p1), .val (.int p2), .val (.int p3), .val (.int p4), .val (.int (own_end p1)), .unset, .unset, .unset, .unset, .unset, .unset, .unset, .unset, .unset, .unset, .unset] [])) _
    refine XS.iload X0.here hx rfl (hb hby at_6) rfl ?_
    show Steps p.tables e below (s₁.setTop (mkF m 8 #[.val (.int p1), .val (.int p2), .val (.int p3), .val (.int p4), .val (.int (own_end p1)), .unset, .unset, .unset, .unset, .unset, .unset, .unset, .unset, .unset, .unset, .unset] [(.int (own_end p1))])) _
    refine XS.i2l X0.here hx rfl (hb hby at_8) rfl ?_
    show Steps p.tables e below (s₁.setTop (mkF m 9 #[.val (.int p1), .val (.int p2), .val (.int p3), .val (.int p4), .val (.int (own_end p1)), .unset, .unset, .unset, .unset, .unset, .unset, .unset, .unset, .unset, .unset, .unset] [(.long ((own_end p1).toInt64))])) _
    refine XS.lstore X0.here hx rfl (hb hby at_9) rfl (l' := #[.val (.int p1), .val (.int p2), .val (.int p3), .val (.int p4), .val (.int (own_end p1)), .val (.long ((own_end p1).toInt64)), .second, .unset, .unset, .unset, .unset, .unset, .unset, .unset, .unset, .unset]) rfl ?_
    show Steps p.tables e below (s₁.setTop (mkF m 11 #[.val (.int p1), .val (.int p2), .val (.int p3), .val (.int p4), .val (.int (own_end p1)), .val (.long ((own_end p1).toInt64)), .second, .unset, .unset, .unset, .unset, .unset, .unset, .unset, .unset, .unset] [])) _
    refine XS.iloadN X0.here hx rfl (hb hby at_11) rfl ?_
    show Steps p.tables e below (s₁.setTop (mkF m 12 #[.val (.int p1), .val (.int p2), .val (.int p3), .val (.int p4), .val (.int (own_end p1)), .val (.long ((own_end p1).toInt64)), .second, .unset, .unset, .unset, .unset, .unset, .unset, .unset, .unset, .unset] [(.int p4)])) _
    refine XS.iconst X0.here hx rfl (hb hby at_12) ?_
    show Steps p.tables e below (s₁.setTop (mkF m 13 #[.val (.int p1), .val (.int p2), .val (.int p3), .val (.int p4), .val (.int (own_end p1)), .val (.long ((own_end p1).toInt64)), .second, .unset, .unset, .unset, .unset, .unset, .unset, .unset, .unset, .unset] [(.int (1 : Int32)), (.int p4)])) _
    refine XS.iand X0.here hx rfl (hb hby at_13) rfl ?_
    show Steps p.tables e below (s₁.setTop (mkF m 14 #[.val (.int p1), .val (.int p2), .val (.int p3), .val (.int p4), .val (.int (own_end p1)), .val (.long ((own_end p1).toInt64)), .second, .unset, .unset, .unset, .unset, .unset, .unset, .unset, .unset, .unset] [(.int (p4 &&& (1 : Int32)))])) _
    refine XS.ifYes X0.here hx rfl (pc0 := 14) (pc' := 31) rfl (hb hby at_14) rfl ((if0 _ _).trans (teq hc14).1) (by decide) (by decide) ?_
    show Steps p.tables e below (s₁.setTop (mkF m 31 #[.val (.int p1), .val (.int p2), .val (.int p3), .val (.int p4), .val (.int (own_end p1)), .val (.long ((own_end p1).toInt64)), .second, .unset, .unset, .unset, .unset, .unset, .unset, .unset, .unset, .unset] [])) _
    refine XS.iloadN X0.here hx rfl (hb hby at_31) rfl ?_
    show Steps p.tables e below (s₁.setTop (mkF m 32 #[.val (.int p1), .val (.int p2), .val (.int p3), .val (.int p4), .val (.int (own_end p1)), .val (.long ((own_end p1).toInt64)), .second, .unset, .unset, .unset, .unset, .unset, .unset, .unset, .unset, .unset] [(.int p2)])) _
    refine XS.i2l X0.here hx rfl (hb hby at_32) rfl ?_
    show Steps p.tables e below (s₁.setTop (mkF m 33 #[.val (.int p1), .val (.int p2), .val (.int p3), .val (.int p4), .val (.int (own_end p1)), .val (.long ((own_end p1).toInt64)), .second, .unset, .unset, .unset, .unset, .unset, .unset, .unset, .unset, .unset] [(.long (p2.toInt64))])) _
    refine X0.ldc2Long hx hown (mvT hZ (hw _ (List.mem_of_getElem? (i := 5) rfl))) (g := (mkF m 33 #[.val (.int p1), .val (.int p2), .val (.int p3), .val (.int p4), .val (.int (own_end p1)), .val (.long ((own_end p1).toInt64)), .second, .unset, .unset, .unset, .unset, .unset, .unset, .unset, .unset, .unset] [(.long (p2.toInt64))])) rfl (hb hby at_33) _ ?_
    show Steps p.tables e below (s₁.setTop (mkF m 36 #[.val (.int p1), .val (.int p2), .val (.int p3), .val (.int p4), .val (.int (own_end p1)), .val (.long ((own_end p1).toInt64)), .second, .unset, .unset, .unset, .unset, .unset, .unset, .unset, .unset, .unset] [(.long (2147483647 : Int64)), (.long (p2.toInt64))])) _
    refine XS.land X0.here hx rfl (hb hby at_36) rfl ?_
    show Steps p.tables e below (s₁.setTop (mkF m 37 #[.val (.int p1), .val (.int p2), .val (.int p3), .val (.int p4), .val (.int (own_end p1)), .val (.long ((own_end p1).toInt64)), .second, .unset, .unset, .unset, .unset, .unset, .unset, .unset, .unset, .unset] [(.long ((p2.toInt64) &&& (2147483647 : Int64)))])) _
    refine XS.lload X0.here hx rfl (hb hby at_37) rfl ?_
    show Steps p.tables e below (s₁.setTop (mkF m 39 #[.val (.int p1), .val (.int p2), .val (.int p3), .val (.int p4), .val (.int (own_end p1)), .val (.long ((own_end p1).toInt64)), .second, .unset, .unset, .unset, .unset, .unset, .unset, .unset, .unset, .unset] [(.long ((own_end p1).toInt64)), (.long ((p2.toInt64) &&& (2147483647 : Int64)))])) _
    refine XS.lconst X0.here hx rfl (hb hby at_39) ?_
    show Steps p.tables e below (s₁.setTop (mkF m 40 #[.val (.int p1), .val (.int p2), .val (.int p3), .val (.int p4), .val (.int (own_end p1)), .val (.long ((own_end p1).toInt64)), .second, .unset, .unset, .unset, .unset, .unset, .unset, .unset, .unset, .unset] [(.long (1 : Int64)), (.long ((own_end p1).toInt64)), (.long ((p2.toInt64) &&& (2147483647 : Int64)))])) _
    refine XS.ladd X0.here hx rfl (hb hby at_40) rfl ?_
    show Steps p.tables e below (s₁.setTop (mkF m 41 #[.val (.int p1), .val (.int p2), .val (.int p3), .val (.int p4), .val (.int (own_end p1)), .val (.long ((own_end p1).toInt64)), .second, .unset, .unset, .unset, .unset, .unset, .unset, .unset, .unset, .unset] [(.long (((own_end p1).toInt64) + (1 : Int64))), (.long ((p2.toInt64) &&& (2147483647 : Int64)))])) _
    refine XS.lrem X0.here hx rfl (hb hby at_41) rfl (own_nz _ (own_end_nn p1)) ?_
    show Steps p.tables e below (s₁.setTop (mkF m 42 #[.val (.int p1), .val (.int p2), .val (.int p3), .val (.int p4), .val (.int (own_end p1)), .val (.long ((own_end p1).toInt64)), .second, .unset, .unset, .unset, .unset, .unset, .unset, .unset, .unset, .unset] [(.long (((p2.toInt64) &&& (2147483647 : Int64)) - (((p2.toInt64) &&& (2147483647 : Int64)) / (((own_end p1).toInt64) + (1 : Int64))) * (((own_end p1).toInt64) + (1 : Int64))))])) _
    refine XS.l2i X0.here hx rfl (hb hby at_42) rfl ?_
    show Steps p.tables e below (s₁.setTop (mkF m 43 #[.val (.int p1), .val (.int p2), .val (.int p3), .val (.int p4), .val (.int (own_end p1)), .val (.long ((own_end p1).toInt64)), .second, .unset, .unset, .unset, .unset, .unset, .unset, .unset, .unset, .unset] [(.int ((((p2.toInt64) &&& (2147483647 : Int64)) - (((p2.toInt64) &&& (2147483647 : Int64)) / (((own_end p1).toInt64) + (1 : Int64))) * (((own_end p1).toInt64) + (1 : Int64))).toInt32))])) _
    refine XS.istore X0.here hx rfl (hb hby at_43) rfl (l' := #[.val (.int p1), .val (.int p2), .val (.int p3), .val (.int p4), .val (.int (own_end p1)), .val (.long ((own_end p1).toInt64)), .second, .val (.int ((((p2.toInt64) &&& (2147483647 : Int64)) - (((p2.toInt64) &&& (2147483647 : Int64)) / (((own_end p1).toInt64) + (1 : Int64))) * (((own_end p1).toInt64) + (1 : Int64))).toInt32)), .unset, .unset, .unset, .unset, .unset, .unset, .unset, .unset]) rfl ?_
    show Steps p.tables e below (s₁.setTop (mkF m 45 #[.val (.int p1), .val (.int p2), .val (.int p3), .val (.int p4), .val (.int (own_end p1)), .val (.long ((own_end p1).toInt64)), .second, .val (.int (own_gt p1 p2)), .unset, .unset, .unset, .unset, .unset, .unset, .unset, .unset] [])) _
    refine XS.iload X0.here hx rfl (hb hby at_45) rfl ?_
    show Steps p.tables e below (s₁.setTop (mkF m 47 #[.val (.int p1), .val (.int p2), .val (.int p3), .val (.int p4), .val (.int (own_end p1)), .val (.long ((own_end p1).toInt64)), .second, .val (.int (own_gt p1 p2)), .unset, .unset, .unset, .unset, .unset, .unset, .unset, .unset] [(.int (own_end p1))])) _
    refine XS.iload X0.here hx rfl (hb hby at_47) rfl ?_
    show Steps p.tables e below (s₁.setTop (mkF m 49 #[.val (.int p1), .val (.int p2), .val (.int p3), .val (.int p4), .val (.int (own_end p1)), .val (.long ((own_end p1).toInt64)), .second, .val (.int (own_gt p1 p2)), .unset, .unset, .unset, .unset, .unset, .unset, .unset, .unset] [(.int (own_gt p1 p2)), (.int (own_end p1))])) _
    refine XS.isub X0.here hx rfl (hb hby at_49) rfl ?_
    show Steps p.tables e below (s₁.setTop (mkF m 50 #[.val (.int p1), .val (.int p2), .val (.int p3), .val (.int p4), .val (.int (own_end p1)), .val (.long ((own_end p1).toInt64)), .second, .val (.int (own_gt p1 p2)), .unset, .unset, .unset, .unset, .unset, .unset, .unset, .unset] [(.int ((own_end p1) - (own_gt p1 p2)))])) _
    refine XS.istore X0.here hx rfl (hb hby at_50) rfl (l' := #[.val (.int p1), .val (.int p2), .val (.int p3), .val (.int p4), .val (.int (own_end p1)), .val (.long ((own_end p1).toInt64)), .second, .val (.int (own_gt p1 p2)), .val (.int ((own_end p1) - (own_gt p1 p2))), .unset, .unset, .unset, .unset, .unset, .unset, .unset]) rfl ?_
    show Steps p.tables e below (s₁.setTop (mkF m 52 #[.val (.int p1), .val (.int p2), .val (.int p3), .val (.int p4), .val (.int (own_end p1)), .val (.long ((own_end p1).toInt64)), .second, .val (.int (own_gt p1 p2)), .val (.int (own_rt p1 p2)), .unset, .unset, .unset, .unset, .unset, .unset, .unset] [])) _
    refine XS.iloadN X0.here hx rfl (hb hby at_52) rfl ?_
    show Steps p.tables e below (s₁.setTop (mkF m 53 #[.val (.int p1), .val (.int p2), .val (.int p3), .val (.int p4), .val (.int (own_end p1)), .val (.long ((own_end p1).toInt64)), .second, .val (.int (own_gt p1 p2)), .val (.int (own_rt p1 p2)), .unset, .unset, .unset, .unset, .unset, .unset, .unset] [(.int p4)])) _
    refine XS.iconst X0.here hx rfl (hb hby at_53) ?_
    show Steps p.tables e below (s₁.setTop (mkF m 54 #[.val (.int p1), .val (.int p2), .val (.int p3), .val (.int p4), .val (.int (own_end p1)), .val (.long ((own_end p1).toInt64)), .second, .val (.int (own_gt p1 p2)), .val (.int (own_rt p1 p2)), .unset, .unset, .unset, .unset, .unset, .unset, .unset] [(.int (2 : Int32)), (.int p4)])) _
    refine XS.iand X0.here hx rfl (hb hby at_54) rfl ?_
    show Steps p.tables e below (s₁.setTop (mkF m 55 #[.val (.int p1), .val (.int p2), .val (.int p3), .val (.int p4), .val (.int (own_end p1)), .val (.long ((own_end p1).toInt64)), .second, .val (.int (own_gt p1 p2)), .val (.int (own_rt p1 p2)), .unset, .unset, .unset, .unset, .unset, .unset, .unset] [(.int (p4 &&& (2 : Int32)))])) _
    refine XS.ifNo X0.here hx rfl (hb hby at_55) rfl ((if0 _ _).trans (feq hc55).1) ?_
    show Steps p.tables e below (s₁.setTop (mkF m 58 #[.val (.int p1), .val (.int p2), .val (.int p3), .val (.int p4), .val (.int (own_end p1)), .val (.long ((own_end p1).toInt64)), .second, .val (.int (own_gt p1 p2)), .val (.int (own_rt p1 p2)), .unset, .unset, .unset, .unset, .unset, .unset, .unset] [])) _
    refine XS.iloadN X0.here hx rfl (hb hby at_58) rfl ?_
    show Steps p.tables e below (s₁.setTop (mkF m 59 #[.val (.int p1), .val (.int p2), .val (.int p3), .val (.int p4), .val (.int (own_end p1)), .val (.long ((own_end p1).toInt64)), .second, .val (.int (own_gt p1 p2)), .val (.int (own_rt p1 p2)), .unset, .unset, .unset, .unset, .unset, .unset, .unset] [(.int p3)])) _
    refine XS.bipush X0.here hx rfl (hb hby at_59) ?_
    show Steps p.tables e below (s₁.setTop (mkF m 61 #[.val (.int p1), .val (.int p2), .val (.int p3), .val (.int p4), .val (.int (own_end p1)), .val (.long ((own_end p1).toInt64)), .second, .val (.int (own_gt p1 p2)), .val (.int (own_rt p1 p2)), .unset, .unset, .unset, .unset, .unset, .unset, .unset] [(.int (63 : Int32)), (.int p3)])) _
    refine XS.iand X0.here hx rfl (hb hby at_61) rfl ?_
    show Steps p.tables e below (s₁.setTop (mkF m 62 #[.val (.int p1), .val (.int p2), .val (.int p3), .val (.int p4), .val (.int (own_end p1)), .val (.long ((own_end p1).toInt64)), .second, .val (.int (own_gt p1 p2)), .val (.int (own_rt p1 p2)), .unset, .unset, .unset, .unset, .unset, .unset, .unset] [(.int (p3 &&& (63 : Int32)))])) _
    refine XS.iload X0.here hx rfl (hb hby at_62) rfl ?_
    show Steps p.tables e below (s₁.setTop (mkF m 64 #[.val (.int p1), .val (.int p2), .val (.int p3), .val (.int p4), .val (.int (own_end p1)), .val (.long ((own_end p1).toInt64)), .second, .val (.int (own_gt p1 p2)), .val (.int (own_rt p1 p2)), .unset, .unset, .unset, .unset, .unset, .unset, .unset] [(.int (own_rt p1 p2)), (.int (p3 &&& (63 : Int32)))])) _
    refine st5 _ ?_
    show Steps p.tables e below (T5.setTop (mkF m 67 #[.val (.int p1), .val (.int p2), .val (.int p3), .val (.int p4), .val (.int (own_end p1)), .val (.long ((own_end p1).toInt64)), .second, .val (.int (own_gt p1 p2)), .val (.int (own_rt p1 p2)), .unset, .unset, .unset, .unset, .unset, .unset, .unset] [(.int (own_min (p3 &&& (63 : Int32)) (own_rt p1 p2)))])) _
    refine XS.istore X5.here hx rfl (hb hby at_67) rfl (l' := #[.val (.int p1), .val (.int p2), .val (.int p3), .val (.int p4), .val (.int (own_end p1)), .val (.long ((own_end p1).toInt64)), .second, .val (.int (own_gt p1 p2)), .val (.int (own_rt p1 p2)), .val (.int (own_min (p3 &&& (63 : Int32)) (own_rt p1 p2))), .unset, .unset, .unset, .unset, .unset, .unset]) rfl ?_
    show Steps p.tables e below (T5.setTop (mkF m 69 #[.val (.int p1), .val (.int p2), .val (.int p3), .val (.int p4), .val (.int (own_end p1)), .val (.long ((own_end p1).toInt64)), .second, .val (.int (own_gt p1 p2)), .val (.int (own_rt p1 p2)), .val (.int (own_min (p3 &&& (63 : Int32)) (own_rt p1 p2))), .unset, .unset, .unset, .unset, .unset, .unset] [])) _
    refine XS.goto X5.here hx rfl (pc0 := 69) (pc' := 87) rfl (hb hby at_69) (by decide) (by decide) ?_
    show Steps p.tables e below (T5.setTop (mkF m 87 #[.val (.int p1), .val (.int p2), .val (.int p3), .val (.int p4), .val (.int (own_end p1)), .val (.long ((own_end p1).toInt64)), .second, .val (.int (own_gt p1 p2)), .val (.int (own_rt p1 p2)), .val (.int (own_btf p1 p2 p3)), .unset, .unset, .unset, .unset, .unset, .unset] [])) _
    refine XS.iload X5.here hx rfl (hb hby at_87) rfl ?_
    show Steps p.tables e below (T5.setTop (mkF m 89 #[.val (.int p1), .val (.int p2), .val (.int p3), .val (.int p4), .val (.int (own_end p1)), .val (.long ((own_end p1).toInt64)), .second, .val (.int (own_gt p1 p2)), .val (.int (own_rt p1 p2)), .val (.int (own_btf p1 p2 p3)), .unset, .unset, .unset, .unset, .unset, .unset] [(.int (own_rt p1 p2))])) _
    refine XS.iload X5.here hx rfl (hb hby at_89) rfl ?_
    show Steps p.tables e below (T5.setTop (mkF m 91 #[.val (.int p1), .val (.int p2), .val (.int p3), .val (.int p4), .val (.int (own_end p1)), .val (.long ((own_end p1).toInt64)), .second, .val (.int (own_gt p1 p2)), .val (.int (own_rt p1 p2)), .val (.int (own_btf p1 p2 p3)), .unset, .unset, .unset, .unset, .unset, .unset] [(.int (own_btf p1 p2 p3)), (.int (own_rt p1 p2))])) _
    refine XS.isub X5.here hx rfl (hb hby at_91) rfl ?_
    show Steps p.tables e below (T5.setTop (mkF m 92 #[.val (.int p1), .val (.int p2), .val (.int p3), .val (.int p4), .val (.int (own_end p1)), .val (.long ((own_end p1).toInt64)), .second, .val (.int (own_gt p1 p2)), .val (.int (own_rt p1 p2)), .val (.int (own_btf p1 p2 p3)), .unset, .unset, .unset, .unset, .unset, .unset] [(.int ((own_rt p1 p2) - (own_btf p1 p2 p3)))])) _
    refine XS.istore X5.here hx rfl (hb hby at_92) rfl (l' := #[.val (.int p1), .val (.int p2), .val (.int p3), .val (.int p4), .val (.int (own_end p1)), .val (.long ((own_end p1).toInt64)), .second, .val (.int (own_gt p1 p2)), .val (.int (own_rt p1 p2)), .val (.int (own_btf p1 p2 p3)), .val (.int ((own_rt p1 p2) - (own_btf p1 p2 p3))), .unset, .unset, .unset, .unset, .unset]) rfl ?_
    show Steps p.tables e below (T5.setTop (mkF m 94 #[.val (.int p1), .val (.int p2), .val (.int p3), .val (.int p4), .val (.int (own_end p1)), .val (.long ((own_end p1).toInt64)), .second, .val (.int (own_gt p1 p2)), .val (.int (own_rt p1 p2)), .val (.int (own_btf p1 p2 p3)), .val (.int (own_ptf p1 p2 p3)), .unset, .unset, .unset, .unset, .unset] [])) _
    refine XS.iload X5.here hx rfl (hb hby at_94) rfl ?_
    show Steps p.tables e below (T5.setTop (mkF m 96 #[.val (.int p1), .val (.int p2), .val (.int p3), .val (.int p4), .val (.int (own_end p1)), .val (.long ((own_end p1).toInt64)), .second, .val (.int (own_gt p1 p2)), .val (.int (own_rt p1 p2)), .val (.int (own_btf p1 p2 p3)), .val (.int (own_ptf p1 p2 p3)), .unset, .unset, .unset, .unset, .unset] [(.int (own_ptf p1 p2 p3))])) _
    refine XS.iload X5.here hx rfl (hb hby at_96) rfl ?_
    show Steps p.tables e below (T5.setTop (mkF m 98 #[.val (.int p1), .val (.int p2), .val (.int p3), .val (.int p4), .val (.int (own_end p1)), .val (.long ((own_end p1).toInt64)), .second, .val (.int (own_gt p1 p2)), .val (.int (own_rt p1 p2)), .val (.int (own_btf p1 p2 p3)), .val (.int (own_ptf p1 p2 p3)), .unset, .unset, .unset, .unset, .unset] [(.int (own_rt p1 p2)), (.int (own_ptf p1 p2 p3))])) _
    refine XS.iload X5.here hx rfl (hb hby at_98) rfl ?_
    show Steps p.tables e below (T5.setTop (mkF m 100 #[.val (.int p1), .val (.int p2), .val (.int p3), .val (.int p4), .val (.int (own_end p1)), .val (.long ((own_end p1).toInt64)), .second, .val (.int (own_gt p1 p2)), .val (.int (own_rt p1 p2)), .val (.int (own_btf p1 p2 p3)), .val (.int (own_ptf p1 p2 p3)), .unset, .unset, .unset, .unset, .unset] [(.int (own_end p1)), (.int (own_rt p1 p2)), (.int (own_ptf p1 p2 p3))])) _
    refine st6 _ ?_
    show Steps p.tables e below (T6.setTop (mkF m 103 #[.val (.int p1), .val (.int p2), .val (.int p3), .val (.int p4), .val (.int (own_end p1)), .val (.long ((own_end p1).toInt64)), .second, .val (.int (own_gt p1 p2)), .val (.int (own_rt p1 p2)), .val (.int (own_btf p1 p2 p3)), .val (.int (own_ptf p1 p2 p3)), .unset, .unset, .unset, .unset, .unset] [(.int (own_pa (own_ptf p1 p2 p3) (own_rt p1 p2) (own_end p1)))])) _
    refine XS.istore X6.here hx rfl (hb hby at_103) rfl (l' := #[.val (.int p1), .val (.int p2), .val (.int p3), .val (.int p4), .val (.int (own_end p1)), .val (.long ((own_end p1).toInt64)), .second, .val (.int (own_gt p1 p2)), .val (.int (own_rt p1 p2)), .val (.int (own_btf p1 p2 p3)), .val (.int (own_ptf p1 p2 p3)), .val (.int (own_pa (own_ptf p1 p2 p3) (own_rt p1 p2) (own_end p1))), .unset, .unset, .unset, .unset]) rfl ?_
    show Steps p.tables e below (T6.setTop (mkF m 105 #[.val (.int p1), .val (.int p2), .val (.int p3), .val (.int p4), .val (.int (own_end p1)), .val (.long ((own_end p1).toInt64)), .second, .val (.int (own_gt p1 p2)), .val (.int (own_rt p1 p2)), .val (.int (own_btf p1 p2 p3)), .val (.int (own_ptf p1 p2 p3)), .val (.int (own_pa (own_ptf p1 p2 p3) (own_rt p1 p2) (own_end p1))), .unset, .unset, .unset, .unset] [])) _
    refine XS.iload X6.here hx rfl (hb hby at_105) rfl ?_
    show Steps p.tables e below (T6.setTop (mkF m 107 #[.val (.int p1), .val (.int p2), .val (.int p3), .val (.int p4), .val (.int (own_end p1)), .val (.long ((own_end p1).toInt64)), .second, .val (.int (own_gt p1 p2)), .val (.int (own_rt p1 p2)), .val (.int (own_btf p1 p2 p3)), .val (.int (own_ptf p1 p2 p3)), .val (.int (own_pa (own_ptf p1 p2 p3) (own_rt p1 p2) (own_end p1))), .unset, .unset, .unset, .unset] [(.int (own_rt p1 p2))])) _
    refine XS.i2l X6.here hx rfl (hb hby at_107) rfl ?_
    show Steps p.tables e below (T6.setTop (mkF m 108 #[.val (.int p1), .val (.int p2), .val (.int p3), .val (.int p4), .val (.int (own_end p1)), .val (.long ((own_end p1).toInt64)), .second, .val (.int (own_gt p1 p2)), .val (.int (own_rt p1 p2)), .val (.int (own_btf p1 p2 p3)), .val (.int (own_ptf p1 p2 p3)), .val (.int (own_pa (own_ptf p1 p2 p3) (own_rt p1 p2) (own_end p1))), .unset, .unset, .unset, .unset] [(.long ((own_rt p1 p2).toInt64))])) _
    refine XS.lload X6.here hx rfl (hb hby at_108) rfl ?_
    show Steps p.tables e below (T6.setTop (mkF m 110 #[.val (.int p1), .val (.int p2), .val (.int p3), .val (.int p4), .val (.int (own_end p1)), .val (.long ((own_end p1).toInt64)), .second, .val (.int (own_gt p1 p2)), .val (.int (own_rt p1 p2)), .val (.int (own_btf p1 p2 p3)), .val (.int (own_ptf p1 p2 p3)), .val (.int (own_pa (own_ptf p1 p2 p3) (own_rt p1 p2) (own_end p1))), .unset, .unset, .unset, .unset] [(.long ((own_end p1).toInt64)), (.long ((own_rt p1 p2).toInt64))])) _
    refine X6.ldc2Long hx hown (mvT hZ (hw _ (List.mem_of_getElem? (i := 10) rfl))) (g := (mkF m 110 #[.val (.int p1), .val (.int p2), .val (.int p3), .val (.int p4), .val (.int (own_end p1)), .val (.long ((own_end p1).toInt64)), .second, .val (.int (own_gt p1 p2)), .val (.int (own_rt p1 p2)), .val (.int (own_btf p1 p2 p3)), .val (.int (own_ptf p1 p2 p3)), .val (.int (own_pa (own_ptf p1 p2 p3) (own_rt p1 p2) (own_end p1))), .unset, .unset, .unset, .unset] [(.long ((own_end p1).toInt64)), (.long ((own_rt p1 p2).toInt64))])) rfl (hb hby at_110) _ ?_
    show Steps p.tables e below (T6.setTop (mkF m 113 #[.val (.int p1), .val (.int p2), .val (.int p3), .val (.int p4), .val (.int (own_end p1)), .val (.long ((own_end p1).toInt64)), .second, .val (.int (own_gt p1 p2)), .val (.int (own_rt p1 p2)), .val (.int (own_btf p1 p2 p3)), .val (.int (own_ptf p1 p2 p3)), .val (.int (own_pa (own_ptf p1 p2 p3) (own_rt p1 p2) (own_end p1))), .unset, .unset, .unset, .unset] [(.long (16 : Int64)), (.long ((own_end p1).toInt64)), (.long ((own_rt p1 p2).toInt64))])) _
    refine XS.lsub X6.here hx rfl (hb hby at_113) rfl ?_
    show Steps p.tables e below (T6.setTop (mkF m 114 #[.val (.int p1), .val (.int p2), .val (.int p3), .val (.int p4), .val (.int (own_end p1)), .val (.long ((own_end p1).toInt64)), .second, .val (.int (own_gt p1 p2)), .val (.int (own_rt p1 p2)), .val (.int (own_btf p1 p2 p3)), .val (.int (own_ptf p1 p2 p3)), .val (.int (own_pa (own_ptf p1 p2 p3) (own_rt p1 p2) (own_end p1))), .unset, .unset, .unset, .unset] [(.long (((own_end p1).toInt64) - (16 : Int64))), (.long ((own_rt p1 p2).toInt64))])) _
    refine XS.lcmp X6.here hx rfl (hb hby at_114) rfl ?_
    show Steps p.tables e below (T6.setTop (mkF m 115 #[.val (.int p1), .val (.int p2), .val (.int p3), .val (.int p4), .val (.int (own_end p1)), .val (.long ((own_end p1).toInt64)), .second, .val (.int (own_gt p1 p2)), .val (.int (own_rt p1 p2)), .val (.int (own_btf p1 p2 p3)), .val (.int (own_ptf p1 p2 p3)), .val (.int (own_pa (own_ptf p1 p2 p3) (own_rt p1 p2) (own_end p1))), .unset, .unset, .unset, .unset] [(.int (lcmpW ((own_rt p1 p2).toInt64) (((own_end p1).toInt64) - (16 : Int64))))])) _
    by_cases hc115 : (0 : Int32) < (lcmpW ((own_rt p1 p2).toInt64) (((own_end p1).toInt64) - (16 : Int64)))
    · refine XS.ifYes X6.here hx rfl (pc0 := 115) (pc' := 169) rfl (hb hby at_115) rfl ((if0 _ _).trans (tlt hc115).2.2.1) (by decide) (by decide) ?_
      show Steps p.tables e below (T6.setTop (mkF m 169 #[.val (.int p1), .val (.int p2), .val (.int p3), .val (.int p4), .val (.int (own_end p1)), .val (.long ((own_end p1).toInt64)), .second, .val (.int (own_gt p1 p2)), .val (.int (own_rt p1 p2)), .val (.int (own_btf p1 p2 p3)), .val (.int (own_ptf p1 p2 p3)), .val (.int (own_pa (own_ptf p1 p2 p3) (own_rt p1 p2) (own_end p1))), .unset, .unset, .unset, .unset] [])) _
      refine XS.iload X6.here hx rfl (hb hby at_169) rfl ?_
      show Steps p.tables e below (T6.setTop (mkF m 171 #[.val (.int p1), .val (.int p2), .val (.int p3), .val (.int p4), .val (.int (own_end p1)), .val (.long ((own_end p1).toInt64)), .second, .val (.int (own_gt p1 p2)), .val (.int (own_rt p1 p2)), .val (.int (own_btf p1 p2 p3)), .val (.int (own_ptf p1 p2 p3)), .val (.int (own_pa (own_ptf p1 p2 p3) (own_rt p1 p2) (own_end p1))), .unset, .unset, .unset, .unset] [(.int (own_pa (own_ptf p1 p2 p3) (own_rt p1 p2) (own_end p1)))])) _
      refine XS.iload X6.here hx rfl (hb hby at_171) rfl ?_
      show Steps p.tables e below (T6.setTop (mkF m 173 #[.val (.int p1), .val (.int p2), .val (.int p3), .val (.int p4), .val (.int (own_end p1)), .val (.long ((own_end p1).toInt64)), .second, .val (.int (own_gt p1 p2)), .val (.int (own_rt p1 p2)), .val (.int (own_btf p1 p2 p3)), .val (.int (own_ptf p1 p2 p3)), .val (.int (own_pa (own_ptf p1 p2 p3) (own_rt p1 p2) (own_end p1))), .unset, .unset, .unset, .unset] [(.int (own_end p1)), (.int (own_pa (own_ptf p1 p2 p3) (own_rt p1 p2) (own_end p1)))])) _
      refine XS.icmpNo X6.here hx rfl (hb hby at_173) rfl (teq (own_f2 _ _ _ (own_end_nn p1) hc115 : (own_pa (own_ptf p1 p2 p3) (own_rt p1 p2) (own_end p1)) = (own_end p1))).2 ?_
      show Steps p.tables e below (T6.setTop (mkF m 176 #[.val (.int p1), .val (.int p2), .val (.int p3), .val (.int p4), .val (.int (own_end p1)), .val (.long ((own_end p1).toInt64)), .second, .val (.int (own_gt p1 p2)), .val (.int (own_rt p1 p2)), .val (.int (own_btf p1 p2 p3)), .val (.int (own_ptf p1 p2 p3)), .val (.int (own_pa (own_ptf p1 p2 p3) (own_rt p1 p2) (own_end p1))), .unset, .unset, .unset, .unset] [])) _
      refine XS.iconst X6.here hx rfl (hb hby at_176) ?_
      show Steps p.tables e below (T6.setTop (mkF m 177 #[.val (.int p1), .val (.int p2), .val (.int p3), .val (.int p4), .val (.int (own_end p1)), .val (.long ((own_end p1).toInt64)), .second, .val (.int (own_gt p1 p2)), .val (.int (own_rt p1 p2)), .val (.int (own_btf p1 p2 p3)), .val (.int (own_ptf p1 p2 p3)), .val (.int (own_pa (own_ptf p1 p2 p3) (own_rt p1 p2) (own_end p1))), .unset, .unset, .unset, .unset] [(.int (1 : Int32))])) _
      refine XS.goto X6.here hx rfl (pc0 := 177) (pc' := 181) rfl (hb hby at_177) (by decide) (by decide) ?_
      show Steps p.tables e below (T6.setTop (mkF m 181 #[.val (.int p1), .val (.int p2), .val (.int p3), .val (.int p4), .val (.int (own_end p1)), .val (.long ((own_end p1).toInt64)), .second, .val (.int (own_gt p1 p2)), .val (.int (own_rt p1 p2)), .val (.int (own_btf p1 p2 p3)), .val (.int (own_ptf p1 p2 p3)), .val (.int (own_pa (own_ptf p1 p2 p3) (own_rt p1 p2) (own_end p1))), .unset, .unset, .unset, .unset] [(.int (1 : Int32))])) _
      exact retN X6 hx (t := .boolean) Bd.returns (by simp) (hb hby at_181) hr
    · refine XS.ifNo X6.here hx rfl (hb hby at_115) rfl ((if0 _ _).trans (flt hc115).2.2.1) ?_
      show Steps p.tables e below (T6.setTop (mkF m 118 #[.val (.int p1), .val (.int p2), .val (.int p3), .val (.int p4), .val (.int (own_end p1)), .val (.long ((own_end p1).toInt64)), .second, .val (.int (own_gt p1 p2)), .val (.int (own_rt p1 p2)), .val (.int (own_btf p1 p2 p3)), .val (.int (own_ptf p1 p2 p3)), .val (.int (own_pa (own_ptf p1 p2 p3) (own_rt p1 p2) (own_end p1))), .unset, .unset, .unset, .unset] [])) _
      refine XS.iload X6.here hx rfl (hb hby at_118) rfl ?_
      show Steps p.tables e below (T6.setTop (mkF m 120 #[.val (.int p1), .val (.int p2), .val (.int p3), .val (.int p4), .val (.int (own_end p1)), .val (.long ((own_end p1).toInt64)), .second, .val (.int (own_gt p1 p2)), .val (.int (own_rt p1 p2)), .val (.int (own_btf p1 p2 p3)), .val (.int (own_ptf p1 p2 p3)), .val (.int (own_pa (own_ptf p1 p2 p3) (own_rt p1 p2) (own_end p1))), .unset, .unset, .unset, .unset] [(.int (own_pa (own_ptf p1 p2 p3) (own_rt p1 p2) (own_end p1)))])) _
      refine XS.i2l X6.here hx rfl (hb hby at_120) rfl ?_
      show Steps p.tables e below (T6.setTop (mkF m 121 #[.val (.int p1), .val (.int p2), .val (.int p3), .val (.int p4), .val (.int (own_end p1)), .val (.long ((own_end p1).toInt64)), .second, .val (.int (own_gt p1 p2)), .val (.int (own_rt p1 p2)), .val (.int (own_btf p1 p2 p3)), .val (.int (own_ptf p1 p2 p3)), .val (.int (own_pa (own_ptf p1 p2 p3) (own_rt p1 p2) (own_end p1))), .unset, .unset, .unset, .unset] [(.long ((own_pa (own_ptf p1 p2 p3) (own_rt p1 p2) (own_end p1)).toInt64))])) _
      refine XS.iload X6.here hx rfl (hb hby at_121) rfl ?_
      show Steps p.tables e below (T6.setTop (mkF m 123 #[.val (.int p1), .val (.int p2), .val (.int p3), .val (.int p4), .val (.int (own_end p1)), .val (.long ((own_end p1).toInt64)), .second, .val (.int (own_gt p1 p2)), .val (.int (own_rt p1 p2)), .val (.int (own_btf p1 p2 p3)), .val (.int (own_ptf p1 p2 p3)), .val (.int (own_pa (own_ptf p1 p2 p3) (own_rt p1 p2) (own_end p1))), .unset, .unset, .unset, .unset] [(.int (own_rt p1 p2)), (.long ((own_pa (own_ptf p1 p2 p3) (own_rt p1 p2) (own_end p1)).toInt64))])) _
      refine XS.i2l X6.here hx rfl (hb hby at_123) rfl ?_
      show Steps p.tables e below (T6.setTop (mkF m 124 #[.val (.int p1), .val (.int p2), .val (.int p3), .val (.int p4), .val (.int (own_end p1)), .val (.long ((own_end p1).toInt64)), .second, .val (.int (own_gt p1 p2)), .val (.int (own_rt p1 p2)), .val (.int (own_btf p1 p2 p3)), .val (.int (own_ptf p1 p2 p3)), .val (.int (own_pa (own_ptf p1 p2 p3) (own_rt p1 p2) (own_end p1))), .unset, .unset, .unset, .unset] [(.long ((own_rt p1 p2).toInt64)), (.long ((own_pa (own_ptf p1 p2 p3) (own_rt p1 p2) (own_end p1)).toInt64))])) _
      refine XS.lsub X6.here hx rfl (hb hby at_124) rfl ?_
      show Steps p.tables e below (T6.setTop (mkF m 125 #[.val (.int p1), .val (.int p2), .val (.int p3), .val (.int p4), .val (.int (own_end p1)), .val (.long ((own_end p1).toInt64)), .second, .val (.int (own_gt p1 p2)), .val (.int (own_rt p1 p2)), .val (.int (own_btf p1 p2 p3)), .val (.int (own_ptf p1 p2 p3)), .val (.int (own_pa (own_ptf p1 p2 p3) (own_rt p1 p2) (own_end p1))), .unset, .unset, .unset, .unset] [(.long (((own_pa (own_ptf p1 p2 p3) (own_rt p1 p2) (own_end p1)).toInt64) - ((own_rt p1 p2).toInt64)))])) _
      refine XS.lstore X6.here hx rfl (hb hby at_125) rfl (l' := #[.val (.int p1), .val (.int p2), .val (.int p3), .val (.int p4), .val (.int (own_end p1)), .val (.long ((own_end p1).toInt64)), .second, .val (.int (own_gt p1 p2)), .val (.int (own_rt p1 p2)), .val (.int (own_btf p1 p2 p3)), .val (.int (own_ptf p1 p2 p3)), .val (.int (own_pa (own_ptf p1 p2 p3) (own_rt p1 p2) (own_end p1))), .val (.long (((own_pa (own_ptf p1 p2 p3) (own_rt p1 p2) (own_end p1)).toInt64) - ((own_rt p1 p2).toInt64))), .second, .unset, .unset]) rfl ?_
      show Steps p.tables e below (T6.setTop (mkF m 127 #[.val (.int p1), .val (.int p2), .val (.int p3), .val (.int p4), .val (.int (own_end p1)), .val (.long ((own_end p1).toInt64)), .second, .val (.int (own_gt p1 p2)), .val (.int (own_rt p1 p2)), .val (.int (own_btf p1 p2 p3)), .val (.int (own_ptf p1 p2 p3)), .val (.int (own_pa (own_ptf p1 p2 p3) (own_rt p1 p2) (own_end p1))), .val (.long (((own_pa (own_ptf p1 p2 p3) (own_rt p1 p2) (own_end p1)).toInt64) - ((own_rt p1 p2).toInt64))), .second, .unset, .unset] [])) _
      refine XS.iload X6.here hx rfl (hb hby at_127) rfl ?_
      show Steps p.tables e below (T6.setTop (mkF m 129 #[.val (.int p1), .val (.int p2), .val (.int p3), .val (.int p4), .val (.int (own_end p1)), .val (.long ((own_end p1).toInt64)), .second, .val (.int (own_gt p1 p2)), .val (.int (own_rt p1 p2)), .val (.int (own_btf p1 p2 p3)), .val (.int (own_ptf p1 p2 p3)), .val (.int (own_pa (own_ptf p1 p2 p3) (own_rt p1 p2) (own_end p1))), .val (.long (((own_pa (own_ptf p1 p2 p3) (own_rt p1 p2) (own_end p1)).toInt64) - ((own_rt p1 p2).toInt64))), .second, .unset, .unset] [(.int (own_pa (own_ptf p1 p2 p3) (own_rt p1 p2) (own_end p1)))])) _
      refine XS.i2l X6.here hx rfl (hb hby at_129) rfl ?_
      show Steps p.tables e below (T6.setTop (mkF m 130 #[.val (.int p1), .val (.int p2), .val (.int p3), .val (.int p4), .val (.int (own_end p1)), .val (.long ((own_end p1).toInt64)), .second, .val (.int (own_gt p1 p2)), .val (.int (own_rt p1 p2)), .val (.int (own_btf p1 p2 p3)), .val (.int (own_ptf p1 p2 p3)), .val (.int (own_pa (own_ptf p1 p2 p3) (own_rt p1 p2) (own_end p1))), .val (.long (((own_pa (own_ptf p1 p2 p3) (own_rt p1 p2) (own_end p1)).toInt64) - ((own_rt p1 p2).toInt64))), .second, .unset, .unset] [(.long ((own_pa (own_ptf p1 p2 p3) (own_rt p1 p2) (own_end p1)).toInt64))])) _
      refine XS.iload X6.here hx rfl (hb hby at_130) rfl ?_
      show Steps p.tables e below (T6.setTop (mkF m 132 #[.val (.int p1), .val (.int p2), .val (.int p3), .val (.int p4), .val (.int (own_end p1)), .val (.long ((own_end p1).toInt64)), .second, .val (.int (own_gt p1 p2)), .val (.int (own_rt p1 p2)), .val (.int (own_btf p1 p2 p3)), .val (.int (own_ptf p1 p2 p3)), .val (.int (own_pa (own_ptf p1 p2 p3) (own_rt p1 p2) (own_end p1))), .val (.long (((own_pa (own_ptf p1 p2 p3) (own_rt p1 p2) (own_end p1)).toInt64) - ((own_rt p1 p2).toInt64))), .second, .unset, .unset] [(.int (own_ptf p1 p2 p3)), (.long ((own_pa (own_ptf p1 p2 p3) (own_rt p1 p2) (own_end p1)).toInt64))])) _
      refine XS.i2l X6.here hx rfl (hb hby at_132) rfl ?_
      show Steps p.tables e below (T6.setTop (mkF m 133 #[.val (.int p1), .val (.int p2), .val (.int p3), .val (.int p4), .val (.int (own_end p1)), .val (.long ((own_end p1).toInt64)), .second, .val (.int (own_gt p1 p2)), .val (.int (own_rt p1 p2)), .val (.int (own_btf p1 p2 p3)), .val (.int (own_ptf p1 p2 p3)), .val (.int (own_pa (own_ptf p1 p2 p3) (own_rt p1 p2) (own_end p1))), .val (.long (((own_pa (own_ptf p1 p2 p3) (own_rt p1 p2) (own_end p1)).toInt64) - ((own_rt p1 p2).toInt64))), .second, .unset, .unset] [(.long ((own_ptf p1 p2 p3).toInt64)), (.long ((own_pa (own_ptf p1 p2 p3) (own_rt p1 p2) (own_end p1)).toInt64))])) _
      refine XS.lsub X6.here hx rfl (hb hby at_133) rfl ?_
      show Steps p.tables e below (T6.setTop (mkF m 134 #[.val (.int p1), .val (.int p2), .val (.int p3), .val (.int p4), .val (.int (own_end p1)), .val (.long ((own_end p1).toInt64)), .second, .val (.int (own_gt p1 p2)), .val (.int (own_rt p1 p2)), .val (.int (own_btf p1 p2 p3)), .val (.int (own_ptf p1 p2 p3)), .val (.int (own_pa (own_ptf p1 p2 p3) (own_rt p1 p2) (own_end p1))), .val (.long (((own_pa (own_ptf p1 p2 p3) (own_rt p1 p2) (own_end p1)).toInt64) - ((own_rt p1 p2).toInt64))), .second, .unset, .unset] [(.long (((own_pa (own_ptf p1 p2 p3) (own_rt p1 p2) (own_end p1)).toInt64) - ((own_ptf p1 p2 p3).toInt64)))])) _
      refine XS.lstore X6.here hx rfl (hb hby at_134) rfl (l' := #[.val (.int p1), .val (.int p2), .val (.int p3), .val (.int p4), .val (.int (own_end p1)), .val (.long ((own_end p1).toInt64)), .second, .val (.int (own_gt p1 p2)), .val (.int (own_rt p1 p2)), .val (.int (own_btf p1 p2 p3)), .val (.int (own_ptf p1 p2 p3)), .val (.int (own_pa (own_ptf p1 p2 p3) (own_rt p1 p2) (own_end p1))), .val (.long (((own_pa (own_ptf p1 p2 p3) (own_rt p1 p2) (own_end p1)).toInt64) - ((own_rt p1 p2).toInt64))), .second, .val (.long (((own_pa (own_ptf p1 p2 p3) (own_rt p1 p2) (own_end p1)).toInt64) - ((own_ptf p1 p2 p3).toInt64))), .second]) rfl ?_
      show Steps p.tables e below (T6.setTop (mkF m 136 #[.val (.int p1), .val (.int p2), .val (.int p3), .val (.int p4), .val (.int (own_end p1)), .val (.long ((own_end p1).toInt64)), .second, .val (.int (own_gt p1 p2)), .val (.int (own_rt p1 p2)), .val (.int (own_btf p1 p2 p3)), .val (.int (own_ptf p1 p2 p3)), .val (.int (own_pa (own_ptf p1 p2 p3) (own_rt p1 p2) (own_end p1))), .val (.long (((own_pa (own_ptf p1 p2 p3) (own_rt p1 p2) (own_end p1)).toInt64) - ((own_rt p1 p2).toInt64))), .second, .val (.long (((own_pa (own_ptf p1 p2 p3) (own_rt p1 p2) (own_end p1)).toInt64) - ((own_ptf p1 p2 p3).toInt64))), .second] [])) _
      refine XS.lload X6.here hx rfl (hb hby at_136) rfl ?_
      show Steps p.tables e below (T6.setTop (mkF m 138 #[.val (.int p1), .val (.int p2), .val (.int p3), .val (.int p4), .val (.int (own_end p1)), .val (.long ((own_end p1).toInt64)), .second, .val (.int (own_gt p1 p2)), .val (.int (own_rt p1 p2)), .val (.int (own_btf p1 p2 p3)), .val (.int (own_ptf p1 p2 p3)), .val (.int (own_pa (own_ptf p1 p2 p3) (own_rt p1 p2) (own_end p1))), .val (.long (((own_pa (own_ptf p1 p2 p3) (own_rt p1 p2) (own_end p1)).toInt64) - ((own_rt p1 p2).toInt64))), .second, .val (.long (((own_pa (own_ptf p1 p2 p3) (own_rt p1 p2) (own_end p1)).toInt64) - ((own_ptf p1 p2 p3).toInt64))), .second] [(.long (((own_pa (own_ptf p1 p2 p3) (own_rt p1 p2) (own_end p1)).toInt64) - ((own_rt p1 p2).toInt64)))])) _
      refine XS.lconst X6.here hx rfl (hb hby at_138) ?_
      show Steps p.tables e below (T6.setTop (mkF m 139 #[.val (.int p1), .val (.int p2), .val (.int p3), .val (.int p4), .val (.int (own_end p1)), .val (.long ((own_end p1).toInt64)), .second, .val (.int (own_gt p1 p2)), .val (.int (own_rt p1 p2)), .val (.int (own_btf p1 p2 p3)), .val (.int (own_ptf p1 p2 p3)), .val (.int (own_pa (own_ptf p1 p2 p3) (own_rt p1 p2) (own_end p1))), .val (.long (((own_pa (own_ptf p1 p2 p3) (own_rt p1 p2) (own_end p1)).toInt64) - ((own_rt p1 p2).toInt64))), .second, .val (.long (((own_pa (own_ptf p1 p2 p3) (own_rt p1 p2) (own_end p1)).toInt64) - ((own_ptf p1 p2 p3).toInt64))), .second] [(.long (0 : Int64)), (.long (((own_pa (own_ptf p1 p2 p3) (own_rt p1 p2) (own_end p1)).toInt64) - ((own_rt p1 p2).toInt64)))])) _
      refine XS.lcmp X6.here hx rfl (hb hby at_139) rfl ?_
      show Steps p.tables e below (T6.setTop (mkF m 140 #[.val (.int p1), .val (.int p2), .val (.int p3), .val (.int p4), .val (.int (own_end p1)), .val (.long ((own_end p1).toInt64)), .second, .val (.int (own_gt p1 p2)), .val (.int (own_rt p1 p2)), .val (.int (own_btf p1 p2 p3)), .val (.int (own_ptf p1 p2 p3)), .val (.int (own_pa (own_ptf p1 p2 p3) (own_rt p1 p2) (own_end p1))), .val (.long (((own_pa (own_ptf p1 p2 p3) (own_rt p1 p2) (own_end p1)).toInt64) - ((own_rt p1 p2).toInt64))), .second, .val (.long (((own_pa (own_ptf p1 p2 p3) (own_rt p1 p2) (own_end p1)).toInt64) - ((own_ptf p1 p2 p3).toInt64))), .second] [(.int (lcmpW (((own_pa (own_ptf p1 p2 p3) (own_rt p1 p2) (own_end p1)).toInt64) - ((own_rt p1 p2).toInt64)) (0 : Int64)))])) _
      refine XS.ifNo X6.here hx rfl (hb hby at_140) rfl ((if0 _ _).trans (flt ((own_f1 _ _ _ (own_end_nn p1) (own_rt_b p1 p2) (own_ptf_b p1 p2 p3) hc115).1 : ¬ ((lcmpW (((own_pa (own_ptf p1 p2 p3) (own_rt p1 p2) (own_end p1)).toInt64) - ((own_rt p1 p2).toInt64)) (0 : Int64)) < (0 : Int32)))).1) ?_
      show Steps p.tables e below (T6.setTop (mkF m 143 #[.val (.int p1), .val (.int p2), .val (.int p3), .val (.int p4), .val (.int (own_end p1)), .val (.long ((own_end p1).toInt64)), .second, .val (.int (own_gt p1 p2)), .val (.int (own_rt p1 p2)), .val (.int (own_btf p1 p2 p3)), .val (.int (own_ptf p1 p2 p3)), .val (.int (own_pa (own_ptf p1 p2 p3) (own_rt p1 p2) (own_end p1))), .val (.long (((own_pa (own_ptf p1 p2 p3) (own_rt p1 p2) (own_end p1)).toInt64) - ((own_rt p1 p2).toInt64))), .second, .val (.long (((own_pa (own_ptf p1 p2 p3) (own_rt p1 p2) (own_end p1)).toInt64) - ((own_ptf p1 p2 p3).toInt64))), .second] [])) _
      refine XS.lload X6.here hx rfl (hb hby at_143) rfl ?_
      show Steps p.tables e below (T6.setTop (mkF m 145 #[.val (.int p1), .val (.int p2), .val (.int p3), .val (.int p4), .val (.int (own_end p1)), .val (.long ((own_end p1).toInt64)), .second, .val (.int (own_gt p1 p2)), .val (.int (own_rt p1 p2)), .val (.int (own_btf p1 p2 p3)), .val (.int (own_ptf p1 p2 p3)), .val (.int (own_pa (own_ptf p1 p2 p3) (own_rt p1 p2) (own_end p1))), .val (.long (((own_pa (own_ptf p1 p2 p3) (own_rt p1 p2) (own_end p1)).toInt64) - ((own_rt p1 p2).toInt64))), .second, .val (.long (((own_pa (own_ptf p1 p2 p3) (own_rt p1 p2) (own_end p1)).toInt64) - ((own_ptf p1 p2 p3).toInt64))), .second] [(.long (((own_pa (own_ptf p1 p2 p3) (own_rt p1 p2) (own_end p1)).toInt64) - ((own_rt p1 p2).toInt64)))])) _
      refine X6.ldc2Long hx hown (mvT hZ (hw _ (List.mem_of_getElem? (i := 10) rfl))) (g := (mkF m 145 #[.val (.int p1), .val (.int p2), .val (.int p3), .val (.int p4), .val (.int (own_end p1)), .val (.long ((own_end p1).toInt64)), .second, .val (.int (own_gt p1 p2)), .val (.int (own_rt p1 p2)), .val (.int (own_btf p1 p2 p3)), .val (.int (own_ptf p1 p2 p3)), .val (.int (own_pa (own_ptf p1 p2 p3) (own_rt p1 p2) (own_end p1))), .val (.long (((own_pa (own_ptf p1 p2 p3) (own_rt p1 p2) (own_end p1)).toInt64) - ((own_rt p1 p2).toInt64))), .second, .val (.long (((own_pa (own_ptf p1 p2 p3) (own_rt p1 p2) (own_end p1)).toInt64) - ((own_ptf p1 p2 p3).toInt64))), .second] [(.long (((own_pa (own_ptf p1 p2 p3) (own_rt p1 p2) (own_end p1)).toInt64) - ((own_rt p1 p2).toInt64)))])) rfl (hb hby at_145) _ ?_
      show Steps p.tables e below (T6.setTop (mkF m 148 #[.val (.int p1), .val (.int p2), .val (.int p3), .val (.int p4), .val (.int (own_end p1)), .val (.long ((own_end p1).toInt64)), .second, .val (.int (own_gt p1 p2)), .val (.int (own_rt p1 p2)), .val (.int (own_btf p1 p2 p3)), .val (.int (own_ptf p1 p2 p3)), .val (.int (own_pa (own_ptf p1 p2 p3) (own_rt p1 p2) (own_end p1))), .val (.long (((own_pa (own_ptf p1 p2 p3) (own_rt p1 p2) (own_end p1)).toInt64) - ((own_rt p1 p2).toInt64))), .second, .val (.long (((own_pa (own_ptf p1 p2 p3) (own_rt p1 p2) (own_end p1)).toInt64) - ((own_ptf p1 p2 p3).toInt64))), .second] [(.long (16 : Int64)), (.long (((own_pa (own_ptf p1 p2 p3) (own_rt p1 p2) (own_end p1)).toInt64) - ((own_rt p1 p2).toInt64)))])) _
      refine XS.lcmp X6.here hx rfl (hb hby at_148) rfl ?_
      show Steps p.tables e below (T6.setTop (mkF m 149 #[.val (.int p1), .val (.int p2), .val (.int p3), .val (.int p4), .val (.int (own_end p1)), .val (.long ((own_end p1).toInt64)), .second, .val (.int (own_gt p1 p2)), .val (.int (own_rt p1 p2)), .val (.int (own_btf p1 p2 p3)), .val (.int (own_ptf p1 p2 p3)), .val (.int (own_pa (own_ptf p1 p2 p3) (own_rt p1 p2) (own_end p1))), .val (.long (((own_pa (own_ptf p1 p2 p3) (own_rt p1 p2) (own_end p1)).toInt64) - ((own_rt p1 p2).toInt64))), .second, .val (.long (((own_pa (own_ptf p1 p2 p3) (own_rt p1 p2) (own_end p1)).toInt64) - ((own_ptf p1 p2 p3).toInt64))), .second] [(.int (lcmpW (((own_pa (own_ptf p1 p2 p3) (own_rt p1 p2) (own_end p1)).toInt64) - ((own_rt p1 p2).toInt64)) (16 : Int64)))])) _
      refine XS.ifNo X6.here hx rfl (hb hby at_149) rfl ((if0 _ _).trans (tlt ((own_f1 _ _ _ (own_end_nn p1) (own_rt_b p1 p2) (own_ptf_b p1 p2 p3) hc115).2.1 : (lcmpW (((own_pa (own_ptf p1 p2 p3) (own_rt p1 p2) (own_end p1)).toInt64) - ((own_rt p1 p2).toInt64)) (16 : Int64)) < (0 : Int32))).2.1) ?_
      show Steps p.tables e below (T6.setTop (mkF m 152 #[.val (.int p1), .val (.int p2), .val (.int p3), .val (.int p4), .val (.int (own_end p1)), .val (.long ((own_end p1).toInt64)), .second, .val (.int (own_gt p1 p2)), .val (.int (own_rt p1 p2)), .val (.int (own_btf p1 p2 p3)), .val (.int (own_ptf p1 p2 p3)), .val (.int (own_pa (own_ptf p1 p2 p3) (own_rt p1 p2) (own_end p1))), .val (.long (((own_pa (own_ptf p1 p2 p3) (own_rt p1 p2) (own_end p1)).toInt64) - ((own_rt p1 p2).toInt64))), .second, .val (.long (((own_pa (own_ptf p1 p2 p3) (own_rt p1 p2) (own_end p1)).toInt64) - ((own_ptf p1 p2 p3).toInt64))), .second] [])) _
      refine XS.lload X6.here hx rfl (hb hby at_152) rfl ?_
      show Steps p.tables e below (T6.setTop (mkF m 154 #[.val (.int p1), .val (.int p2), .val (.int p3), .val (.int p4), .val (.int (own_end p1)), .val (.long ((own_end p1).toInt64)), .second, .val (.int (own_gt p1 p2)), .val (.int (own_rt p1 p2)), .val (.int (own_btf p1 p2 p3)), .val (.int (own_ptf p1 p2 p3)), .val (.int (own_pa (own_ptf p1 p2 p3) (own_rt p1 p2) (own_end p1))), .val (.long (((own_pa (own_ptf p1 p2 p3) (own_rt p1 p2) (own_end p1)).toInt64) - ((own_rt p1 p2).toInt64))), .second, .val (.long (((own_pa (own_ptf p1 p2 p3) (own_rt p1 p2) (own_end p1)).toInt64) - ((own_ptf p1 p2 p3).toInt64))), .second] [(.long (((own_pa (own_ptf p1 p2 p3) (own_rt p1 p2) (own_end p1)).toInt64) - ((own_ptf p1 p2 p3).toInt64)))])) _
      refine X6.ldc2Long hx hown (mvT hZ (hw _ (List.mem_of_getElem? (i := 11) rfl))) (g := (mkF m 154 #[.val (.int p1), .val (.int p2), .val (.int p3), .val (.int p4), .val (.int (own_end p1)), .val (.long ((own_end p1).toInt64)), .second, .val (.int (own_gt p1 p2)), .val (.int (own_rt p1 p2)), .val (.int (own_btf p1 p2 p3)), .val (.int (own_ptf p1 p2 p3)), .val (.int (own_pa (own_ptf p1 p2 p3) (own_rt p1 p2) (own_end p1))), .val (.long (((own_pa (own_ptf p1 p2 p3) (own_rt p1 p2) (own_end p1)).toInt64) - ((own_rt p1 p2).toInt64))), .second, .val (.long (((own_pa (own_ptf p1 p2 p3) (own_rt p1 p2) (own_end p1)).toInt64) - ((own_ptf p1 p2 p3).toInt64))), .second] [(.long (((own_pa (own_ptf p1 p2 p3) (own_rt p1 p2) (own_end p1)).toInt64) - ((own_ptf p1 p2 p3).toInt64)))])) rfl (hb hby at_154) _ ?_
      show Steps p.tables e below (T6.setTop (mkF m 157 #[.val (.int p1), .val (.int p2), .val (.int p3), .val (.int p4), .val (.int (own_end p1)), .val (.long ((own_end p1).toInt64)), .second, .val (.int (own_gt p1 p2)), .val (.int (own_rt p1 p2)), .val (.int (own_btf p1 p2 p3)), .val (.int (own_ptf p1 p2 p3)), .val (.int (own_pa (own_ptf p1 p2 p3) (own_rt p1 p2) (own_end p1))), .val (.long (((own_pa (own_ptf p1 p2 p3) (own_rt p1 p2) (own_end p1)).toInt64) - ((own_rt p1 p2).toInt64))), .second, .val (.long (((own_pa (own_ptf p1 p2 p3) (own_rt p1 p2) (own_end p1)).toInt64) - ((own_ptf p1 p2 p3).toInt64))), .second] [(.long (15 : Int64)), (.long (((own_pa (own_ptf p1 p2 p3) (own_rt p1 p2) (own_end p1)).toInt64) - ((own_ptf p1 p2 p3).toInt64)))])) _
      refine XS.land X6.here hx rfl (hb hby at_157) rfl ?_
      show Steps p.tables e below (T6.setTop (mkF m 158 #[.val (.int p1), .val (.int p2), .val (.int p3), .val (.int p4), .val (.int (own_end p1)), .val (.long ((own_end p1).toInt64)), .second, .val (.int (own_gt p1 p2)), .val (.int (own_rt p1 p2)), .val (.int (own_btf p1 p2 p3)), .val (.int (own_ptf p1 p2 p3)), .val (.int (own_pa (own_ptf p1 p2 p3) (own_rt p1 p2) (own_end p1))), .val (.long (((own_pa (own_ptf p1 p2 p3) (own_rt p1 p2) (own_end p1)).toInt64) - ((own_rt p1 p2).toInt64))), .second, .val (.long (((own_pa (own_ptf p1 p2 p3) (own_rt p1 p2) (own_end p1)).toInt64) - ((own_ptf p1 p2 p3).toInt64))), .second] [(.long ((((own_pa (own_ptf p1 p2 p3) (own_rt p1 p2) (own_end p1)).toInt64) - ((own_ptf p1 p2 p3).toInt64)) &&& (15 : Int64)))])) _
      refine XS.lconst X6.here hx rfl (hb hby at_158) ?_
      show Steps p.tables e below (T6.setTop (mkF m 159 #[.val (.int p1), .val (.int p2), .val (.int p3), .val (.int p4), .val (.int (own_end p1)), .val (.long ((own_end p1).toInt64)), .second, .val (.int (own_gt p1 p2)), .val (.int (own_rt p1 p2)), .val (.int (own_btf p1 p2 p3)), .val (.int (own_ptf p1 p2 p3)), .val (.int (own_pa (own_ptf p1 p2 p3) (own_rt p1 p2) (own_end p1))), .val (.long (((own_pa (own_ptf p1 p2 p3) (own_rt p1 p2) (own_end p1)).toInt64) - ((own_rt p1 p2).toInt64))), .second, .val (.long (((own_pa (own_ptf p1 p2 p3) (own_rt p1 p2) (own_end p1)).toInt64) - ((own_ptf p1 p2 p3).toInt64))), .second] [(.long (0 : Int64)), (.long ((((own_pa (own_ptf p1 p2 p3) (own_rt p1 p2) (own_end p1)).toInt64) - ((own_ptf p1 p2 p3).toInt64)) &&& (15 : Int64)))])) _
      refine XS.lcmp X6.here hx rfl (hb hby at_159) rfl ?_
      show Steps p.tables e below (T6.setTop (mkF m 160 #[.val (.int p1), .val (.int p2), .val (.int p3), .val (.int p4), .val (.int (own_end p1)), .val (.long ((own_end p1).toInt64)), .second, .val (.int (own_gt p1 p2)), .val (.int (own_rt p1 p2)), .val (.int (own_btf p1 p2 p3)), .val (.int (own_ptf p1 p2 p3)), .val (.int (own_pa (own_ptf p1 p2 p3) (own_rt p1 p2) (own_end p1))), .val (.long (((own_pa (own_ptf p1 p2 p3) (own_rt p1 p2) (own_end p1)).toInt64) - ((own_rt p1 p2).toInt64))), .second, .val (.long (((own_pa (own_ptf p1 p2 p3) (own_rt p1 p2) (own_end p1)).toInt64) - ((own_ptf p1 p2 p3).toInt64))), .second] [(.int (lcmpW ((((own_pa (own_ptf p1 p2 p3) (own_rt p1 p2) (own_end p1)).toInt64) - ((own_ptf p1 p2 p3).toInt64)) &&& (15 : Int64)) (0 : Int64)))])) _
      refine XS.ifNo X6.here hx rfl (hb hby at_160) rfl ((if0 _ _).trans (teq ((own_f1 _ _ _ (own_end_nn p1) (own_rt_b p1 p2) (own_ptf_b p1 p2 p3) hc115).2.2 : (lcmpW ((((own_pa (own_ptf p1 p2 p3) (own_rt p1 p2) (own_end p1)).toInt64) - ((own_ptf p1 p2 p3).toInt64)) &&& (15 : Int64)) (0 : Int64)) = (0 : Int32))).2) ?_
      show Steps p.tables e below (T6.setTop (mkF m 163 #[.val (.int p1), .val (.int p2), .val (.int p3), .val (.int p4), .val (.int (own_end p1)), .val (.long ((own_end p1).toInt64)), .second, .val (.int (own_gt p1 p2)), .val (.int (own_rt p1 p2)), .val (.int (own_btf p1 p2 p3)), .val (.int (own_ptf p1 p2 p3)), .val (.int (own_pa (own_ptf p1 p2 p3) (own_rt p1 p2) (own_end p1))), .val (.long (((own_pa (own_ptf p1 p2 p3) (own_rt p1 p2) (own_end p1)).toInt64) - ((own_rt p1 p2).toInt64))), .second, .val (.long (((own_pa (own_ptf p1 p2 p3) (own_rt p1 p2) (own_end p1)).toInt64) - ((own_ptf p1 p2 p3).toInt64))), .second] [])) _
      refine XS.iconst X6.here hx rfl (hb hby at_163) ?_
      show Steps p.tables e below (T6.setTop (mkF m 164 #[.val (.int p1), .val (.int p2), .val (.int p3), .val (.int p4), .val (.int (own_end p1)), .val (.long ((own_end p1).toInt64)), .second, .val (.int (own_gt p1 p2)), .val (.int (own_rt p1 p2)), .val (.int (own_btf p1 p2 p3)), .val (.int (own_ptf p1 p2 p3)), .val (.int (own_pa (own_ptf p1 p2 p3) (own_rt p1 p2) (own_end p1))), .val (.long (((own_pa (own_ptf p1 p2 p3) (own_rt p1 p2) (own_end p1)).toInt64) - ((own_rt p1 p2).toInt64))), .second, .val (.long (((own_pa (own_ptf p1 p2 p3) (own_rt p1 p2) (own_end p1)).toInt64) - ((own_ptf p1 p2 p3).toInt64))), .second] [(.int (1 : Int32))])) _
      refine XS.goto X6.here hx rfl (pc0 := 164) (pc' := 168) rfl (hb hby at_164) (by decide) (by decide) ?_
      show Steps p.tables e below (T6.setTop (mkF m 168 #[.val (.int p1), .val (.int p2), .val (.int p3), .val (.int p4), .val (.int (own_end p1)), .val (.long ((own_end p1).toInt64)), .second, .val (.int (own_gt p1 p2)), .val (.int (own_rt p1 p2)), .val (.int (own_btf p1 p2 p3)), .val (.int (own_ptf p1 p2 p3)), .val (.int (own_pa (own_ptf p1 p2 p3) (own_rt p1 p2) (own_end p1))), .val (.long (((own_pa (own_ptf p1 p2 p3) (own_rt p1 p2) (own_end p1)).toInt64) - ((own_rt p1 p2).toInt64))), .second, .val (.long (((own_pa (own_ptf p1 p2 p3) (own_rt p1 p2) (own_end p1)).toInt64) - ((own_ptf p1 p2 p3).toInt64))), .second] [(.int (1 : Int32))])) _
      exact retN X6 hx (t := .boolean) Bd.returns (by simp) (hb hby at_168) hr
  · show Q0 Z p1 p2 p3 p4 h0 n0 _ T6.heap _
    exact ⟨rfl, N6⟩
def own_gf (p1 p2 : Int32) : Int32 := own_mn p2 (own_end p1)
def own_rf (p1 p2 : Int32) : Int32 := own_end p1 - own_gf p1 p2
def own_bft (p1 p2 p3 : Int32) : Int32 := own_rem p3 (own_rf p1 p2)
def own_pft (p1 p2 p3 : Int32) : Int32 := own_rf p1 p2 - own_bft p1 p2 p3
theorem own_rf_b (p1 p2 : Int32) : 0 ≤ (own_rf p1 p2).toInt ∧ (own_rf p1 p2).toInt ≤ (own_end p1).toInt := by
  have h := own_end_nn p1
  have hg : 0 ≤ (own_gf p1 p2).toInt ∧ (own_gf p1 p2).toInt ≤ (own_end p1).toInt := own_mn_b _ _ h
  have q := own_sub_b h hg
  unfold own_rf; omega
theorem own_pft_b (p1 p2 p3 : Int32) : 0 ≤ (own_pft p1 p2 p3).toInt ∧ (own_pft p1 p2 p3).toInt ≤ (own_rf p1 p2).toInt := by
  have h := (own_rf_b p1 p2).1
  have hg : 0 ≤ (own_bft p1 p2 p3).toInt ∧ (own_bft p1 p2 p3).toInt ≤ (own_rf p1 p2).toInt := own_rem_b _ _ h
  have q := own_sub_b h hg
  unfold own_pft; omega
set_option maxRecDepth 65536 in
set_option maxHeartbeats 40000000 in
theorem rm0_ft (l : Launch) (Z : State) (a0 : Array Value) (hw : ∀ d ∈ tables_1, d.before a0 Z = true) (ws : List Jvm.Cond) (p1 : Int32) (p2 : Int32) (p3 : Int32) (p4 : Int32) (h0 : Heap) (n0 : Nat) (Z0 : n0 ≤ h0.size) (hc14 : ¬ ((p4 &&& (1 : Int32)) = (0 : Int32))) (hc55 : (p4 &&& (2 : Int32)) = (0 : Int32)) :
    MetFree l x (head1 (Jvm.Cond.code x code maxLocals ret :: ws) room_1) (fun a U => a = #[(.int p1), (.int p2), (.int p3), (.int p4)] ∧ Z.Warmed39 U.vm ∧ U.heap = h0) (fun _ _ _ _ _ => True) (fun _ U o U' => ∃ v L, o = .returned v ∧ Q0 Z p1 p2 p3 p4 h0 n0 v U'.heap L ∧ FrameEnd U o U' L room_1.cells room_1.slots) := by
  refine MetFree.of_bodySF (plainFor_of_name pn_0) hisR ?_
  intro p e s m args below meth c s₁ Bd hml0 hP hK
  obtain ⟨rfl, hZ, hh⟩ := hP
  have hx := Bd.exec
  have hby := Bd.bytes
  have hml : c.maxLocals = 16 := hml0
  have hown : s.vm.findClass "com/example/brevitree/brevitree/BlockPlannerProbeAfterPinLaw" = some m.cls := findClass_of_methodNamed Bd.named
  have hnm := (name_of_methodNamed Bd.named Bd.method).1
  have X0 : Stand p l e room_1 s m #[(.int p1), (.int p2), (.int p3), (.int p4)] below meth c s₁ [] 0 0 := Stand.of_body Bd
  have e0 : s₁.heap = h0 := by rw [← hh, Bd.state]; rfl
  have N0 := Fr.nil n0
  have pre0 : ∀ t, Steps p.tables e below (s₁.setTop (mkF m 0 #[.val (.int p1), .val (.int p2), .val (.int p3), .val (.int p4), .unset, .unset, .unset, .unset, .unset, .unset, .unset, .unset, .unset, .unset, .unset, .unset] [])) t → Steps p.tables e below (s₁.setTop (entryFrame m #[(.int p1), (.int p2), (.int p3), (.int p4)] maxLocals)) t := fun t k => castTop (ef_0 m p1 p2 p3 p4) k
  obtain ⟨_, _, ⟨T5, L5, k5, n5⟩, -, X5, ⟨Lc5, hQ5, l5, y5, z5⟩, st5⟩ := Jvm.LawKit.callS X0 hx (y := (⟨"java/lang/Math", "min", "(II)I"⟩ : MethodName)) hown (mvT hZ (hw _ (List.mem_of_getElem? (i := 1) rfl))) (mvT hZ (hw _ (List.mem_of_getElem? (i := 2) rfl))) (mvT hZ (hw _ (List.mem_of_getElem? (i := 3) rfl))) (mvT hZ (hw _ (List.mem_of_getElem? (i := 4) rfl))) (by decide) (backOf (W := 0) (rm1 l Z a0 hw [] (p2 &&& (63 : Int32)) (own_end p1) h0 n0 Z0) hZ (hw _ (List.mem_of_getElem? (i := 4) rfl)) (hw _ (List.mem_of_getElem? (i := 3) rfl)) (by decide) (by decide)) (g := (mkF m 23 #[.val (.int p1), .val (.int p2), .val (.int p3), .val (.int p4), .val (.int (own_end p1)), .val (.long ((own_end p1).toInt64)), .second, .unset, .unset, .unset, .unset, .unset, .unset, .unset, .unset, .unset] [(.int (own_end p1)), (.int (p2 &&& (63 : Int32)))])) rfl (by rw [hml]; rfl) (argsL := [(.int (p2 &&& (63 : Int32))), (.int (own_end p1))]) (rest := []) (lenOf pd_0_0 rfl) rfl (by show 2 * 0 + _ ≤ _; exact Nat.le_of_eq rfl) (hb hby at_23) (fun _ _ => ⟨rfl, e0, (by decide : 0 + 0 ≤ _), (by decide : 0 + 0 ≤ _)⟩)
  dsimp only [Pt.U, Pt.locs, Pt.cells, Pt.slots] at X5 l5 y5 z5 st5 hQ5
  subst l5 y5 z5
  obtain ⟨rfl, N5q, hs5⟩ := hQ5
  have N5 := Fr.app N0 N5q
  obtain ⟨_, _, ⟨T6, L6, k6, n6⟩, -, X6, ⟨Lc6, hQ6, l6, y6, z6⟩, st6⟩ := Jvm.LawKit.callS X5 hx (y := (⟨"com/example/brevitree/brevitree/BlockPlanner", "probeAfter", "(III)I"⟩ : MethodName)) hown (mvT hZ (hw _ (List.mem_of_getElem? (i := 6) rfl))) (mvT hZ (hw _ (List.mem_of_getElem? (i := 7) rfl))) (mvT hZ (hw _ (List.mem_of_getElem? (i := 8) rfl))) (mvT hZ (hw _ (List.mem_of_getElem? (i := 9) rfl))) (by decide) (backOf (W := 0) (rm2 l Z a0 hw [] (own_pft p1 p2 p3) (own_rf p1 p2) (own_end p1) T5.heap n0 (by rw [hs5]; exact Z0)) hZ (hw _ (List.mem_of_getElem? (i := 9) rfl)) (hw _ (List.mem_of_getElem? (i := 8) rfl)) (by decide) (by decide)) (g := (mkF m 100 #[.val (.int p1), .val (.int p2), .val (.int p3), .val (.int p4), .val (.int (own_end p1)), .val (.long ((own_end p1).toInt64)), .second, .val (.int (own_gf p1 p2)), .val (.int (own_rf p1 p2)), .val (.int (own_bft p1 p2 p3)), .val (.int (own_pft p1 p2 p3)), .unset, .unset, .unset, .unset, .unset] [(.int (own_end p1)), (.int (own_rf p1 p2)), (.int (own_pft p1 p2 p3))])) rfl (by rw [hml]; rfl) (argsL := [(.int (own_pft p1 p2 p3)), (.int (own_rf p1 p2)), (.int (own_end p1))]) (rest := []) (lenOf pd_0_1 rfl) rfl (by show 2 * 0 + _ ≤ _; exact Nat.le_of_eq rfl) (hb hby at_100) (fun _ _ => ⟨rfl, rfl, (by decide : 0 + 0 ≤ _), (by decide : 0 + 0 ≤ _)⟩)
  dsimp only [Pt.U, Pt.locs, Pt.cells, Pt.slots] at X6 l6 y6 z6 st6 hQ6
  subst l6 y6 z6
  obtain ⟨rfl, N6q, hs6⟩ := hQ6
  have N6 := Fr.app N5 N6q
  obtain ⟨fs, hr, hrun, hended, hW, hsame⟩ := X6.leave (v := some (.int (1 : Int32))) (fun h => by rw [Bd.returns] at h; cases h)
  refine ⟨_, _, pre0 _ ?_, hrun, hended, _, _, rfl, ?_, ⟨_, rfl⟩, hW, hsame.mono (by decide) (by decide)⟩
  · show Steps p.tables e below (s₁.setTop (mkF m 0 #[.val (.int p1), .val (.int p2), .val (.int p3), .val (.int p4), .unset, .unset, .unset, .unset, .unset, .unset, .unset, .unset, .unset, .unset, .unset, .unset] [])) _
    refine XS.iloadN X0.here hx rfl (hb hby at_0) rfl ?_
    show Steps p.tables e below (s₁.setTop (mkF m 1 #[.val (.int p1), .val (.int p2), .val (.int p3), .val (.int p4), .unset, .unset, .unset, .unset, .unset, .unset, .unset, .unset, .unset, .unset, .unset, .unset] [(.int p1)])) _
    refine X0.ldcInt hx hown (mvT hZ (hw _ (List.mem_of_getElem? (i := 0) rfl))) (g := (mkF m 1 #[.val (.int p1), .val (.int p2), .val (.int p3), .val (.int p4), .unset, .unset, .unset, .unset, .unset, .unset, .unset, .unset, .unset, .unset, .unset, .unset] [(.int p1)])) rfl (hb hby at_1) _ ?_
    show Steps p.tables e below (s₁.setTop (mkF m 3 #[.val (.int p1), .val (.int p2), .val (.int p3), .val (.int p4), .unset, .unset, .unset, .unset, .unset, .unset, .unset, .unset, .unset, .unset, .unset, .unset] [(.int (2147483647 : Int32)), (.int p1)])) _
    refine XS.iand X0.here hx rfl (hb hby at_3) rfl ?_
    show Steps p.tables e below (s₁.setTop (mkF m 4 #[.val (.int p1), .val (.int p2), .val (.int p3), .val (.int p4), .unset, .unset, .unset, .unset, .unset, .unset, .unset, .unset, .unset, .unset, .unset, .unset] [(.int (p1 &&& (2147483647 : Int32)))])) _
    refine XS.istore X0.here hx rfl (hb hby at_4) rfl (l' := #[.val (.int p1), .val (.int p2), .val (.int p3), .val (.int p4), .val (.int (p1 &&& (2147483647 : Int32))), .unset, .unset, .unset, .unset, .unset, .unset, .unset, .unset, .unset, .unset, .unset]) rfl ?_
    show Steps p.tables e below (s₁.setTop (mkF m 6 #[.val (.int p1), .val (.int p2), .val (.int p3), .val (.int p4), .val (.int (own_end p1)), .unset, .unset, .unset, .unset, .unset, .unset, .unset, .unset, .unset, .unset, .unset] [])) _
    refine XS.iload X0.here hx rfl (hb hby at_6) rfl ?_
    show Steps p.tables e below (s₁.setTop (mkF m 8 #[.val (.int p1), .val (.int p2), .val (.int p3), .val (.int p4), .val (.int (own_end p1)), .unset, .unset, .unset, .unset, .unset, .unset, .unset, .unset, .unset, .unset, .unset] [(.int (own_end p1))])) _
    refine XS.i2l X0.here hx rfl (hb hby at_8) rfl ?_
    show Steps p.tables e below (s₁.setTop (mkF m 9 #[.val (.int p1), .val (.int p2), .val (.int p3), .val (.int p4), .val (.int (own_end p1)), .unset, .unset, .unset, .unset, .unset, .unset, .unset, .unset, .unset, .unset, .unset] [(.long ((own_end p1).toInt64))])) _
    refine XS.lstore X0.here hx rfl (hb hby at_9) rfl (l' := #[.val (.int p1), .val (.int p2), .val (.int p3), .val (.int p4), .val (.int (own_end p1)), .val (.long ((own_end p1).toInt64)), .second, .unset, .unset, .unset, .unset, .unset, .unset, .unset, .unset, .unset]) rfl ?_
    show Steps p.tables e below (s₁.setTop (mkF m 11 #[.val (.int p1), .val (.int p2), .val (.int p3), .val (.int p4), .val (.int (own_end p1)), .val (.long ((own_end p1).toInt64)), .second, .unset, .unset, .unset, .unset, .unset, .unset, .unset, .unset, .unset] [])) _
    refine XS.iloadN X0.here hx rfl (hb hby at_11) rfl ?_
    show Steps p.tables e below (s₁.setTop (mkF m 12 #[.val (.int p1), .val (.int p2), .val (.int p3), .val (.int p4), .val (.int (own_end p1)), .val (.long ((own_end p1).toInt64)), .second, .unset, .unset, .unset, .unset, .unset, .unset, .unset, .unset, .unset] [(.int p4)])) _
    refine XS.iconst X0.here hx rfl (hb hby at_12) ?_
    show Steps p.tables e below (s₁.setTop (mkF m 13 #[.val (.int p1), .val (.int p2), .val (.int p3), .val (.int p4), .val (.int (own_end p1)), .val (.long ((own_end p1).toInt64)), .second, .unset, .unset, .unset, .unset, .unset, .unset, .unset, .unset, .unset] [(.int (1 : Int32)), (.int p4)])) _
    refine XS.iand X0.here hx rfl (hb hby at_13) rfl ?_
    show Steps p.tables e below (s₁.setTop (mkF m 14 #[.val (.int p1), .val (.int p2), .val (.int p3), .val (.int p4), .val (.int (own_end p1)), .val (.long ((own_end p1).toInt64)), .second, .unset, .unset, .unset, .unset, .unset, .unset, .unset, .unset, .unset] [(.int (p4 &&& (1 : Int32)))])) _
    refine XS.ifNo X0.here hx rfl (hb hby at_14) rfl ((if0 _ _).trans (feq hc14).1) ?_
    show Steps p.tables e below (s₁.setTop (mkF m 17 #[.val (.int p1), .val (.int p2), .val (.int p3), .val (.int p4), .val (.int (own_end p1)), .val (.long ((own_end p1).toInt64)), .second, .unset, .unset, .unset, .unset, .unset, .unset, .unset, .unset, .unset] [])) _
    refine XS.iloadN X0.here hx rfl (hb hby at_17) rfl ?_
    show Steps p.tables e below (s₁.setTop (mkF m 18 #[.val (.int p1), .val (.int p2), .val (.int p3), .val (.int p4), .val (.int (own_end p1)), .val (.long ((own_end p1).toInt64)), .second, .unset, .unset, .unset, .unset, .unset, .unset, .unset, .unset, .unset] [(.int p2)])) _
    refine XS.bipush X0.here hx rfl (hb hby at_18) ?_
    show Steps p.tables e below (s₁.setTop (mkF m 20 #[.val (.int p1), .val (.int p2), .val (.int p3), .val (.int p4), .val (.int (own_end p1)), .val (.long ((own_end p1).toInt64)), .second, .unset, .unset, .unset, .unset, .unset, .unset, .unset, .unset, .unset] [(.int (63 : Int32)), (.int p2)])) _
    refine XS.iand X0.here hx rfl (hb hby at_20) rfl ?_
    show Steps p.tables e below (s₁.setTop (mkF m 21 #[.val (.int p1), .val (.int p2), .val (.int p3), .val (.int p4), .val (.int (own_end p1)), .val (.long ((own_end p1).toInt64)), .second, .unset, .unset, .unset, .unset, .unset, .unset, .unset, .unset, .unset] [(.int (p2 &&& (63 : Int32)))])) _
    refine XS.iload X0.here hx rfl (hb hby at_21) rfl ?_
    show Steps p.tables e below (s₁.setTop (mkF m 23 #[.val (.int p1), .val (.int p2), .val (.int p3), .val (.int p4), .val (.int (own_end p1)), .val (.long ((own_end p1).toInt64)), .second, .unset, .unset, .unset, .unset, .unset, .unset, .unset, .unset, .unset] [(.int (own_end p1)), (.int (p2 &&& (63 : Int32)))])) _
    refine st5 _ ?_
    show Steps p.tables e below (T5.setTop (mkF m 26 #[.val (.int p1), .val (.int p2), .val (.int p3), .val (.int p4), .val (.int (own_end p1)), .val (.long ((own_end p1).toInt64)), .second, .unset, .unset, .unset, .unset, .unset, .unset, .unset, .unset, .unset] [(.int (own_min (p2 &&& (63 : Int32)) (own_end p1)))])) _
    refine XS.istore X5.here hx rfl (hb hby at_26) rfl (l' := #[.val (.int p1), .val (.int p2), .val (.int p3), .val (.int p4), .val (.int (own_end p1)), .val (.long ((own_end p1).toInt64)), .second, .val (.int (own_min (p2 &&& (63 : Int32)) (own_end p1))), .unset, .unset, .unset, .unset, .unset, .unset, .unset, .unset]) rfl ?_
    show Steps p.tables e below (T5.setTop (mkF m 28 #[.val (.int p1), .val (.int p2), .val (.int p3), .val (.int p4), .val (.int (own_end p1)), .val (.long ((own_end p1).toInt64)), .second, .val (.int (own_min (p2 &&& (63 : Int32)) (own_end p1))), .unset, .unset, .unset, .unset, .unset, .unset, .unset, .unset] [])) _
    refine XS.goto X5.here hx rfl (pc0 := 28) (pc' := 45) rfl (hb hby at_28) (by decide) (by decide) ?_
    show Steps p.tables e below (T5.setTop (mkF m 45 #[.val (.int p1), .val (.int p2), .val (.int p3), .val (.int p4), .val (.int (own_end p1)), .val (.long ((own_end p1).toInt64)), .second, .val (.int (own_gf p1 p2)), .unset, .unset, .unset, .unset, .unset, .unset, .unset, .unset] [])) _
    refine XS.iload X5.here hx rfl (hb hby at_45) rfl ?_
    show Steps p.tables e below (T5.setTop (mkF m 47 #[.val (.int p1), .val (.int p2), .val (.int p3), .val (.int p4), .val (.int (own_end p1)), .val (.long ((own_end p1).toInt64)), .second, .val (.int (own_gf p1 p2)), .unset, .unset, .unset, .unset, .unset, .unset, .unset, .unset] [(.int (own_end p1))])) _
    refine XS.iload X5.here hx rfl (hb hby at_47) rfl ?_
    show Steps p.tables e below (T5.setTop (mkF m 49 #[.val (.int p1), .val (.int p2), .val (.int p3), .val (.int p4), .val (.int (own_end p1)), .val (.long ((own_end p1).toInt64)), .second, .val (.int (own_gf p1 p2)), .unset, .unset, .unset, .unset, .unset, .unset, .unset, .unset] [(.int (own_gf p1 p2)), (.int (own_end p1))])) _
    refine XS.isub X5.here hx rfl (hb hby at_49) rfl ?_
    show Steps p.tables e below (T5.setTop (mkF m 50 #[.val (.int p1), .val (.int p2), .val (.int p3), .val (.int p4), .val (.int (own_end p1)), .val (.long ((own_end p1).toInt64)), .second, .val (.int (own_gf p1 p2)), .unset, .unset, .unset, .unset, .unset, .unset, .unset, .unset] [(.int ((own_end p1) - (own_gf p1 p2)))])) _
    refine XS.istore X5.here hx rfl (hb hby at_50) rfl (l' := #[.val (.int p1), .val (.int p2), .val (.int p3), .val (.int p4), .val (.int (own_end p1)), .val (.long ((own_end p1).toInt64)), .second, .val (.int (own_gf p1 p2)), .val (.int ((own_end p1) - (own_gf p1 p2))), .unset, .unset, .unset, .unset, .unset, .unset, .unset]) rfl ?_
    show Steps p.tables e below (T5.setTop (mkF m 52 #[.val (.int p1), .val (.int p2), .val (.int p3), .val (.int p4), .val (.int (own_end p1)), .val (.long ((own_end p1).toInt64)), .second, .val (.int (own_gf p1 p2)), .val (.int (own_rf p1 p2)), .unset, .unset, .unset, .unset, .unset, .unset, .unset] [])) _
    refine XS.iloadN X5.here hx rfl (hb hby at_52) rfl ?_
    show Steps p.tables e below (T5.setTop (mkF m 53 #[.val (.int p1), .val (.int p2), .val (.int p3), .val (.int p4), .val (.int (own_end p1)), .val (.long ((own_end p1).toInt64)), .second, .val (.int (own_gf p1 p2)), .val (.int (own_rf p1 p2)), .unset, .unset, .unset, .unset, .unset, .unset, .unset] [(.int p4)])) _
    refine XS.iconst X5.here hx rfl (hb hby at_53) ?_
    show Steps p.tables e below (T5.setTop (mkF m 54 #[.val (.int p1), .val (.int p2), .val (.int p3), .val (.int p4), .val (.int (own_end p1)), .val (.long ((own_end p1).toInt64)), .second, .val (.int (own_gf p1 p2)), .val (.int (own_rf p1 p2)), .unset, .unset, .unset, .unset, .unset, .unset, .unset] [(.int (2 : Int32)), (.int p4)])) _
    refine XS.iand X5.here hx rfl (hb hby at_54) rfl ?_
    show Steps p.tables e below (T5.setTop (mkF m 55 #[.val (.int p1), .val (.int p2), .val (.int p3), .val (.int p4), .val (.int (own_end p1)), .val (.long ((own_end p1).toInt64)), .second, .val (.int (own_gf p1 p2)), .val (.int (own_rf p1 p2)), .unset, .unset, .unset, .unset, .unset, .unset, .unset] [(.int (p4 &&& (2 : Int32)))])) _
    refine XS.ifYes X5.here hx rfl (pc0 := 55) (pc' := 72) rfl (hb hby at_55) rfl ((if0 _ _).trans (teq hc55).1) (by decide) (by decide) ?_
    show Steps p.tables e below (T5.setTop (mkF m 72 #[.val (.int p1), .val (.int p2), .val (.int p3), .val (.int p4), .val (.int (own_end p1)), .val (.long ((own_end p1).toInt64)), .second, .val (.int (own_gf p1 p2)), .val (.int (own_rf p1 p2)), .unset, .unset, .unset, .unset, .unset, .unset, .unset] [])) _
    refine XS.iloadN X5.here hx rfl (hb hby at_72) rfl ?_
    show Steps p.tables e below (T5.setTop (mkF m 73 #[.val (.int p1), .val (.int p2), .val (.int p3), .val (.int p4), .val (.int (own_end p1)), .val (.long ((own_end p1).toInt64)), .second, .val (.int (own_gf p1 p2)), .val (.int (own_rf p1 p2)), .unset, .unset, .unset, .unset, .unset, .unset, .unset] [(.int p3)])) _
    refine XS.i2l X5.here hx rfl (hb hby at_73) rfl ?_
    show Steps p.tables e below (T5.setTop (mkF m 74 #[.val (.int p1), .val (.int p2), .val (.int p3), .val (.int p4), .val (.int (own_end p1)), .val (.long ((own_end p1).toInt64)), .second, .val (.int (own_gf p1 p2)), .val (.int (own_rf p1 p2)), .unset, .unset, .unset, .unset, .unset, .unset, .unset] [(.long (p3.toInt64))])) _
    refine X5.ldc2Long hx hown (mvT hZ (hw _ (List.mem_of_getElem? (i := 5) rfl))) (g := (mkF m 74 #[.val (.int p1), .val (.int p2), .val (.int p3), .val (.int p4), .val (.int (own_end p1)), .val (.long ((own_end p1).toInt64)), .second, .val (.int (own_gf p1 p2)), .val (.int (own_rf p1 p2)), .unset, .unset, .unset, .unset, .unset, .unset, .unset] [(.long (p3.toInt64))])) rfl (hb hby at_74) _ ?_
    show Steps p.tables e below (T5.setTop (mkF m 77 #[.val (.int p1), .val (.int p2), .val (.int p3), .val (.int p4), .val (.int (own_end p1)), .val (.long ((own_end p1).toInt64)), .second, .val (.int (own_gf p1 p2)), .val (.int (own_rf p1 p2)), .unset, .unset, .unset, .unset, .unset, .unset, .unset] [(.long (2147483647 : Int64)), (.long (p3.toInt64))])) _
    refine XS.land X5.here hx rfl (hb hby at_77) rfl ?_
    show Steps p.tables e below (T5.setTop (mkF m 78 #[.val (.int p1), .val (.int p2), .val (.int p3), .val (.int p4), .val (.int (own_end p1)), .val (.long ((own_end p1).toInt64)), .second, .val (.int (own_gf p1 p2)), .val (.int (own_rf p1 p2)), .unset, .unset, .unset, .unset, .unset, .unset, .unset] [(.long ((p3.toInt64) &&& (2147483647 : Int64)))])) _
    refine XS.iload X5.here hx rfl (hb hby at_78) rfl ?_
    show Steps p.tables e below (T5.setTop (mkF m 80 #[.val (.int p1), .val (.int p2), .val (.int p3), .val (.int p4), .val (.int (own_end p1)), .val (.long ((own_end p1).toInt64)), .second, .val (.int (own_gf p1 p2)), .val (.int (own_rf p1 p2)), .unset, .unset, .unset, .unset, .unset, .unset, .unset] [(.int (own_rf p1 p2)), (.long ((p3.toInt64) &&& (2147483647 : Int64)))])) _
    refine XS.i2l X5.here hx rfl (hb hby at_80) rfl ?_
    show Steps p.tables e below (T5.setTop (mkF m 81 #[.val (.int p1), .val (.int p2), .val (.int p3), .val (.int p4), .val (.int (own_end p1)), .val (.long ((own_end p1).toInt64)), .second, .val (.int (own_gf p1 p2)), .val (.int (own_rf p1 p2)), .unset, .unset, .unset, .unset, .unset, .unset, .unset] [(.long ((own_rf p1 p2).toInt64)), (.long ((p3.toInt64) &&& (2147483647 : Int64)))])) _
    refine XS.lconst X5.here hx rfl (hb hby at_81) ?_
    show Steps p.tables e below (T5.setTop (mkF m 82 #[.val (.int p1), .val (.int p2), .val (.int p3), .val (.int p4), .val (.int (own_end p1)), .val (.long ((own_end p1).toInt64)), .second, .val (.int (own_gf p1 p2)), .val (.int (own_rf p1 p2)), .unset, .unset, .unset, .unset, .unset, .unset, .unset] [(.long (1 : Int64)), (.long ((own_rf p1 p2).toInt64)), (.long ((p3.toInt64) &&& (2147483647 : Int64)))])) _
    refine XS.ladd X5.here hx rfl (hb hby at_82) rfl ?_
    show Steps p.tables e below (T5.setTop (mkF m 83 #[.val (.int p1), .val (.int p2), .val (.int p3), .val (.int p4), .val (.int (own_end p1)), .val (.long ((own_end p1).toInt64)), .second, .val (.int (own_gf p1 p2)), .val (.int (own_rf p1 p2)), .unset, .unset, .unset, .unset, .unset, .unset, .unset] [(.long (((own_rf p1 p2).toInt64) + (1 : Int64))), (.long ((p3.toInt64) &&& (2147483647 : Int64)))])) _
    refine XS.lrem X5.here hx rfl (hb hby at_83) rfl (own_nz _ (own_rf_b p1 p2).1) ?_
    show Steps p.tables e below (T5.setTop (mkF m 84 #[.val (.int p1), .val (.int p2), .val (.int p3), .val (.int p4), .val (.int (own_end p1)), .val (.long ((own_end p1).toInt64)), .second, .val (.int (own_gf p1 p2)), .val (.int (own_rf p1 p2)), .unset, .unset, .unset, .unset, .unset, .unset, .unset] [(.long (((p3.toInt64) &&& (2147483647 : Int64)) - (((p3.toInt64) &&& (2147483647 : Int64)) / (((own_rf p1 p2).toInt64) + (1 : Int64))) * (((own_rf p1 p2).toInt64) + (1 : Int64))))])) _
    refine XS.l2i X5.here hx rfl (hb hby at_84) rfl ?_
    show Steps p.tables e below (T5.setTop (mkF m 85 #[.val (.int p1), .val (.int p2), .val (.int p3), .val (.int p4), .val (.int (own_end p1)), .val (.long ((own_end p1).toInt64)), .second, .val (.int (own_gf p1 p2)), .val (.int (own_rf p1 p2)), .unset, .unset, .unset, .unset, .unset, .unset, .unset] [(.int ((((p3.toInt64) &&& (2147483647 : Int64)) - (((p3.toInt64) &&& (2147483647 : Int64)) / (((own_rf p1 p2).toInt64) + (1 : Int64))) * (((own_rf p1 p2).toInt64) + (1 : Int64))).toInt32))])) _
    refine XS.istore X5.here hx rfl (hb hby at_85) rfl (l' := #[.val (.int p1), .val (.int p2), .val (.int p3), .val (.int p4), .val (.int (own_end p1)), .val (.long ((own_end p1).toInt64)), .second, .val (.int (own_gf p1 p2)), .val (.int (own_rf p1 p2)), .val (.int ((((p3.toInt64) &&& (2147483647 : Int64)) - (((p3.toInt64) &&& (2147483647 : Int64)) / (((own_rf p1 p2).toInt64) + (1 : Int64))) * (((own_rf p1 p2).toInt64) + (1 : Int64))).toInt32)), .unset, .unset, .unset, .unset, .unset, .unset]) rfl ?_
    show Steps p.tables e below (T5.setTop (mkF m 87 #[.val (.int p1), .val (.int p2), .val (.int p3), .val (.int p4), .val (.int (own_end p1)), .val (.long ((own_end p1).toInt64)), .second, .val (.int (own_gf p1 p2)), .val (.int (own_rf p1 p2)), .val (.int (own_bft p1 p2 p3)), .unset, .unset, .unset, .unset, .unset, .unset] [])) _
    refine XS.iload X5.here hx rfl (hb hby at_87) rfl ?_
    show Steps p.tables e below (T5.setTop (mkF m 89 #[.val (.int p1), .val (.int p2), .val (.int p3), .val (.int p4), .val (.int (own_end p1)), .val (.long ((own_end p1).toInt64)), .second, .val (.int (own_gf p1 p2)), .val (.int (own_rf p1 p2)), .val (.int (own_bft p1 p2 p3)), .unset, .unset, .unset, .unset, .unset, .unset] [(.int (own_rf p1 p2))])) _
    refine XS.iload X5.here hx rfl (hb hby at_89) rfl ?_
    show Steps p.tables e below (T5.setTop (mkF m 91 #[.val (.int p1), .val (.int p2), .val (.int p3), .val (.int p4), .val (.int (own_end p1)), .val (.long ((own_end p1).toInt64)), .second, .val (.int (own_gf p1 p2)), .val (.int (own_rf p1 p2)), .val (.int (own_bft p1 p2 p3)), .unset, .unset, .unset, .unset, .unset, .unset] [(.int (own_bft p1 p2 p3)), (.int (own_rf p1 p2))])) _
    refine XS.isub X5.here hx rfl (hb hby at_91) rfl ?_
    show Steps p.tables e below (T5.setTop (mkF m 92 #[.val (.int p1), .val (.int p2), .val (.int p3), .val (.int p4), .val (.int (own_end p1)), .val (.long ((own_end p1).toInt64)), .second, .val (.int (own_gf p1 p2)), .val (.int (own_rf p1 p2)), .val (.int (own_bft p1 p2 p3)), .unset, .unset, .unset, .unset, .unset, .unset] [(.int ((own_rf p1 p2) - (own_bft p1 p2 p3)))])) _
    refine XS.istore X5.here hx rfl (hb hby at_92) rfl (l' := #[.val (.int p1), .val (.int p2), .val (.int p3), .val (.int p4), .val (.int (own_end p1)), .val (.long ((own_end p1).toInt64)), .second, .val (.int (own_gf p1 p2)), .val (.int (own_rf p1 p2)), .val (.int (own_bft p1 p2 p3)), .val (.int ((own_rf p1 p2) - (own_bft p1 p2 p3))), .unset, .unset, .unset, .unset, .unset]) rfl ?_
    show Steps p.tables e below (T5.setTop (mkF m 94 #[.val (.int p1), .val (.int p2), .val (.int p3), .val (.int p4), .val (.int (own_end p1)), .val (.long ((own_end p1).toInt64)), .second, .val (.int (own_gf p1 p2)), .val (.int (own_rf p1 p2)), .val (.int (own_bft p1 p2 p3)), .val (.int (own_pft p1 p2 p3)), .unset, .unset, .unset, .unset, .unset] [])) _
    refine XS.iload X5.here hx rfl (hb hby at_94) rfl ?_
    show Steps p.tables e below (T5.setTop (mkF m 96 #[.val (.int p1), .val (.int p2), .val (.int p3), .val (.int p4), .val (.int (own_end p1)), .val (.long ((own_end p1).toInt64)), .second, .val (.int (own_gf p1 p2)), .val (.int (own_rf p1 p2)), .val (.int (own_bft p1 p2 p3)), .val (.int (own_pft p1 p2 p3)), .unset, .unset, .unset, .unset, .unset] [(.int (own_pft p1 p2 p3))])) _
    refine XS.iload X5.here hx rfl (hb hby at_96) rfl ?_
    show Steps p.tables e below (T5.setTop (mkF m 98 #[.val (.int p1), .val (.int p2), .val (.int p3), .val (.int p4), .val (.int (own_end p1)), .val (.long ((own_end p1).toInt64)), .second, .val (.int (own_gf p1 p2)), .val (.int (own_rf p1 p2)), .val (.int (own_bft p1 p2 p3)), .val (.int (own_pft p1 p2 p3)), .unset, .unset, .unset, .unset, .unset] [(.int (own_rf p1 p2)), (.int (own_pft p1 p2 p3))])) _
    refine XS.iload X5.here hx rfl (hb hby at_98) rfl ?_
    show Steps p.tables e below (T5.setTop (mkF m 100 #[.val (.int p1), .val (.int p2), .val (.int p3), .val (.int p4), .val (.int (own_end p1)), .val (.long ((own_end p1).toInt64)), .second, .val (.int (own_gf p1 p2)), .val (.int (own_rf p1 p2)), .val (.int (own_bft p1 p2 p3)), .val (.int (own_pft p1 p2 p3)), .unset, .unset, .unset, .unset, .unset] [(.int (own_end p1)), (.int (own_rf p1 p2)), (.int (own_pft p1 p2 p3))])) _
    refine st6 _ ?_
    show Steps p.tables e below (T6.setTop (mkF m 103 #[.val (.int p1), .val (.int p2), .val (.int p3), .val (.int p4), .val (.int (own_end p1)), .val (.long ((own_end p1).toInt64)), .second, .val (.int (own_gf p1 p2)), .val (.int (own_rf p1 p2)), .val (.int (own_bft p1 p2 p3)), .val (.int (own_pft p1 p2 p3)), .unset, .unset, .unset, .unset, .unset] [(.int (own_pa (own_pft p1 p2 p3) (own_rf p1 p2) (own_end p1)))])) _
    refine XS.istore X6.here hx rfl (hb hby at_103) rfl (l' := #[.val (.int p1), .val (.int p2), .val (.int p3), .val (.int p4), .val (.int (own_end p1)), .val (.long ((own_end p1).toInt64)), .second, .val (.int (own_gf p1 p2)), .val (.int (own_rf p1 p2)), .val (.int (own_bft p1 p2 p3)), .val (.int (own_pft p1 p2 p3)), .val (.int (own_pa (own_pft p1 p2 p3) (own_rf p1 p2) (own_end p1))), .unset, .unset, .unset, .unset]) rfl ?_
    show Steps p.tables e below (T6.setTop (mkF m 105 #[.val (.int p1), .val (.int p2), .val (.int p3), .val (.int p4), .val (.int (own_end p1)), .val (.long ((own_end p1).toInt64)), .second, .val (.int (own_gf p1 p2)), .val (.int (own_rf p1 p2)), .val (.int (own_bft p1 p2 p3)), .val (.int (own_pft p1 p2 p3)), .val (.int (own_pa (own_pft p1 p2 p3) (own_rf p1 p2) (own_end p1))), .unset, .unset, .unset, .unset] [])) _
    refine XS.iload X6.here hx rfl (hb hby at_105) rfl ?_
    show Steps p.tables e below (T6.setTop (mkF m 107 #[.val (.int p1), .val (.int p2), .val (.int p3), .val (.int p4), .val (.int (own_end p1)), .val (.long ((own_end p1).toInt64)), .second, .val (.int (own_gf p1 p2)), .val (.int (own_rf p1 p2)), .val (.int (own_bft p1 p2 p3)), .val (.int (own_pft p1 p2 p3)), .val (.int (own_pa (own_pft p1 p2 p3) (own_rf p1 p2) (own_end p1))), .unset, .unset, .unset, .unset] [(.int (own_rf p1 p2))])) _
    refine XS.i2l X6.here hx rfl (hb hby at_107) rfl ?_
    show Steps p.tables e below (T6.setTop (mkF m 108 #[.val (.int p1), .val (.int p2), .val (.int p3), .val (.int p4), .val (.int (own_end p1)), .val (.long ((own_end p1).toInt64)), .second, .val (.int (own_gf p1 p2)), .val (.int (own_rf p1 p2)), .val (.int (own_bft p1 p2 p3)), .val (.int (own_pft p1 p2 p3)), .val (.int (own_pa (own_pft p1 p2 p3) (own_rf p1 p2) (own_end p1))), .unset, .unset, .unset, .unset] [(.long ((own_rf p1 p2).toInt64))])) _
    refine XS.lload X6.here hx rfl (hb hby at_108) rfl ?_
    show Steps p.tables e below (T6.setTop (mkF m 110 #[.val (.int p1), .val (.int p2), .val (.int p3), .val (.int p4), .val (.int (own_end p1)), .val (.long ((own_end p1).toInt64)), .second, .val (.int (own_gf p1 p2)), .val (.int (own_rf p1 p2)), .val (.int (own_bft p1 p2 p3)), .val (.int (own_pft p1 p2 p3)), .val (.int (own_pa (own_pft p1 p2 p3) (own_rf p1 p2) (own_end p1))), .unset, .unset, .unset, .unset] [(.long ((own_end p1).toInt64)), (.long ((own_rf p1 p2).toInt64))])) _
    refine X6.ldc2Long hx hown (mvT hZ (hw _ (List.mem_of_getElem? (i := 10) rfl))) (g := (mkF m 110 #[.val (.int p1), .val (.int p2), .val (.int p3), .val (.int p4), .val (.int (own_end p1)), .val (.long ((own_end p1).toInt64)), .second, .val (.int (own_gf p1 p2)), .val (.int (own_rf p1 p2)), .val (.int (own_bft p1 p2 p3)), .val (.int (own_pft p1 p2 p3)), .val (.int (own_pa (own_pft p1 p2 p3) (own_rf p1 p2) (own_end p1))), .unset, .unset, .unset, .unset] [(.long ((own_end p1).toInt64)), (.long ((own_rf p1 p2).toInt64))])) rfl (hb hby at_110) _ ?_
    show Steps p.tables e below (T6.setTop (mkF m 113 #[.val (.int p1), .val (.int p2), .val (.int p3), .val (.int p4), .val (.int (own_end p1)), .val (.long ((own_end p1).toInt64)), .second, .val (.int (own_gf p1 p2)), .val (.int (own_rf p1 p2)), .val (.int (own_bft p1 p2 p3)), .val (.int (own_pft p1 p2 p3)), .val (.int (own_pa (own_pft p1 p2 p3) (own_rf p1 p2) (own_end p1))), .unset, .unset, .unset, .unset] [(.long (16 : Int64)), (.long ((own_end p1).toInt64)), (.long ((own_rf p1 p2).toInt64))])) _
    refine XS.lsub X6.here hx rfl (hb hby at_113) rfl ?_
    show Steps p.tables e below (T6.setTop (mkF m 114 #[.val (.int p1), .val (.int p2), .val (.int p3), .val (.int p4), .val (.int (own_end p1)), .val (.long ((own_end p1).toInt64)), .second, .val (.int (own_gf p1 p2)), .val (.int (own_rf p1 p2)), .val (.int (own_bft p1 p2 p3)), .val (.int (own_pft p1 p2 p3)), .val (.int (own_pa (own_pft p1 p2 p3) (own_rf p1 p2) (own_end p1))), .unset, .unset, .unset, .unset] [(.long (((own_end p1).toInt64) - (16 : Int64))), (.long ((own_rf p1 p2).toInt64))])) _
    refine XS.lcmp X6.here hx rfl (hb hby at_114) rfl ?_
    show Steps p.tables e below (T6.setTop (mkF m 115 #[.val (.int p1), .val (.int p2), .val (.int p3), .val (.int p4), .val (.int (own_end p1)), .val (.long ((own_end p1).toInt64)), .second, .val (.int (own_gf p1 p2)), .val (.int (own_rf p1 p2)), .val (.int (own_bft p1 p2 p3)), .val (.int (own_pft p1 p2 p3)), .val (.int (own_pa (own_pft p1 p2 p3) (own_rf p1 p2) (own_end p1))), .unset, .unset, .unset, .unset] [(.int (lcmpW ((own_rf p1 p2).toInt64) (((own_end p1).toInt64) - (16 : Int64))))])) _
    by_cases hc115 : (0 : Int32) < (lcmpW ((own_rf p1 p2).toInt64) (((own_end p1).toInt64) - (16 : Int64)))
    · refine XS.ifYes X6.here hx rfl (pc0 := 115) (pc' := 169) rfl (hb hby at_115) rfl ((if0 _ _).trans (tlt hc115).2.2.1) (by decide) (by decide) ?_
      show Steps p.tables e below (T6.setTop (mkF m 169 #[.val (.int p1), .val (.int p2), .val (.int p3), .val (.int p4), .val (.int (own_end p1)), .val (.long ((own_end p1).toInt64)), .second, .val (.int (own_gf p1 p2)), .val (.int (own_rf p1 p2)), .val (.int (own_bft p1 p2 p3)), .val (.int (own_pft p1 p2 p3)), .val (.int (own_pa (own_pft p1 p2 p3) (own_rf p1 p2) (own_end p1))), .unset, .unset, .unset, .unset] [])) _
      refine XS.iload X6.here hx rfl (hb hby at_169) rfl ?_
      show Steps p.tables e below (T6.setTop (mkF m 171 #[.val (.int p1), .val (.int p2), .val (.int p3), .val (.int p4), .val (.int (own_end p1)), .val (.long ((own_end p1).toInt64)), .second, .val (.int (own_gf p1 p2)), .val (.int (own_rf p1 p2)), .val (.int (own_bft p1 p2 p3)), .val (.int (own_pft p1 p2 p3)), .val (.int (own_pa (own_pft p1 p2 p3) (own_rf p1 p2) (own_end p1))), .unset, .unset, .unset, .unset] [(.int (own_pa (own_pft p1 p2 p3) (own_rf p1 p2) (own_end p1)))])) _
      refine XS.iload X6.here hx rfl (hb hby at_171) rfl ?_
      show Steps p.tables e below (T6.setTop (mkF m 173 #[.val (.int p1), .val (.int p2), .val (.int p3), .val (.int p4), .val (.int (own_end p1)), .val (.long ((own_end p1).toInt64)), .second, .val (.int (own_gf p1 p2)), .val (.int (own_rf p1 p2)), .val (.int (own_bft p1 p2 p3)), .val (.int (own_pft p1 p2 p3)), .val (.int (own_pa (own_pft p1 p2 p3) (own_rf p1 p2) (own_end p1))), .unset, .unset, .unset, .unset] [(.int (own_end p1)), (.int (own_pa (own_pft p1 p2 p3) (own_rf p1 p2) (own_end p1)))])) _
      refine XS.icmpNo X6.here hx rfl (hb hby at_173) rfl (teq (own_f2 _ _ _ (own_end_nn p1) hc115 : (own_pa (own_pft p1 p2 p3) (own_rf p1 p2) (own_end p1)) = (own_end p1))).2 ?_
      show Steps p.tables e below (T6.setTop (mkF m 176 #[.val (.int p1), .val (.int p2), .val (.int p3), .val (.int p4), .val (.int (own_end p1)), .val (.long ((own_end p1).toInt64)), .second, .val (.int (own_gf p1 p2)), .val (.int (own_rf p1 p2)), .val (.int (own_bft p1 p2 p3)), .val (.int (own_pft p1 p2 p3)), .val (.int (own_pa (own_pft p1 p2 p3) (own_rf p1 p2) (own_end p1))), .unset, .unset, .unset, .unset] [])) _
      refine XS.iconst X6.here hx rfl (hb hby at_176) ?_
      show Steps p.tables e below (T6.setTop (mkF m 177 #[.val (.int p1), .val (.int p2), .val (.int p3), .val (.int p4), .val (.int (own_end p1)), .val (.long ((own_end p1).toInt64)), .second, .val (.int (own_gf p1 p2)), .val (.int (own_rf p1 p2)), .val (.int (own_bft p1 p2 p3)), .val (.int (own_pft p1 p2 p3)), .val (.int (own_pa (own_pft p1 p2 p3) (own_rf p1 p2) (own_end p1))), .unset, .unset, .unset, .unset] [(.int (1 : Int32))])) _
      refine XS.goto X6.here hx rfl (pc0 := 177) (pc' := 181) rfl (hb hby at_177) (by decide) (by decide) ?_
      show Steps p.tables e below (T6.setTop (mkF m 181 #[.val (.int p1), .val (.int p2), .val (.int p3), .val (.int p4), .val (.int (own_end p1)), .val (.long ((own_end p1).toInt64)), .second, .val (.int (own_gf p1 p2)), .val (.int (own_rf p1 p2)), .val (.int (own_bft p1 p2 p3)), .val (.int (own_pft p1 p2 p3)), .val (.int (own_pa (own_pft p1 p2 p3) (own_rf p1 p2) (own_end p1))), .unset, .unset, .unset, .unset] [(.int (1 : Int32))])) _
      exact retN X6 hx (t := .boolean) Bd.returns (by simp) (hb hby at_181) hr
    · refine XS.ifNo X6.here hx rfl (hb hby at_115) rfl ((if0 _ _).trans (flt hc115).2.2.1) ?_
      show Steps p.tables e below (T6.setTop (mkF m 118 #[.val (.int p1), .val (.int p2), .val (.int p3), .val (.int p4), .val (.int (own_end p1)), .val (.long ((own_end p1).toInt64)), .second, .val (.int (own_gf p1 p2)), .val (.int (own_rf p1 p2)), .val (.int (own_bft p1 p2 p3)), .val (.int (own_pft p1 p2 p3)), .val (.int (own_pa (own_pft p1 p2 p3) (own_rf p1 p2) (own_end p1))), .unset, .unset, .unset, .unset] [])) _
      refine XS.iload X6.here hx rfl (hb hby at_118) rfl ?_
      show Steps p.tables e below (T6.setTop (mkF m 120 #[.val (.int p1), .val (.int p2), .val (.int p3), .val (.int p4), .val (.int (own_end p1)), .val (.long ((own_end p1).toInt64)), .second, .val (.int (own_gf p1 p2)), .val (.int (own_rf p1 p2)), .val (.int (own_bft p1 p2 p3)), .val (.int (own_pft p1 p2 p3)), .val (.int (own_pa (own_pft p1 p2 p3) (own_rf p1 p2) (own_end p1))), .unset, .unset, .unset, .unset] [(.int (own_pa (own_pft p1 p2 p3) (own_rf p1 p2) (own_end p1)))])) _
      refine XS.i2l X6.here hx rfl (hb hby at_120) rfl ?_
      show Steps p.tables e below (T6.setTop (mkF m 121 #[.val (.int p1), .val (.int p2), .val (.int p3), .val (.int p4), .val (.int (own_end p1)), .val (.long ((own_end p1).toInt64)), .second, .val (.int (own_gf p1 p2)), .val (.int (own_rf p1 p2)), .val (.int (own_bft p1 p2 p3)), .val (.int (own_pft p1 p2 p3)), .val (.int (own_pa (own_pft p1 p2 p3) (own_rf p1 p2) (own_end p1))), .unset, .unset, .unset, .unset] [(.long ((own_pa (own_pft p1 p2 p3) (own_rf p1 p2) (own_end p1)).toInt64))])) _
      refine XS.iload X6.here hx rfl (hb hby at_121) rfl ?_
      show Steps p.tables e below (T6.setTop (mkF m 123 #[.val (.int p1), .val (.int p2), .val (.int p3), .val (.int p4), .val (.int (own_end p1)), .val (.long ((own_end p1).toInt64)), .second, .val (.int (own_gf p1 p2)), .val (.int (own_rf p1 p2)), .val (.int (own_bft p1 p2 p3)), .val (.int (own_pft p1 p2 p3)), .val (.int (own_pa (own_pft p1 p2 p3) (own_rf p1 p2) (own_end p1))), .unset, .unset, .unset, .unset] [(.int (own_rf p1 p2)), (.long ((own_pa (own_pft p1 p2 p3) (own_rf p1 p2) (own_end p1)).toInt64))])) _
      refine XS.i2l X6.here hx rfl (hb hby at_123) rfl ?_
      show Steps p.tables e below (T6.setTop (mkF m 124 #[.val (.int p1), .val (.int p2), .val (.int p3), .val (.int p4), .val (.int (own_end p1)), .val (.long ((own_end p1).toInt64)), .second, .val (.int (own_gf p1 p2)), .val (.int (own_rf p1 p2)), .val (.int (own_bft p1 p2 p3)), .val (.int (own_pft p1 p2 p3)), .val (.int (own_pa (own_pft p1 p2 p3) (own_rf p1 p2) (own_end p1))), .unset, .unset, .unset, .unset] [(.long ((own_rf p1 p2).toInt64)), (.long ((own_pa (own_pft p1 p2 p3) (own_rf p1 p2) (own_end p1)).toInt64))])) _
      refine XS.lsub X6.here hx rfl (hb hby at_124) rfl ?_
      show Steps p.tables e below (T6.setTop (mkF m 125 #[.val (.int p1), .val (.int p2), .val (.int p3), .val (.int p4), .val (.int (own_end p1)), .val (.long ((own_end p1).toInt64)), .second, .val (.int (own_gf p1 p2)), .val (.int (own_rf p1 p2)), .val (.int (own_bft p1 p2 p3)), .val (.int (own_pft p1 p2 p3)), .val (.int (own_pa (own_pft p1 p2 p3) (own_rf p1 p2) (own_end p1))), .unset, .unset, .unset, .unset] [(.long (((own_pa (own_pft p1 p2 p3) (own_rf p1 p2) (own_end p1)).toInt64) - ((own_rf p1 p2).toInt64)))])) _
      refine XS.lstore X6.here hx rfl (hb hby at_125) rfl (l' := #[.val (.int p1), .val (.int p2), .val (.int p3), .val (.int p4), .val (.int (own_end p1)), .val (.long ((own_end p1).toInt64)), .second, .val (.int (own_gf p1 p2)), .val (.int (own_rf p1 p2)), .val (.int (own_bft p1 p2 p3)), .val (.int (own_pft p1 p2 p3)), .val (.int (own_pa (own_pft p1 p2 p3) (own_rf p1 p2) (own_end p1))), .val (.long (((own_pa (own_pft p1 p2 p3) (own_rf p1 p2) (own_end p1)).toInt64) - ((own_rf p1 p2).toInt64))), .second, .unset, .unset]) rfl ?_
      show Steps p.tables e below (T6.setTop (mkF m 127 #[.val (.int p1), .val (.int p2), .val (.int p3), .val (.int p4), .val (.int (own_end p1)), .val (.long ((own_end p1).toInt64)), .second, .val (.int (own_gf p1 p2)), .val (.int (own_rf p1 p2)), .val (.int (own_bft p1 p2 p3)), .val (.int (own_pft p1 p2 p3)), .val (.int (own_pa (own_pft p1 p2 p3) (own_rf p1 p2) (own_end p1))), .val (.long (((own_pa (own_pft p1 p2 p3) (own_rf p1 p2) (own_end p1)).toInt64) - ((own_rf p1 p2).toInt64))), .second, .unset, .unset] [])) _
      refine XS.iload X6.here hx rfl (hb hby at_127) rfl ?_
      show Steps p.tables e below (T6.setTop (mkF m 129 #[.val (.int p1), .val (.int p2), .val (.int p3), .val (.int p4), .val (.int (own_end p1)), .val (.long ((own_end p1).toInt64)), .second, .val (.int (own_gf p1 p2)), .val (.int (own_rf p1 p2)), .val (.int (own_bft p1 p2 p3)), .val (.int (own_pft p1 p2 p3)), .val (.int (own_pa (own_pft p1 p2 p3) (own_rf p1 p2) (own_end p1))), .val (.long (((own_pa (own_pft p1 p2 p3) (own_rf p1 p2) (own_end p1)).toInt64) - ((own_rf p1 p2).toInt64))), .second, .unset, .unset] [(.int (own_pa (own_pft p1 p2 p3) (own_rf p1 p2) (own_end p1)))])) _
      refine XS.i2l X6.here hx rfl (hb hby at_129) rfl ?_
      show Steps p.tables e below (T6.setTop (mkF m 130 #[.val (.int p1), .val (.int p2), .val (.int p3), .val (.int p4), .val (.int (own_end p1)), .val (.long ((own_end p1).toInt64)), .second, .val (.int (own_gf p1 p2)), .val (.int (own_rf p1 p2)), .val (.int (own_bft p1 p2 p3)), .val (.int (own_pft p1 p2 p3)), .val (.int (own_pa (own_pft p1 p2 p3) (own_rf p1 p2) (own_end p1))), .val (.long (((own_pa (own_pft p1 p2 p3) (own_rf p1 p2) (own_end p1)).toInt64) - ((own_rf p1 p2).toInt64))), .second, .unset, .unset] [(.long ((own_pa (own_pft p1 p2 p3) (own_rf p1 p2) (own_end p1)).toInt64))])) _
      refine XS.iload X6.here hx rfl (hb hby at_130) rfl ?_
      show Steps p.tables e below (T6.setTop (mkF m 132 #[.val (.int p1), .val (.int p2), .val (.int p3), .val (.int p4), .val (.int (own_end p1)), .val (.long ((own_end p1).toInt64)), .second, .val (.int (own_gf p1 p2)), .val (.int (own_rf p1 p2)), .val (.int (own_bft p1 p2 p3)), .val (.int (own_pft p1 p2 p3)), .val (.int (own_pa (own_pft p1 p2 p3) (own_rf p1 p2) (own_end p1))), .val (.long (((own_pa (own_pft p1 p2 p3) (own_rf p1 p2) (own_end p1)).toInt64) - ((own_rf p1 p2).toInt64))), .second, .unset, .unset] [(.int (own_pft p1 p2 p3)), (.long ((own_pa (own_pft p1 p2 p3) (own_rf p1 p2) (own_end p1)).toInt64))])) _
      refine XS.i2l X6.here hx rfl (hb hby at_132) rfl ?_
      show Steps p.tables e below (T6.setTop (mkF m 133 #[.val (.int p1), .val (.int p2), .val (.int p3), .val (.int p4), .val (.int (own_end p1)), .val (.long ((own_end p1).toInt64)), .second, .val (.int (own_gf p1 p2)), .val (.int (own_rf p1 p2)), .val (.int (own_bft p1 p2 p3)), .val (.int (own_pft p1 p2 p3)), .val (.int (own_pa (own_pft p1 p2 p3) (own_rf p1 p2) (own_end p1))), .val (.long (((own_pa (own_pft p1 p2 p3) (own_rf p1 p2) (own_end p1)).toInt64) - ((own_rf p1 p2).toInt64))), .second, .unset, .unset] [(.long ((own_pft p1 p2 p3).toInt64)), (.long ((own_pa (own_pft p1 p2 p3) (own_rf p1 p2) (own_end p1)).toInt64))])) _
      refine XS.lsub X6.here hx rfl (hb hby at_133) rfl ?_
      show Steps p.tables e below (T6.setTop (mkF m 134 #[.val (.int p1), .val (.int p2), .val (.int p3), .val (.int p4), .val (.int (own_end p1)), .val (.long ((own_end p1).toInt64)), .second, .val (.int (own_gf p1 p2)), .val (.int (own_rf p1 p2)), .val (.int (own_bft p1 p2 p3)), .val (.int (own_pft p1 p2 p3)), .val (.int (own_pa (own_pft p1 p2 p3) (own_rf p1 p2) (own_end p1))), .val (.long (((own_pa (own_pft p1 p2 p3) (own_rf p1 p2) (own_end p1)).toInt64) - ((own_rf p1 p2).toInt64))), .second, .unset, .unset] [(.long (((own_pa (own_pft p1 p2 p3) (own_rf p1 p2) (own_end p1)).toInt64) - ((own_pft p1 p2 p3).toInt64)))])) _
      refine XS.lstore X6.here hx rfl (hb hby at_134) rfl (l' := #[.val (.int p1), .val (.int p2), .val (.int p3), .val (.int p4), .val (.int (own_end p1)), .val (.long ((own_end p1).toInt64)), .second, .val (.int (own_gf p1 p2)), .val (.int (own_rf p1 p2)), .val (.int (own_bft p1 p2 p3)), .val (.int (own_pft p1 p2 p3)), .val (.int (own_pa (own_pft p1 p2 p3) (own_rf p1 p2) (own_end p1))), .val (.long (((own_pa (own_pft p1 p2 p3) (own_rf p1 p2) (own_end p1)).toInt64) - ((own_rf p1 p2).toInt64))), .second, .val (.long (((own_pa (own_pft p1 p2 p3) (own_rf p1 p2) (own_end p1)).toInt64) - ((own_pft p1 p2 p3).toInt64))), .second]) rfl ?_
      show Steps p.tables e below (T6.setTop (mkF m 136 #[.val (.int p1), .val (.int p2), .val (.int p3), .val (.int p4), .val (.int (own_end p1)), .val (.long ((own_end p1).toInt64)), .second, .val (.int (own_gf p1 p2)), .val (.int (own_rf p1 p2)), .val (.int (own_bft p1 p2 p3)), .val (.int (own_pft p1 p2 p3)), .val (.int (own_pa (own_pft p1 p2 p3) (own_rf p1 p2) (own_end p1))), .val (.long (((own_pa (own_pft p1 p2 p3) (own_rf p1 p2) (own_end p1)).toInt64) - ((own_rf p1 p2).toInt64))), .second, .val (.long (((own_pa (own_pft p1 p2 p3) (own_rf p1 p2) (own_end p1)).toInt64) - ((own_pft p1 p2 p3).toInt64))), .second] [])) _
      refine XS.lload X6.here hx rfl (hb hby at_136) rfl ?_
      show Steps p.tables e below (T6.setTop (mkF m 138 #[.val (.int p1), .val (.int p2), .val (.int p3), .val (.int p4), .val (.int (own_end p1)), .val (.long ((own_end p1).toInt64)), .second, .val (.int (own_gf p1 p2)), .val (.int (own_rf p1 p2)), .val (.int (own_bft p1 p2 p3)), .val (.int (own_pft p1 p2 p3)), .val (.int (own_pa (own_pft p1 p2 p3) (own_rf p1 p2) (own_end p1))), .val (.long (((own_pa (own_pft p1 p2 p3) (own_rf p1 p2) (own_end p1)).toInt64) - ((own_rf p1 p2).toInt64))), .second, .val (.long (((own_pa (own_pft p1 p2 p3) (own_rf p1 p2) (own_end p1)).toInt64) - ((own_pft p1 p2 p3).toInt64))), .second] [(.long (((own_pa (own_pft p1 p2 p3) (own_rf p1 p2) (own_end p1)).toInt64) - ((own_rf p1 p2).toInt64)))])) _
      refine XS.lconst X6.here hx rfl (hb hby at_138) ?_
      show Steps p.tables e below (T6.setTop (mkF m 139 #[.val (.int p1), .val (.int p2), .val (.int p3), .val (.int p4), .val (.int (own_end p1)), .val (.long ((own_end p1).toInt64)), .second, .val (.int (own_gf p1 p2)), .val (.int (own_rf p1 p2)), .val (.int (own_bft p1 p2 p3)), .val (.int (own_pft p1 p2 p3)), .val (.int (own_pa (own_pft p1 p2 p3) (own_rf p1 p2) (own_end p1))), .val (.long (((own_pa (own_pft p1 p2 p3) (own_rf p1 p2) (own_end p1)).toInt64) - ((own_rf p1 p2).toInt64))), .second, .val (.long (((own_pa (own_pft p1 p2 p3) (own_rf p1 p2) (own_end p1)).toInt64) - ((own_pft p1 p2 p3).toInt64))), .second] [(.long (0 : Int64)), (.long (((own_pa (own_pft p1 p2 p3) (own_rf p1 p2) (own_end p1)).toInt64) - ((own_rf p1 p2).toInt64)))])) _
      refine XS.lcmp X6.here hx rfl (hb hby at_139) rfl ?_
      show Steps p.tables e below (T6.setTop (mkF m 140 #[.val (.int p1), .val (.int p2), .val (.int p3), .val (.int p4), .val (.int (own_end p1)), .val (.long ((own_end p1).toInt64)), .second, .val (.int (own_gf p1 p2)), .val (.int (own_rf p1 p2)), .val (.int (own_bft p1 p2 p3)), .val (.int (own_pft p1 p2 p3)), .val (.int (own_pa (own_pft p1 p2 p3) (own_rf p1 p2) (own_end p1))), .val (.long (((own_pa (own_pft p1 p2 p3) (own_rf p1 p2) (own_end p1)).toInt64) - ((own_rf p1 p2).toInt64))), .second, .val (.long (((own_pa (own_pft p1 p2 p3) (own_rf p1 p2) (own_end p1)).toInt64) - ((own_pft p1 p2 p3).toInt64))), .second] [(.int (lcmpW (((own_pa (own_pft p1 p2 p3) (own_rf p1 p2) (own_end p1)).toInt64) - ((own_rf p1 p2).toInt64)) (0 : Int64)))])) _
      refine XS.ifNo X6.here hx rfl (hb hby at_140) rfl ((if0 _ _).trans (flt ((own_f1 _ _ _ (own_end_nn p1) (own_rf_b p1 p2) (own_pft_b p1 p2 p3) hc115).1 : ¬ ((lcmpW (((own_pa (own_pft p1 p2 p3) (own_rf p1 p2) (own_end p1)).toInt64) - ((own_rf p1 p2).toInt64)) (0 : Int64)) < (0 : Int32)))).1) ?_
      show Steps p.tables e below (T6.setTop (mkF m 143 #[.val (.int p1), .val (.int p2), .val (.int p3), .val (.int p4), .val (.int (own_end p1)), .val (.long ((own_end p1).toInt64)), .second, .val (.int (own_gf p1 p2)), .val (.int (own_rf p1 p2)), .val (.int (own_bft p1 p2 p3)), .val (.int (own_pft p1 p2 p3)), .val (.int (own_pa (own_pft p1 p2 p3) (own_rf p1 p2) (own_end p1))), .val (.long (((own_pa (own_pft p1 p2 p3) (own_rf p1 p2) (own_end p1)).toInt64) - ((own_rf p1 p2).toInt64))), .second, .val (.long (((own_pa (own_pft p1 p2 p3) (own_rf p1 p2) (own_end p1)).toInt64) - ((own_pft p1 p2 p3).toInt64))), .second] [])) _
      refine XS.lload X6.here hx rfl (hb hby at_143) rfl ?_
      show Steps p.tables e below (T6.setTop (mkF m 145 #[.val (.int p1), .val (.int p2), .val (.int p3), .val (.int p4), .val (.int (own_end p1)), .val (.long ((own_end p1).toInt64)), .second, .val (.int (own_gf p1 p2)), .val (.int (own_rf p1 p2)), .val (.int (own_bft p1 p2 p3)), .val (.int (own_pft p1 p2 p3)), .val (.int (own_pa (own_pft p1 p2 p3) (own_rf p1 p2) (own_end p1))), .val (.long (((own_pa (own_pft p1 p2 p3) (own_rf p1 p2) (own_end p1)).toInt64) - ((own_rf p1 p2).toInt64))), .second, .val (.long (((own_pa (own_pft p1 p2 p3) (own_rf p1 p2) (own_end p1)).toInt64) - ((own_pft p1 p2 p3).toInt64))), .second] [(.long (((own_pa (own_pft p1 p2 p3) (own_rf p1 p2) (own_end p1)).toInt64) - ((own_rf p1 p2).toInt64)))])) _
      refine X6.ldc2Long hx hown (mvT hZ (hw _ (List.mem_of_getElem? (i := 10) rfl))) (g := (mkF m 145 #[.val (.int p1), .val (.int p2), .val (.int p3), .val (.int p4), .val (.int (own_end p1)), .val (.long ((own_end p1).toInt64)), .second, .val (.int (own_gf p1 p2)), .val (.int (own_rf p1 p2)), .val (.int (own_bft p1 p2 p3)), .val (.int (own_pft p1 p2 p3)), .val (.int (own_pa (own_pft p1 p2 p3) (own_rf p1 p2) (own_end p1))), .val (.long (((own_pa (own_pft p1 p2 p3) (own_rf p1 p2) (own_end p1)).toInt64) - ((own_rf p1 p2).toInt64))), .second, .val (.long (((own_pa (own_pft p1 p2 p3) (own_rf p1 p2) (own_end p1)).toInt64) - ((own_pft p1 p2 p3).toInt64))), .second] [(.long (((own_pa (own_pft p1 p2 p3) (own_rf p1 p2) (own_end p1)).toInt64) - ((own_rf p1 p2).toInt64)))])) rfl (hb hby at_145) _ ?_
      show Steps p.tables e below (T6.setTop (mkF m 148 #[.val (.int p1), .val (.int p2), .val (.int p3), .val (.int p4), .val (.int (own_end p1)), .val (.long ((own_end p1).toInt64)), .second, .val (.int (own_gf p1 p2)), .val (.int (own_rf p1 p2)), .val (.int (own_bft p1 p2 p3)), .val (.int (own_pft p1 p2 p3)), .val (.int (own_pa (own_pft p1 p2 p3) (own_rf p1 p2) (own_end p1))), .val (.long (((own_pa (own_pft p1 p2 p3) (own_rf p1 p2) (own_end p1)).toInt64) - ((own_rf p1 p2).toInt64))), .second, .val (.long (((own_pa (own_pft p1 p2 p3) (own_rf p1 p2) (own_end p1)).toInt64) - ((own_pft p1 p2 p3).toInt64))), .second] [(.long (16 : Int64)), (.long (((own_pa (own_pft p1 p2 p3) (own_rf p1 p2) (own_end p1)).toInt64) - ((own_rf p1 p2).toInt64)))])) _
      refine XS.lcmp X6.here hx rfl (hb hby at_148) rfl ?_
      show Steps p.tables e below (T6.setTop (mkF m 149 #[.val (.int p1), .val (.int p2), .val (.int p3), .val (.int p4), .val (.int (own_end p1)), .val (.long ((own_end p1).toInt64)), .second, .val (.int (own_gf p1 p2)), .val (.int (own_rf p1 p2)), .val (.int (own_bft p1 p2 p3)), .val (.int (own_pft p1 p2 p3)), .val (.int (own_pa (own_pft p1 p2 p3) (own_rf p1 p2) (own_end p1))), .val (.long (((own_pa (own_pft p1 p2 p3) (own_rf p1 p2) (own_end p1)).toInt64) - ((own_rf p1 p2).toInt64))), .second, .val (.long (((own_pa (own_pft p1 p2 p3) (own_rf p1 p2) (own_end p1)).toInt64) - ((own_pft p1 p2 p3).toInt64))), .second] [(.int (lcmpW (((own_pa (own_pft p1 p2 p3) (own_rf p1 p2) (own_end p1)).toInt64) - ((own_rf p1 p2).toInt64)) (16 : Int64)))])) _
      refine XS.ifNo X6.here hx rfl (hb hby at_149) rfl ((if0 _ _).trans (tlt ((own_f1 _ _ _ (own_end_nn p1) (own_rf_b p1 p2) (own_pft_b p1 p2 p3) hc115).2.1 : (lcmpW (((own_pa (own_pft p1 p2 p3) (own_rf p1 p2) (own_end p1)).toInt64) - ((own_rf p1 p2).toInt64)) (16 : Int64)) < (0 : Int32))).2.1) ?_
      show Steps p.tables e below (T6.setTop (mkF m 152 #[.val (.int p1), .val (.int p2), .val (.int p3), .val (.int p4), .val (.int (own_end p1)), .val (.long ((own_end p1).toInt64)), .second, .val (.int (own_gf p1 p2)), .val (.int (own_rf p1 p2)), .val (.int (own_bft p1 p2 p3)), .val (.int (own_pft p1 p2 p3)), .val (.int (own_pa (own_pft p1 p2 p3) (own_rf p1 p2) (own_end p1))), .val (.long (((own_pa (own_pft p1 p2 p3) (own_rf p1 p2) (own_end p1)).toInt64) - ((own_rf p1 p2).toInt64))), .second, .val (.long (((own_pa (own_pft p1 p2 p3) (own_rf p1 p2) (own_end p1)).toInt64) - ((own_pft p1 p2 p3).toInt64))), .second] [])) _
      refine XS.lload X6.here hx rfl (hb hby at_152) rfl ?_
      show Steps p.tables e below (T6.setTop (mkF m 154 #[.val (.int p1), .val (.int p2), .val (.int p3), .val (.int p4), .val (.int (own_end p1)), .val (.long ((own_end p1).toInt64)), .second, .val (.int (own_gf p1 p2)), .val (.int (own_rf p1 p2)), .val (.int (own_bft p1 p2 p3)), .val (.int (own_pft p1 p2 p3)), .val (.int (own_pa (own_pft p1 p2 p3) (own_rf p1 p2) (own_end p1))), .val (.long (((own_pa (own_pft p1 p2 p3) (own_rf p1 p2) (own_end p1)).toInt64) - ((own_rf p1 p2).toInt64))), .second, .val (.long (((own_pa (own_pft p1 p2 p3) (own_rf p1 p2) (own_end p1)).toInt64) - ((own_pft p1 p2 p3).toInt64))), .second] [(.long (((own_pa (own_pft p1 p2 p3) (own_rf p1 p2) (own_end p1)).toInt64) - ((own_pft p1 p2 p3).toInt64)))])) _
      refine X6.ldc2Long hx hown (mvT hZ (hw _ (List.mem_of_getElem? (i := 11) rfl))) (g := (mkF m 154 #[.val (.int p1), .val (.int p2), .val (.int p3), .val (.int p4), .val (.int (own_end p1)), .val (.long ((own_end p1).toInt64)), .second, .val (.int (own_gf p1 p2)), .val (.int (own_rf p1 p2)), .val (.int (own_bft p1 p2 p3)), .val (.int (own_pft p1 p2 p3)), .val (.int (own_pa (own_pft p1 p2 p3) (own_rf p1 p2) (own_end p1))), .val (.long (((own_pa (own_pft p1 p2 p3) (own_rf p1 p2) (own_end p1)).toInt64) - ((own_rf p1 p2).toInt64))), .second, .val (.long (((own_pa (own_pft p1 p2 p3) (own_rf p1 p2) (own_end p1)).toInt64) - ((own_pft p1 p2 p3).toInt64))), .second] [(.long (((own_pa (own_pft p1 p2 p3) (own_rf p1 p2) (own_end p1)).toInt64) - ((own_pft p1 p2 p3).toInt64)))])) rfl (hb hby at_154) _ ?_
      show Steps p.tables e below (T6.setTop (mkF m 157 #[.val (.int p1), .val (.int p2), .val (.int p3), .val (.int p4), .val (.int (own_end p1)), .val (.long ((own_end p1).toInt64)), .second, .val (.int (own_gf p1 p2)), .val (.int (own_rf p1 p2)), .val (.int (own_bft p1 p2 p3)), .val (.int (own_pft p1 p2 p3)), .val (.int (own_pa (own_pft p1 p2 p3) (own_rf p1 p2) (own_end p1))), .val (.long (((own_pa (own_pft p1 p2 p3) (own_rf p1 p2) (own_end p1)).toInt64) - ((own_rf p1 p2).toInt64))), .second, .val (.long (((own_pa (own_pft p1 p2 p3) (own_rf p1 p2) (own_end p1)).toInt64) - ((own_pft p1 p2 p3).toInt64))), .second] [(.long (15 : Int64)), (.long (((own_pa (own_pft p1 p2 p3) (own_rf p1 p2) (own_end p1)).toInt64) - ((own_pft p1 p2 p3).toInt64)))])) _
      refine XS.land X6.here hx rfl (hb hby at_157) rfl ?_
      show Steps p.tables e below (T6.setTop (mkF m 158 #[.val (.int p1), .val (.int p2), .val (.int p3), .val (.int p4), .val (.int (own_end p1)), .val (.long ((own_end p1).toInt64)), .second, .val (.int (own_gf p1 p2)), .val (.int (own_rf p1 p2)), .val (.int (own_bft p1 p2 p3)), .val (.int (own_pft p1 p2 p3)), .val (.int (own_pa (own_pft p1 p2 p3) (own_rf p1 p2) (own_end p1))), .val (.long (((own_pa (own_pft p1 p2 p3) (own_rf p1 p2) (own_end p1)).toInt64) - ((own_rf p1 p2).toInt64))), .second, .val (.long (((own_pa (own_pft p1 p2 p3) (own_rf p1 p2) (own_end p1)).toInt64) - ((own_pft p1 p2 p3).toInt64))), .second] [(.long ((((own_pa (own_pft p1 p2 p3) (own_rf p1 p2) (own_end p1)).toInt64) - ((own_pft p1 p2 p3).toInt64)) &&& (15 : Int64)))])) _
      refine XS.lconst X6.here hx rfl (hb hby at_158) ?_
      show Steps p.tables e below (T6.setTop (mkF m 159 #[.val (.int p1), .val (.int p2), .val (.int p3), .val (.int p4), .val (.int (own_end p1)), .val (.long ((own_end p1).toInt64)), .second, .val (.int (own_gf p1 p2)), .val (.int (own_rf p1 p2)), .val (.int (own_bft p1 p2 p3)), .val (.int (own_pft p1 p2 p3)), .val (.int (own_pa (own_pft p1 p2 p3) (own_rf p1 p2) (own_end p1))), .val (.long (((own_pa (own_pft p1 p2 p3) (own_rf p1 p2) (own_end p1)).toInt64) - ((own_rf p1 p2).toInt64))), .second, .val (.long (((own_pa (own_pft p1 p2 p3) (own_rf p1 p2) (own_end p1)).toInt64) - ((own_pft p1 p2 p3).toInt64))), .second] [(.long (0 : Int64)), (.long ((((own_pa (own_pft p1 p2 p3) (own_rf p1 p2) (own_end p1)).toInt64) - ((own_pft p1 p2 p3).toInt64)) &&& (15 : Int64)))])) _
      refine XS.lcmp X6.here hx rfl (hb hby at_159) rfl ?_
      show Steps p.tables e below (T6.setTop (mkF m 160 #[.val (.int p1), .val (.int p2), .val (.int p3), .val (.int p4), .val (.int (own_end p1)), .val (.long ((own_end p1).toInt64)), .second, .val (.int (own_gf p1 p2)), .val (.int (own_rf p1 p2)), .val (.int (own_bft p1 p2 p3)), .val (.int (own_pft p1 p2 p3)), .val (.int (own_pa (own_pft p1 p2 p3) (own_rf p1 p2) (own_end p1))), .val (.long (((own_pa (own_pft p1 p2 p3) (own_rf p1 p2) (own_end p1)).toInt64) - ((own_rf p1 p2).toInt64))), .second, .val (.long (((own_pa (own_pft p1 p2 p3) (own_rf p1 p2) (own_end p1)).toInt64) - ((own_pft p1 p2 p3).toInt64))), .second] [(.int (lcmpW ((((own_pa (own_pft p1 p2 p3) (own_rf p1 p2) (own_end p1)).toInt64) - ((own_pft p1 p2 p3).toInt64)) &&& (15 : Int64)) (0 : Int64)))])) _
      refine XS.ifNo X6.here hx rfl (hb hby at_160) rfl ((if0 _ _).trans (teq ((own_f1 _ _ _ (own_end_nn p1) (own_rf_b p1 p2) (own_pft_b p1 p2 p3) hc115).2.2 : (lcmpW ((((own_pa (own_pft p1 p2 p3) (own_rf p1 p2) (own_end p1)).toInt64) - ((own_pft p1 p2 p3).toInt64)) &&& (15 : Int64)) (0 : Int64)) = (0 : Int32))).2) ?_
      show Steps p.tables e below (T6.setTop (mkF m 163 #[.val (.int p1), .val (.int p2), .val (.int p3), .val (.int p4), .val (.int (own_end p1)), .val (.long ((own_end p1).toInt64)), .second, .val (.int (own_gf p1 p2)), .val (.int (own_rf p1 p2)), .val (.int (own_bft p1 p2 p3)), .val (.int (own_pft p1 p2 p3)), .val (.int (own_pa (own_pft p1 p2 p3) (own_rf p1 p2) (own_end p1))), .val (.long (((own_pa (own_pft p1 p2 p3) (own_rf p1 p2) (own_end p1)).toInt64) - ((own_rf p1 p2).toInt64))), .second, .val (.long (((own_pa (own_pft p1 p2 p3) (own_rf p1 p2) (own_end p1)).toInt64) - ((own_pft p1 p2 p3).toInt64))), .second] [])) _
      refine XS.iconst X6.here hx rfl (hb hby at_163) ?_
      show Steps p.tables e below (T6.setTop (mkF m 164 #[.val (.int p1), .val (.int p2), .val (.int p3), .val (.int p4), .val (.int (own_end p1)), .val (.long ((own_end p1).toInt64)), .second, .val (.int (own_gf p1 p2)), .val (.int (own_rf p1 p2)), .val (.int (own_bft p1 p2 p3)), .val (.int (own_pft p1 p2 p3)), .val (.int (own_pa (own_pft p1 p2 p3) (own_rf p1 p2) (own_end p1))), .val (.long (((own_pa (own_pft p1 p2 p3) (own_rf p1 p2) (own_end p1)).toInt64) - ((own_rf p1 p2).toInt64))), .second, .val (.long (((own_pa (own_pft p1 p2 p3) (own_rf p1 p2) (own_end p1)).toInt64) - ((own_pft p1 p2 p3).toInt64))), .second] [(.int (1 : Int32))])) _
      refine XS.goto X6.here hx rfl (pc0 := 164) (pc' := 168) rfl (hb hby at_164) (by decide) (by decide) ?_
      show Steps p.tables e below (T6.setTop (mkF m 168 #[.val (.int p1), .val (.int p2), .val (.int p3), .val (.int p4), .val (.int (own_end p1)), .val (.long ((own_end p1).toInt64)), .second, .val (.int (own_gf p1 p2)), .val (.int (own_rf p1 p2)), .val (.int (own_bft p1 p2 p3)), .val (.int (own_pft p1 p2 p3)), .val (.int (own_pa (own_pft p1 p2 p3) (own_rf p1 p2) (own_end p1))), .val (.long (((own_pa (own_pft p1 p2 p3) (own_rf p1 p2) (own_end p1)).toInt64) - ((own_rf p1 p2).toInt64))), .second, .val (.long (((own_pa (own_pft p1 p2 p3) (own_rf p1 p2) (own_end p1)).toInt64) - ((own_pft p1 p2 p3).toInt64))), .second] [(.int (1 : Int32))])) _
      exact retN X6 hx (t := .boolean) Bd.returns (by simp) (hb hby at_168) hr
  · show Q0 Z p1 p2 p3 p4 h0 n0 _ T6.heap _
    exact ⟨rfl, N6⟩
def own_bff (p1 p2 p3 : Int32) : Int32 := own_mn p3 (own_rf p1 p2)
def own_pff (p1 p2 p3 : Int32) : Int32 := own_rf p1 p2 - own_bff p1 p2 p3
theorem own_pff_b (p1 p2 p3 : Int32) : 0 ≤ (own_pff p1 p2 p3).toInt ∧ (own_pff p1 p2 p3).toInt ≤ (own_rf p1 p2).toInt := by
  have h := (own_rf_b p1 p2).1
  have hg : 0 ≤ (own_bff p1 p2 p3).toInt ∧ (own_bff p1 p2 p3).toInt ≤ (own_rf p1 p2).toInt := own_mn_b _ _ h
  have q := own_sub_b h hg
  unfold own_pff; omega
set_option maxRecDepth 65536 in
set_option maxHeartbeats 40000000 in
theorem rm0_ff (l : Launch) (Z : State) (a0 : Array Value) (hw : ∀ d ∈ tables_1, d.before a0 Z = true) (ws : List Jvm.Cond) (p1 : Int32) (p2 : Int32) (p3 : Int32) (p4 : Int32) (h0 : Heap) (n0 : Nat) (Z0 : n0 ≤ h0.size) (hc14 : ¬ ((p4 &&& (1 : Int32)) = (0 : Int32))) (hc55 : ¬ ((p4 &&& (2 : Int32)) = (0 : Int32))) :
    MetFree l x (head1 (Jvm.Cond.code x code maxLocals ret :: ws) room_1) (fun a U => a = #[(.int p1), (.int p2), (.int p3), (.int p4)] ∧ Z.Warmed39 U.vm ∧ U.heap = h0) (fun _ _ _ _ _ => True) (fun _ U o U' => ∃ v L, o = .returned v ∧ Q0 Z p1 p2 p3 p4 h0 n0 v U'.heap L ∧ FrameEnd U o U' L room_1.cells room_1.slots) := by
  refine MetFree.of_bodySF (plainFor_of_name pn_0) hisR ?_
  intro p e s m args below meth c s₁ Bd hml0 hP hK
  obtain ⟨rfl, hZ, hh⟩ := hP
  have hx := Bd.exec
  have hby := Bd.bytes
  have hml : c.maxLocals = 16 := hml0
  have hown : s.vm.findClass "com/example/brevitree/brevitree/BlockPlannerProbeAfterPinLaw" = some m.cls := findClass_of_methodNamed Bd.named
  have hnm := (name_of_methodNamed Bd.named Bd.method).1
  have X0 : Stand p l e room_1 s m #[(.int p1), (.int p2), (.int p3), (.int p4)] below meth c s₁ [] 0 0 := Stand.of_body Bd
  have e0 : s₁.heap = h0 := by rw [← hh, Bd.state]; rfl
  have N0 := Fr.nil n0
  have pre0 : ∀ t, Steps p.tables e below (s₁.setTop (mkF m 0 #[.val (.int p1), .val (.int p2), .val (.int p3), .val (.int p4), .unset, .unset, .unset, .unset, .unset, .unset, .unset, .unset, .unset, .unset, .unset, .unset] [])) t → Steps p.tables e below (s₁.setTop (entryFrame m #[(.int p1), (.int p2), (.int p3), (.int p4)] maxLocals)) t := fun t k => castTop (ef_0 m p1 p2 p3 p4) k
  obtain ⟨_, _, ⟨T5, L5, k5, n5⟩, -, X5, ⟨Lc5, hQ5, l5, y5, z5⟩, st5⟩ := Jvm.LawKit.callS X0 hx (y := (⟨"java/lang/Math", "min", "(II)I"⟩ : MethodName)) hown (mvT hZ (hw _ (List.mem_of_getElem? (i := 1) rfl))) (mvT hZ (hw _ (List.mem_of_getElem? (i := 2) rfl))) (mvT hZ (hw _ (List.mem_of_getElem? (i := 3) rfl))) (mvT hZ (hw _ (List.mem_of_getElem? (i := 4) rfl))) (by decide) (backOf (W := 0) (rm1 l Z a0 hw [] (p2 &&& (63 : Int32)) (own_end p1) h0 n0 Z0) hZ (hw _ (List.mem_of_getElem? (i := 4) rfl)) (hw _ (List.mem_of_getElem? (i := 3) rfl)) (by decide) (by decide)) (g := (mkF m 23 #[.val (.int p1), .val (.int p2), .val (.int p3), .val (.int p4), .val (.int (own_end p1)), .val (.long ((own_end p1).toInt64)), .second, .unset, .unset, .unset, .unset, .unset, .unset, .unset, .unset, .unset] [(.int (own_end p1)), (.int (p2 &&& (63 : Int32)))])) rfl (by rw [hml]; rfl) (argsL := [(.int (p2 &&& (63 : Int32))), (.int (own_end p1))]) (rest := []) (lenOf pd_0_0 rfl) rfl (by show 2 * 0 + _ ≤ _; exact Nat.le_of_eq rfl) (hb hby at_23) (fun _ _ => ⟨rfl, e0, (by decide : 0 + 0 ≤ _), (by decide : 0 + 0 ≤ _)⟩)
  dsimp only [Pt.U, Pt.locs, Pt.cells, Pt.slots] at X5 l5 y5 z5 st5 hQ5
  subst l5 y5 z5
  obtain ⟨rfl, N5q, hs5⟩ := hQ5
  have N5 := Fr.app N0 N5q
  obtain ⟨_, _, ⟨T6, L6, k6, n6⟩, -, X6, ⟨Lc6, hQ6, l6, y6, z6⟩, st6⟩ := Jvm.LawKit.callS X5 hx (y := (⟨"java/lang/Math", "min", "(II)I"⟩ : MethodName)) hown (mvT hZ (hw _ (List.mem_of_getElem? (i := 1) rfl))) (mvT hZ (hw _ (List.mem_of_getElem? (i := 2) rfl))) (mvT hZ (hw _ (List.mem_of_getElem? (i := 3) rfl))) (mvT hZ (hw _ (List.mem_of_getElem? (i := 4) rfl))) (by decide) (backOf (W := 0) (rm1 l Z a0 hw [] (p3 &&& (63 : Int32)) (own_rf p1 p2) T5.heap n0 (by rw [hs5]; exact Z0)) hZ (hw _ (List.mem_of_getElem? (i := 4) rfl)) (hw _ (List.mem_of_getElem? (i := 3) rfl)) (by decide) (by decide)) (g := (mkF m 64 #[.val (.int p1), .val (.int p2), .val (.int p3), .val (.int p4), .val (.int (own_end p1)), .val (.long ((own_end p1).toInt64)), .second, .val (.int (own_gf p1 p2)), .val (.int (own_rf p1 p2)), .unset, .unset, .unset, .unset, .unset, .unset, .unset] [(.int (own_rf p1 p2)), (.int (p3 &&& (63 : Int32)))])) rfl (by rw [hml]; rfl) (argsL := [(.int (p3 &&& (63 : Int32))), (.int (own_rf p1 p2))]) (rest := []) (lenOf pd_0_0 rfl) rfl (by show 2 * 0 + _ ≤ _; exact Nat.le_of_eq rfl) (hb hby at_64) (fun _ _ => ⟨rfl, rfl, (by decide : 0 + 0 ≤ _), (by decide : 0 + 0 ≤ _)⟩)
  dsimp only [Pt.U, Pt.locs, Pt.cells, Pt.slots] at X6 l6 y6 z6 st6 hQ6
  subst l6 y6 z6
  obtain ⟨rfl, N6q, hs6⟩ := hQ6
  have N6 := Fr.app N5 N6q
  obtain ⟨_, _, ⟨T7, L7, k7, n7⟩, -, X7, ⟨Lc7, hQ7, l7, y7, z7⟩, st7⟩ := Jvm.LawKit.callS X6 hx (y := (⟨"com/example/brevitree/brevitree/BlockPlanner", "probeAfter", "(III)I"⟩ : MethodName)) hown (mvT hZ (hw _ (List.mem_of_getElem? (i := 6) rfl))) (mvT hZ (hw _ (List.mem_of_getElem? (i := 7) rfl))) (mvT hZ (hw _ (List.mem_of_getElem? (i := 8) rfl))) (mvT hZ (hw _ (List.mem_of_getElem? (i := 9) rfl))) (by decide) (backOf (W := 0) (rm2 l Z a0 hw [] (own_pff p1 p2 p3) (own_rf p1 p2) (own_end p1) T6.heap n0 (by rw [hs6, hs5]; exact Z0)) hZ (hw _ (List.mem_of_getElem? (i := 9) rfl)) (hw _ (List.mem_of_getElem? (i := 8) rfl)) (by decide) (by decide)) (g := (mkF m 100 #[.val (.int p1), .val (.int p2), .val (.int p3), .val (.int p4), .val (.int (own_end p1)), .val (.long ((own_end p1).toInt64)), .second, .val (.int (own_gf p1 p2)), .val (.int (own_rf p1 p2)), .val (.int (own_bff p1 p2 p3)), .val (.int (own_pff p1 p2 p3)), .unset, .unset, .unset, .unset, .unset] [(.int (own_end p1)), (.int (own_rf p1 p2)), (.int (own_pff p1 p2 p3))])) rfl (by rw [hml]; rfl) (argsL := [(.int (own_pff p1 p2 p3)), (.int (own_rf p1 p2)), (.int (own_end p1))]) (rest := []) (lenOf pd_0_1 rfl) rfl (by show 2 * 0 + _ ≤ _; exact Nat.le_of_eq rfl) (hb hby at_100) (fun _ _ => ⟨rfl, rfl, (by decide : 0 + 0 ≤ _), (by decide : 0 + 0 ≤ _)⟩)
  dsimp only [Pt.U, Pt.locs, Pt.cells, Pt.slots] at X7 l7 y7 z7 st7 hQ7
  subst l7 y7 z7
  obtain ⟨rfl, N7q, hs7⟩ := hQ7
  have N7 := Fr.app N6 N7q
  obtain ⟨fs, hr, hrun, hended, hW, hsame⟩ := X7.leave (v := some (.int (1 : Int32))) (fun h => by rw [Bd.returns] at h; cases h)
  refine ⟨_, _, pre0 _ ?_, hrun, hended, _, _, rfl, ?_, ⟨_, rfl⟩, hW, hsame.mono (by decide) (by decide)⟩
  · show Steps p.tables e below (s₁.setTop (mkF m 0 #[.val (.int p1), .val (.int p2), .val (.int p3), .val (.int p4), .unset, .unset, .unset, .unset, .unset, .unset, .unset, .unset, .unset, .unset, .unset, .unset] [])) _
    refine XS.iloadN X0.here hx rfl (hb hby at_0) rfl ?_
    show Steps p.tables e below (s₁.setTop (mkF m 1 #[.val (.int p1), .val (.int p2), .val (.int p3), .val (.int p4), .unset, .unset, .unset, .unset, .unset, .unset, .unset, .unset, .unset, .unset, .unset, .unset] [(.int p1)])) _
    refine X0.ldcInt hx hown (mvT hZ (hw _ (List.mem_of_getElem? (i := 0) rfl))) (g := (mkF m 1 #[.val (.int p1), .val (.int p2), .val (.int p3), .val (.int p4), .unset, .unset, .unset, .unset, .unset, .unset, .unset, .unset, .unset, .unset, .unset, .unset] [(.int p1)])) rfl (hb hby at_1) _ ?_
    show Steps p.tables e below (s₁.setTop (mkF m 3 #[.val (.int p1), .val (.int p2), .val (.int p3), .val (.int p4), .unset, .unset, .unset, .unset, .unset, .unset, .unset, .unset, .unset, .unset, .unset, .unset] [(.int (2147483647 : Int32)), (.int p1)])) _
    refine XS.iand X0.here hx rfl (hb hby at_3) rfl ?_
    show Steps p.tables e below (s₁.setTop (mkF m 4 #[.val (.int p1), .val (.int p2), .val (.int p3), .val (.int p4), .unset, .unset, .unset, .unset, .unset, .unset, .unset, .unset, .unset, .unset, .unset, .unset] [(.int (p1 &&& (2147483647 : Int32)))])) _
    refine XS.istore X0.here hx rfl (hb hby at_4) rfl (l' := #[.val (.int p1), .val (.int p2), .val (.int p3), .val (.int p4), .val (.int (p1 &&& (2147483647 : Int32))), .unset, .unset, .unset, .unset, .unset, .unset, .unset, .unset, .unset, .unset, .unset]) rfl ?_
    show Steps p.tables e below (s₁.setTop (mkF m 6 #[.val (.int p1), .val (.int p2), .val (.int p3), .val (.int p4), .val (.int (own_end p1)), .unset, .unset, .unset, .unset, .unset, .unset, .unset, .unset, .unset, .unset, .unset] [])) _
    refine XS.iload X0.here hx rfl (hb hby at_6) rfl ?_
    show Steps p.tables e below (s₁.setTop (mkF m 8 #[.val (.int p1), .val (.int p2), .val (.int p3), .val (.int p4), .val (.int (own_end p1)), .unset, .unset, .unset, .unset, .unset, .unset, .unset, .unset, .unset, .unset, .unset] [(.int (own_end p1))])) _
    refine XS.i2l X0.here hx rfl (hb hby at_8) rfl ?_
    show Steps p.tables e below (s₁.setTop (mkF m 9 #[.val (.int p1), .val (.int p2), .val (.int p3), .val (.int p4), .val (.int (own_end p1)), .unset, .unset, .unset, .unset, .unset, .unset, .unset, .unset, .unset, .unset, .unset] [(.long ((own_end p1).toInt64))])) _
    refine XS.lstore X0.here hx rfl (hb hby at_9) rfl (l' := #[.val (.int p1), .val (.int p2), .val (.int p3), .val (.int p4), .val (.int (own_end p1)), .val (.long ((own_end p1).toInt64)), .second, .unset, .unset, .unset, .unset, .unset, .unset, .unset, .unset, .unset]) rfl ?_
    show Steps p.tables e below (s₁.setTop (mkF m 11 #[.val (.int p1), .val (.int p2), .val (.int p3), .val (.int p4), .val (.int (own_end p1)), .val (.long ((own_end p1).toInt64)), .second, .unset, .unset, .unset, .unset, .unset, .unset, .unset, .unset, .unset] [])) _
    refine XS.iloadN X0.here hx rfl (hb hby at_11) rfl ?_
    show Steps p.tables e below (s₁.setTop (mkF m 12 #[.val (.int p1), .val (.int p2), .val (.int p3), .val (.int p4), .val (.int (own_end p1)), .val (.long ((own_end p1).toInt64)), .second, .unset, .unset, .unset, .unset, .unset, .unset, .unset, .unset, .unset] [(.int p4)])) _
    refine XS.iconst X0.here hx rfl (hb hby at_12) ?_
    show Steps p.tables e below (s₁.setTop (mkF m 13 #[.val (.int p1), .val (.int p2), .val (.int p3), .val (.int p4), .val (.int (own_end p1)), .val (.long ((own_end p1).toInt64)), .second, .unset, .unset, .unset, .unset, .unset, .unset, .unset, .unset, .unset] [(.int (1 : Int32)), (.int p4)])) _
    refine XS.iand X0.here hx rfl (hb hby at_13) rfl ?_
    show Steps p.tables e below (s₁.setTop (mkF m 14 #[.val (.int p1), .val (.int p2), .val (.int p3), .val (.int p4), .val (.int (own_end p1)), .val (.long ((own_end p1).toInt64)), .second, .unset, .unset, .unset, .unset, .unset, .unset, .unset, .unset, .unset] [(.int (p4 &&& (1 : Int32)))])) _
    refine XS.ifNo X0.here hx rfl (hb hby at_14) rfl ((if0 _ _).trans (feq hc14).1) ?_
    show Steps p.tables e below (s₁.setTop (mkF m 17 #[.val (.int p1), .val (.int p2), .val (.int p3), .val (.int p4), .val (.int (own_end p1)), .val (.long ((own_end p1).toInt64)), .second, .unset, .unset, .unset, .unset, .unset, .unset, .unset, .unset, .unset] [])) _
    refine XS.iloadN X0.here hx rfl (hb hby at_17) rfl ?_
    show Steps p.tables e below (s₁.setTop (mkF m 18 #[.val (.int p1), .val (.int p2), .val (.int p3), .val (.int p4), .val (.int (own_end p1)), .val (.long ((own_end p1).toInt64)), .second, .unset, .unset, .unset, .unset, .unset, .unset, .unset, .unset, .unset] [(.int p2)])) _
    refine XS.bipush X0.here hx rfl (hb hby at_18) ?_
    show Steps p.tables e below (s₁.setTop (mkF m 20 #[.val (.int p1), .val (.int p2), .val (.int p3), .val (.int p4), .val (.int (own_end p1)), .val (.long ((own_end p1).toInt64)), .second, .unset, .unset, .unset, .unset, .unset, .unset, .unset, .unset, .unset] [(.int (63 : Int32)), (.int p2)])) _
    refine XS.iand X0.here hx rfl (hb hby at_20) rfl ?_
    show Steps p.tables e below (s₁.setTop (mkF m 21 #[.val (.int p1), .val (.int p2), .val (.int p3), .val (.int p4), .val (.int (own_end p1)), .val (.long ((own_end p1).toInt64)), .second, .unset, .unset, .unset, .unset, .unset, .unset, .unset, .unset, .unset] [(.int (p2 &&& (63 : Int32)))])) _
    refine XS.iload X0.here hx rfl (hb hby at_21) rfl ?_
    show Steps p.tables e below (s₁.setTop (mkF m 23 #[.val (.int p1), .val (.int p2), .val (.int p3), .val (.int p4), .val (.int (own_end p1)), .val (.long ((own_end p1).toInt64)), .second, .unset, .unset, .unset, .unset, .unset, .unset, .unset, .unset, .unset] [(.int (own_end p1)), (.int (p2 &&& (63 : Int32)))])) _
    refine st5 _ ?_
    show Steps p.tables e below (T5.setTop (mkF m 26 #[.val (.int p1), .val (.int p2), .val (.int p3), .val (.int p4), .val (.int (own_end p1)), .val (.long ((own_end p1).toInt64)), .second, .unset, .unset, .unset, .unset, .unset, .unset, .unset, .unset, .unset] [(.int (own_min (p2 &&& (63 : Int32)) (own_end p1)))])) _
    refine XS.istore X5.here hx rfl (hb hby at_26) rfl (l' := #[.val (.int p1), .val (.int p2), .val (.int p3), .val (.int p4), .val (.int (own_end p1)), .val (.long ((own_end p1).toInt64)), .second, .val (.int (own_min (p2 &&& (63 : Int32)) (own_end p1))), .unset, .unset, .unset, .unset, .unset, .unset, .unset, .unset]) rfl ?_
    show Steps p.tables e below (T5.setTop (mkF m 28 #[.val (.int p1), .val (.int p2), .val (.int p3), .val (.int p4), .val (.int (own_end p1)), .val (.long ((own_end p1).toInt64)), .second, .val (.int (own_min (p2 &&& (63 : Int32)) (own_end p1))), .unset, .unset, .unset, .unset, .unset, .unset, .unset, .unset] [])) _
    refine XS.goto X5.here hx rfl (pc0 := 28) (pc' := 45) rfl (hb hby at_28) (by decide) (by decide) ?_
    show Steps p.tables e below (T5.setTop (mkF m 45 #[.val (.int p1), .val (.int p2), .val (.int p3), .val (.int p4), .val (.int (own_end p1)), .val (.long ((own_end p1).toInt64)), .second, .val (.int (own_gf p1 p2)), .unset, .unset, .unset, .unset, .unset, .unset, .unset, .unset] [])) _
    refine XS.iload X5.here hx rfl (hb hby at_45) rfl ?_
    show Steps p.tables e below (T5.setTop (mkF m 47 #[.val (.int p1), .val (.int p2), .val (.int p3), .val (.int p4), .val (.int (own_end p1)), .val (.long ((own_end p1).toInt64)), .second, .val (.int (own_gf p1 p2)), .unset, .unset, .unset, .unset, .unset, .unset, .unset, .unset] [(.int (own_end p1))])) _
    refine XS.iload X5.here hx rfl (hb hby at_47) rfl ?_
    show Steps p.tables e below (T5.setTop (mkF m 49 #[.val (.int p1), .val (.int p2), .val (.int p3), .val (.int p4), .val (.int (own_end p1)), .val (.long ((own_end p1).toInt64)), .second, .val (.int (own_gf p1 p2)), .unset, .unset, .unset, .unset, .unset, .unset, .unset, .unset] [(.int (own_gf p1 p2)), (.int (own_end p1))])) _
    refine XS.isub X5.here hx rfl (hb hby at_49) rfl ?_
    show Steps p.tables e below (T5.setTop (mkF m 50 #[.val (.int p1), .val (.int p2), .val (.int p3), .val (.int p4), .val (.int (own_end p1)), .val (.long ((own_end p1).toInt64)), .second, .val (.int (own_gf p1 p2)), .unset, .unset, .unset, .unset, .unset, .unset, .unset, .unset] [(.int ((own_end p1) - (own_gf p1 p2)))])) _
    refine XS.istore X5.here hx rfl (hb hby at_50) rfl (l' := #[.val (.int p1), .val (.int p2), .val (.int p3), .val (.int p4), .val (.int (own_end p1)), .val (.long ((own_end p1).toInt64)), .second, .val (.int (own_gf p1 p2)), .val (.int ((own_end p1) - (own_gf p1 p2))), .unset, .unset, .unset, .unset, .unset, .unset, .unset]) rfl ?_
    show Steps p.tables e below (T5.setTop (mkF m 52 #[.val (.int p1), .val (.int p2), .val (.int p3), .val (.int p4), .val (.int (own_end p1)), .val (.long ((own_end p1).toInt64)), .second, .val (.int (own_gf p1 p2)), .val (.int (own_rf p1 p2)), .unset, .unset, .unset, .unset, .unset, .unset, .unset] [])) _
    refine XS.iloadN X5.here hx rfl (hb hby at_52) rfl ?_
    show Steps p.tables e below (T5.setTop (mkF m 53 #[.val (.int p1), .val (.int p2), .val (.int p3), .val (.int p4), .val (.int (own_end p1)), .val (.long ((own_end p1).toInt64)), .second, .val (.int (own_gf p1 p2)), .val (.int (own_rf p1 p2)), .unset, .unset, .unset, .unset, .unset, .unset, .unset] [(.int p4)])) _
    refine XS.iconst X5.here hx rfl (hb hby at_53) ?_
    show Steps p.tables e below (T5.setTop (mkF m 54 #[.val (.int p1), .val (.int p2), .val (.int p3), .val (.int p4), .val (.int (own_end p1)), .val (.long ((own_end p1).toInt64)), .second, .val (.int (own_gf p1 p2)), .val (.int (own_rf p1 p2)), .unset, .unset, .unset, .unset, .unset, .unset, .unset] [(.int (2 : Int32)), (.int p4)])) _
    refine XS.iand X5.here hx rfl (hb hby at_54) rfl ?_
    show Steps p.tables e below (T5.setTop (mkF m 55 #[.val (.int p1), .val (.int p2), .val (.int p3), .val (.int p4), .val (.int (own_end p1)), .val (.long ((own_end p1).toInt64)), .second, .val (.int (own_gf p1 p2)), .val (.int (own_rf p1 p2)), .unset, .unset, .unset, .unset, .unset, .unset, .unset] [(.int (p4 &&& (2 : Int32)))])) _
    refine XS.ifNo X5.here hx rfl (hb hby at_55) rfl ((if0 _ _).trans (feq hc55).1) ?_
    show Steps p.tables e below (T5.setTop (mkF m 58 #[.val (.int p1), .val (.int p2), .val (.int p3), .val (.int p4), .val (.int (own_end p1)), .val (.long ((own_end p1).toInt64)), .second, .val (.int (own_gf p1 p2)), .val (.int (own_rf p1 p2)), .unset, .unset, .unset, .unset, .unset, .unset, .unset] [])) _
    refine XS.iloadN X5.here hx rfl (hb hby at_58) rfl ?_
    show Steps p.tables e below (T5.setTop (mkF m 59 #[.val (.int p1), .val (.int p2), .val (.int p3), .val (.int p4), .val (.int (own_end p1)), .val (.long ((own_end p1).toInt64)), .second, .val (.int (own_gf p1 p2)), .val (.int (own_rf p1 p2)), .unset, .unset, .unset, .unset, .unset, .unset, .unset] [(.int p3)])) _
    refine XS.bipush X5.here hx rfl (hb hby at_59) ?_
    show Steps p.tables e below (T5.setTop (mkF m 61 #[.val (.int p1), .val (.int p2), .val (.int p3), .val (.int p4), .val (.int (own_end p1)), .val (.long ((own_end p1).toInt64)), .second, .val (.int (own_gf p1 p2)), .val (.int (own_rf p1 p2)), .unset, .unset, .unset, .unset, .unset, .unset, .unset] [(.int (63 : Int32)), (.int p3)])) _
    refine XS.iand X5.here hx rfl (hb hby at_61) rfl ?_
    show Steps p.tables e below (T5.setTop (mkF m 62 #[.val (.int p1), .val (.int p2), .val (.int p3), .val (.int p4), .val (.int (own_end p1)), .val (.long ((own_end p1).toInt64)), .second, .val (.int (own_gf p1 p2)), .val (.int (own_rf p1 p2)), .unset, .unset, .unset, .unset, .unset, .unset, .unset] [(.int (p3 &&& (63 : Int32)))])) _
    refine XS.iload X5.here hx rfl (hb hby at_62) rfl ?_
    show Steps p.tables e below (T5.setTop (mkF m 64 #[.val (.int p1), .val (.int p2), .val (.int p3), .val (.int p4), .val (.int (own_end p1)), .val (.long ((own_end p1).toInt64)), .second, .val (.int (own_gf p1 p2)), .val (.int (own_rf p1 p2)), .unset, .unset, .unset, .unset, .unset, .unset, .unset] [(.int (own_rf p1 p2)), (.int (p3 &&& (63 : Int32)))])) _
    refine st6 _ ?_
    show Steps p.tables e below (T6.setTop (mkF m 67 #[.val (.int p1), .val (.int p2), .val (.int p3), .val (.int p4), .val (.int (own_end p1)), .val (.long ((own_end p1).toInt64)), .second, .val (.int (own_gf p1 p2)), .val (.int (own_rf p1 p2)), .unset, .unset, .unset, .unset, .unset, .unset, .unset] [(.int (own_min (p3 &&& (63 : Int32)) (own_rf p1 p2)))])) _
    refine XS.istore X6.here hx rfl (hb hby at_67) rfl (l' := #[.val (.int p1), .val (.int p2), .val (.int p3), .val (.int p4), .val (.int (own_end p1)), .val (.long ((own_end p1).toInt64)), .second, .val (.int (own_gf p1 p2)), .val (.int (own_rf p1 p2)), .val (.int (own_min (p3 &&& (63 : Int32)) (own_rf p1 p2))), .unset, .unset, .unset, .unset, .unset, .unset]) rfl ?_
    show Steps p.tables e below (T6.setTop (mkF m 69 #[.val (.int p1), .val (.int p2), .val (.int p3), .val (.int p4), .val (.int (own_end p1)), .val (.long ((own_end p1).toInt64)), .second, .val (.int (own_gf p1 p2)), .val (.int (own_rf p1 p2)), .val (.int (own_min (p3 &&& (63 : Int32)) (own_rf p1 p2))), .unset, .unset, .unset, .unset, .unset, .unset] [])) _
    refine XS.goto X6.here hx rfl (pc0 := 69) (pc' := 87) rfl (hb hby at_69) (by decide) (by decide) ?_
    show Steps p.tables e below (T6.setTop (mkF m 87 #[.val (.int p1), .val (.int p2), .val (.int p3), .val (.int p4), .val (.int (own_end p1)), .val (.long ((own_end p1).toInt64)), .second, .val (.int (own_gf p1 p2)), .val (.int (own_rf p1 p2)), .val (.int (own_bff p1 p2 p3)), .unset, .unset, .unset, .unset, .unset, .unset] [])) _
    refine XS.iload X6.here hx rfl (hb hby at_87) rfl ?_
    show Steps p.tables e below (T6.setTop (mkF m 89 #[.val (.int p1), .val (.int p2), .val (.int p3), .val (.int p4), .val (.int (own_end p1)), .val (.long ((own_end p1).toInt64)), .second, .val (.int (own_gf p1 p2)), .val (.int (own_rf p1 p2)), .val (.int (own_bff p1 p2 p3)), .unset, .unset, .unset, .unset, .unset, .unset] [(.int (own_rf p1 p2))])) _
    refine XS.iload X6.here hx rfl (hb hby at_89) rfl ?_
    show Steps p.tables e below (T6.setTop (mkF m 91 #[.val (.int p1), .val (.int p2), .val (.int p3), .val (.int p4), .val (.int (own_end p1)), .val (.long ((own_end p1).toInt64)), .second, .val (.int (own_gf p1 p2)), .val (.int (own_rf p1 p2)), .val (.int (own_bff p1 p2 p3)), .unset, .unset, .unset, .unset, .unset, .unset] [(.int (own_bff p1 p2 p3)), (.int (own_rf p1 p2))])) _
    refine XS.isub X6.here hx rfl (hb hby at_91) rfl ?_
    show Steps p.tables e below (T6.setTop (mkF m 92 #[.val (.int p1), .val (.int p2), .val (.int p3), .val (.int p4), .val (.int (own_end p1)), .val (.long ((own_end p1).toInt64)), .second, .val (.int (own_gf p1 p2)), .val (.int (own_rf p1 p2)), .val (.int (own_bff p1 p2 p3)), .unset, .unset, .unset, .unset, .unset, .unset] [(.int ((own_rf p1 p2) - (own_bff p1 p2 p3)))])) _
    refine XS.istore X6.here hx rfl (hb hby at_92) rfl (l' := #[.val (.int p1), .val (.int p2), .val (.int p3), .val (.int p4), .val (.int (own_end p1)), .val (.long ((own_end p1).toInt64)), .second, .val (.int (own_gf p1 p2)), .val (.int (own_rf p1 p2)), .val (.int (own_bff p1 p2 p3)), .val (.int ((own_rf p1 p2) - (own_bff p1 p2 p3))), .unset, .unset, .unset, .unset, .unset]) rfl ?_
    show Steps p.tables e below (T6.setTop (mkF m 94 #[.val (.int p1), .val (.int p2), .val (.int p3), .val (.int p4), .val (.int (own_end p1)), .val (.long ((own_end p1).toInt64)), .second, .val (.int (own_gf p1 p2)), .val (.int (own_rf p1 p2)), .val (.int (own_bff p1 p2 p3)), .val (.int (own_pff p1 p2 p3)), .unset, .unset, .unset, .unset, .unset] [])) _
    refine XS.iload X6.here hx rfl (hb hby at_94) rfl ?_
    show Steps p.tables e below (T6.setTop (mkF m 96 #[.val (.int p1), .val (.int p2), .val (.int p3), .val (.int p4), .val (.int (own_end p1)), .val (.long ((own_end p1).toInt64)), .second, .val (.int (own_gf p1 p2)), .val (.int (own_rf p1 p2)), .val (.int (own_bff p1 p2 p3)), .val (.int (own_pff p1 p2 p3)), .unset, .unset, .unset, .unset, .unset] [(.int (own_pff p1 p2 p3))])) _
    refine XS.iload X6.here hx rfl (hb hby at_96) rfl ?_
    show Steps p.tables e below (T6.setTop (mkF m 98 #[.val (.int p1), .val (.int p2), .val (.int p3), .val (.int p4), .val (.int (own_end p1)), .val (.long ((own_end p1).toInt64)), .second, .val (.int (own_gf p1 p2)), .val (.int (own_rf p1 p2)), .val (.int (own_bff p1 p2 p3)), .val (.int (own_pff p1 p2 p3)), .unset, .unset, .unset, .unset, .unset] [(.int (own_rf p1 p2)), (.int (own_pff p1 p2 p3))])) _
    refine XS.iload X6.here hx rfl (hb hby at_98) rfl ?_
    show Steps p.tables e below (T6.setTop (mkF m 100 #[.val (.int p1), .val (.int p2), .val (.int p3), .val (.int p4), .val (.int (own_end p1)), .val (.long ((own_end p1).toInt64)), .second, .val (.int (own_gf p1 p2)), .val (.int (own_rf p1 p2)), .val (.int (own_bff p1 p2 p3)), .val (.int (own_pff p1 p2 p3)), .unset, .unset, .unset, .unset, .unset] [(.int (own_end p1)), (.int (own_rf p1 p2)), (.int (own_pff p1 p2 p3))])) _
    refine st7 _ ?_
    show Steps p.tables e below (T7.setTop (mkF m 103 #[.val (.int p1), .val (.int p2), .val (.int p3), .val (.int p4), .val (.int (own_end p1)), .val (.long ((own_end p1).toInt64)), .second, .val (.int (own_gf p1 p2)), .val (.int (own_rf p1 p2)), .val (.int (own_bff p1 p2 p3)), .val (.int (own_pff p1 p2 p3)), .unset, .unset, .unset, .unset, .unset] [(.int (own_pa (own_pff p1 p2 p3) (own_rf p1 p2) (own_end p1)))])) _
    refine XS.istore X7.here hx rfl (hb hby at_103) rfl (l' := #[.val (.int p1), .val (.int p2), .val (.int p3), .val (.int p4), .val (.int (own_end p1)), .val (.long ((own_end p1).toInt64)), .second, .val (.int (own_gf p1 p2)), .val (.int (own_rf p1 p2)), .val (.int (own_bff p1 p2 p3)), .val (.int (own_pff p1 p2 p3)), .val (.int (own_pa (own_pff p1 p2 p3) (own_rf p1 p2) (own_end p1))), .unset, .unset, .unset, .unset]) rfl ?_
    show Steps p.tables e below (T7.setTop (mkF m 105 #[.val (.int p1), .val (.int p2), .val (.int p3), .val (.int p4), .val (.int (own_end p1)), .val (.long ((own_end p1).toInt64)), .second, .val (.int (own_gf p1 p2)), .val (.int (own_rf p1 p2)), .val (.int (own_bff p1 p2 p3)), .val (.int (own_pff p1 p2 p3)), .val (.int (own_pa (own_pff p1 p2 p3) (own_rf p1 p2) (own_end p1))), .unset, .unset, .unset, .unset] [])) _
    refine XS.iload X7.here hx rfl (hb hby at_105) rfl ?_
    show Steps p.tables e below (T7.setTop (mkF m 107 #[.val (.int p1), .val (.int p2), .val (.int p3), .val (.int p4), .val (.int (own_end p1)), .val (.long ((own_end p1).toInt64)), .second, .val (.int (own_gf p1 p2)), .val (.int (own_rf p1 p2)), .val (.int (own_bff p1 p2 p3)), .val (.int (own_pff p1 p2 p3)), .val (.int (own_pa (own_pff p1 p2 p3) (own_rf p1 p2) (own_end p1))), .unset, .unset, .unset, .unset] [(.int (own_rf p1 p2))])) _
    refine XS.i2l X7.here hx rfl (hb hby at_107) rfl ?_
    show Steps p.tables e below (T7.setTop (mkF m 108 #[.val (.int p1), .val (.int p2), .val (.int p3), .val (.int p4), .val (.int (own_end p1)), .val (.long ((own_end p1).toInt64)), .second, .val (.int (own_gf p1 p2)), .val (.int (own_rf p1 p2)), .val (.int (own_bff p1 p2 p3)), .val (.int (own_pff p1 p2 p3)), .val (.int (own_pa (own_pff p1 p2 p3) (own_rf p1 p2) (own_end p1))), .unset, .unset, .unset, .unset] [(.long ((own_rf p1 p2).toInt64))])) _
    refine XS.lload X7.here hx rfl (hb hby at_108) rfl ?_
    show Steps p.tables e below (T7.setTop (mkF m 110 #[.val (.int p1), .val (.int p2), .val (.int p3), .val (.int p4), .val (.int (own_end p1)), .val (.long ((own_end p1).toInt64)), .second, .val (.int (own_gf p1 p2)), .val (.int (own_rf p1 p2)), .val (.int (own_bff p1 p2 p3)), .val (.int (own_pff p1 p2 p3)), .val (.int (own_pa (own_pff p1 p2 p3) (own_rf p1 p2) (own_end p1))), .unset, .unset, .unset, .unset] [(.long ((own_end p1).toInt64)), (.long ((own_rf p1 p2).toInt64))])) _
    refine X7.ldc2Long hx hown (mvT hZ (hw _ (List.mem_of_getElem? (i := 10) rfl))) (g := (mkF m 110 #[.val (.int p1), .val (.int p2), .val (.int p3), .val (.int p4), .val (.int (own_end p1)), .val (.long ((own_end p1).toInt64)), .second, .val (.int (own_gf p1 p2)), .val (.int (own_rf p1 p2)), .val (.int (own_bff p1 p2 p3)), .val (.int (own_pff p1 p2 p3)), .val (.int (own_pa (own_pff p1 p2 p3) (own_rf p1 p2) (own_end p1))), .unset, .unset, .unset, .unset] [(.long ((own_end p1).toInt64)), (.long ((own_rf p1 p2).toInt64))])) rfl (hb hby at_110) _ ?_
    show Steps p.tables e below (T7.setTop (mkF m 113 #[.val (.int p1), .val (.int p2), .val (.int p3), .val (.int p4), .val (.int (own_end p1)), .val (.long ((own_end p1).toInt64)), .second, .val (.int (own_gf p1 p2)), .val (.int (own_rf p1 p2)), .val (.int (own_bff p1 p2 p3)), .val (.int (own_pff p1 p2 p3)), .val (.int (own_pa (own_pff p1 p2 p3) (own_rf p1 p2) (own_end p1))), .unset, .unset, .unset, .unset] [(.long (16 : Int64)), (.long ((own_end p1).toInt64)), (.long ((own_rf p1 p2).toInt64))])) _
    refine XS.lsub X7.here hx rfl (hb hby at_113) rfl ?_
    show Steps p.tables e below (T7.setTop (mkF m 114 #[.val (.int p1), .val (.int p2), .val (.int p3), .val (.int p4), .val (.int (own_end p1)), .val (.long ((own_end p1).toInt64)), .second, .val (.int (own_gf p1 p2)), .val (.int (own_rf p1 p2)), .val (.int (own_bff p1 p2 p3)), .val (.int (own_pff p1 p2 p3)), .val (.int (own_pa (own_pff p1 p2 p3) (own_rf p1 p2) (own_end p1))), .unset, .unset, .unset, .unset] [(.long (((own_end p1).toInt64) - (16 : Int64))), (.long ((own_rf p1 p2).toInt64))])) _
    refine XS.lcmp X7.here hx rfl (hb hby at_114) rfl ?_
    show Steps p.tables e below (T7.setTop (mkF m 115 #[.val (.int p1), .val (.int p2), .val (.int p3), .val (.int p4), .val (.int (own_end p1)), .val (.long ((own_end p1).toInt64)), .second, .val (.int (own_gf p1 p2)), .val (.int (own_rf p1 p2)), .val (.int (own_bff p1 p2 p3)), .val (.int (own_pff p1 p2 p3)), .val (.int (own_pa (own_pff p1 p2 p3) (own_rf p1 p2) (own_end p1))), .unset, .unset, .unset, .unset] [(.int (lcmpW ((own_rf p1 p2).toInt64) (((own_end p1).toInt64) - (16 : Int64))))])) _
    by_cases hc115 : (0 : Int32) < (lcmpW ((own_rf p1 p2).toInt64) (((own_end p1).toInt64) - (16 : Int64)))
    · refine XS.ifYes X7.here hx rfl (pc0 := 115) (pc' := 169) rfl (hb hby at_115) rfl ((if0 _ _).trans (tlt hc115).2.2.1) (by decide) (by decide) ?_
      show Steps p.tables e below (T7.setTop (mkF m 169 #[.val (.int p1), .val (.int p2), .val (.int p3), .val (.int p4), .val (.int (own_end p1)), .val (.long ((own_end p1).toInt64)), .second, .val (.int (own_gf p1 p2)), .val (.int (own_rf p1 p2)), .val (.int (own_bff p1 p2 p3)), .val (.int (own_pff p1 p2 p3)), .val (.int (own_pa (own_pff p1 p2 p3) (own_rf p1 p2) (own_end p1))), .unset, .unset, .unset, .unset] [])) _
      refine XS.iload X7.here hx rfl (hb hby at_169) rfl ?_
      show Steps p.tables e below (T7.setTop (mkF m 171 #[.val (.int p1), .val (.int p2), .val (.int p3), .val (.int p4), .val (.int (own_end p1)), .val (.long ((own_end p1).toInt64)), .second, .val (.int (own_gf p1 p2)), .val (.int (own_rf p1 p2)), .val (.int (own_bff p1 p2 p3)), .val (.int (own_pff p1 p2 p3)), .val (.int (own_pa (own_pff p1 p2 p3) (own_rf p1 p2) (own_end p1))), .unset, .unset, .unset, .unset] [(.int (own_pa (own_pff p1 p2 p3) (own_rf p1 p2) (own_end p1)))])) _
      refine XS.iload X7.here hx rfl (hb hby at_171) rfl ?_
      show Steps p.tables e below (T7.setTop (mkF m 173 #[.val (.int p1), .val (.int p2), .val (.int p3), .val (.int p4), .val (.int (own_end p1)), .val (.long ((own_end p1).toInt64)), .second, .val (.int (own_gf p1 p2)), .val (.int (own_rf p1 p2)), .val (.int (own_bff p1 p2 p3)), .val (.int (own_pff p1 p2 p3)), .val (.int (own_pa (own_pff p1 p2 p3) (own_rf p1 p2) (own_end p1))), .unset, .unset, .unset, .unset] [(.int (own_end p1)), (.int (own_pa (own_pff p1 p2 p3) (own_rf p1 p2) (own_end p1)))])) _
      refine XS.icmpNo X7.here hx rfl (hb hby at_173) rfl (teq (own_f2 _ _ _ (own_end_nn p1) hc115 : (own_pa (own_pff p1 p2 p3) (own_rf p1 p2) (own_end p1)) = (own_end p1))).2 ?_
      show Steps p.tables e below (T7.setTop (mkF m 176 #[.val (.int p1), .val (.int p2), .val (.int p3), .val (.int p4), .val (.int (own_end p1)), .val (.long ((own_end p1).toInt64)), .second, .val (.int (own_gf p1 p2)), .val (.int (own_rf p1 p2)), .val (.int (own_bff p1 p2 p3)), .val (.int (own_pff p1 p2 p3)), .val (.int (own_pa (own_pff p1 p2 p3) (own_rf p1 p2) (own_end p1))), .unset, .unset, .unset, .unset] [])) _
      refine XS.iconst X7.here hx rfl (hb hby at_176) ?_
      show Steps p.tables e below (T7.setTop (mkF m 177 #[.val (.int p1), .val (.int p2), .val (.int p3), .val (.int p4), .val (.int (own_end p1)), .val (.long ((own_end p1).toInt64)), .second, .val (.int (own_gf p1 p2)), .val (.int (own_rf p1 p2)), .val (.int (own_bff p1 p2 p3)), .val (.int (own_pff p1 p2 p3)), .val (.int (own_pa (own_pff p1 p2 p3) (own_rf p1 p2) (own_end p1))), .unset, .unset, .unset, .unset] [(.int (1 : Int32))])) _
      refine XS.goto X7.here hx rfl (pc0 := 177) (pc' := 181) rfl (hb hby at_177) (by decide) (by decide) ?_
      show Steps p.tables e below (T7.setTop (mkF m 181 #[.val (.int p1), .val (.int p2), .val (.int p3), .val (.int p4), .val (.int (own_end p1)), .val (.long ((own_end p1).toInt64)), .second, .val (.int (own_gf p1 p2)), .val (.int (own_rf p1 p2)), .val (.int (own_bff p1 p2 p3)), .val (.int (own_pff p1 p2 p3)), .val (.int (own_pa (own_pff p1 p2 p3) (own_rf p1 p2) (own_end p1))), .unset, .unset, .unset, .unset] [(.int (1 : Int32))])) _
      exact retN X7 hx (t := .boolean) Bd.returns (by simp) (hb hby at_181) hr
    · refine XS.ifNo X7.here hx rfl (hb hby at_115) rfl ((if0 _ _).trans (flt hc115).2.2.1) ?_
      show Steps p.tables e below (T7.setTop (mkF m 118 #[.val (.int p1), .val (.int p2), .val (.int p3), .val (.int p4), .val (.int (own_end p1)), .val (.long ((own_end p1).toInt64)), .second, .val (.int (own_gf p1 p2)), .val (.int (own_rf p1 p2)), .val (.int (own_bff p1 p2 p3)), .val (.int (own_pff p1 p2 p3)), .val (.int (own_pa (own_pff p1 p2 p3) (own_rf p1 p2) (own_end p1))), .unset, .unset, .unset, .unset] [])) _
      refine XS.iload X7.here hx rfl (hb hby at_118) rfl ?_
      show Steps p.tables e below (T7.setTop (mkF m 120 #[.val (.int p1), .val (.int p2), .val (.int p3), .val (.int p4), .val (.int (own_end p1)), .val (.long ((own_end p1).toInt64)), .second, .val (.int (own_gf p1 p2)), .val (.int (own_rf p1 p2)), .val (.int (own_bff p1 p2 p3)), .val (.int (own_pff p1 p2 p3)), .val (.int (own_pa (own_pff p1 p2 p3) (own_rf p1 p2) (own_end p1))), .unset, .unset, .unset, .unset] [(.int (own_pa (own_pff p1 p2 p3) (own_rf p1 p2) (own_end p1)))])) _
      refine XS.i2l X7.here hx rfl (hb hby at_120) rfl ?_
      show Steps p.tables e below (T7.setTop (mkF m 121 #[.val (.int p1), .val (.int p2), .val (.int p3), .val (.int p4), .val (.int (own_end p1)), .val (.long ((own_end p1).toInt64)), .second, .val (.int (own_gf p1 p2)), .val (.int (own_rf p1 p2)), .val (.int (own_bff p1 p2 p3)), .val (.int (own_pff p1 p2 p3)), .val (.int (own_pa (own_pff p1 p2 p3) (own_rf p1 p2) (own_end p1))), .unset, .unset, .unset, .unset] [(.long ((own_pa (own_pff p1 p2 p3) (own_rf p1 p2) (own_end p1)).toInt64))])) _
      refine XS.iload X7.here hx rfl (hb hby at_121) rfl ?_
      show Steps p.tables e below (T7.setTop (mkF m 123 #[.val (.int p1), .val (.int p2), .val (.int p3), .val (.int p4), .val (.int (own_end p1)), .val (.long ((own_end p1).toInt64)), .second, .val (.int (own_gf p1 p2)), .val (.int (own_rf p1 p2)), .val (.int (own_bff p1 p2 p3)), .val (.int (own_pff p1 p2 p3)), .val (.int (own_pa (own_pff p1 p2 p3) (own_rf p1 p2) (own_end p1))), .unset, .unset, .unset, .unset] [(.int (own_rf p1 p2)), (.long ((own_pa (own_pff p1 p2 p3) (own_rf p1 p2) (own_end p1)).toInt64))])) _
      refine XS.i2l X7.here hx rfl (hb hby at_123) rfl ?_
      show Steps p.tables e below (T7.setTop (mkF m 124 #[.val (.int p1), .val (.int p2), .val (.int p3), .val (.int p4), .val (.int (own_end p1)), .val (.long ((own_end p1).toInt64)), .second, .val (.int (own_gf p1 p2)), .val (.int (own_rf p1 p2)), .val (.int (own_bff p1 p2 p3)), .val (.int (own_pff p1 p2 p3)), .val (.int (own_pa (own_pff p1 p2 p3) (own_rf p1 p2) (own_end p1))), .unset, .unset, .unset, .unset] [(.long ((own_rf p1 p2).toInt64)), (.long ((own_pa (own_pff p1 p2 p3) (own_rf p1 p2) (own_end p1)).toInt64))])) _
      refine XS.lsub X7.here hx rfl (hb hby at_124) rfl ?_
      show Steps p.tables e below (T7.setTop (mkF m 125 #[.val (.int p1), .val (.int p2), .val (.int p3), .val (.int p4), .val (.int (own_end p1)), .val (.long ((own_end p1).toInt64)), .second, .val (.int (own_gf p1 p2)), .val (.int (own_rf p1 p2)), .val (.int (own_bff p1 p2 p3)), .val (.int (own_pff p1 p2 p3)), .val (.int (own_pa (own_pff p1 p2 p3) (own_rf p1 p2) (own_end p1))), .unset, .unset, .unset, .unset] [(.long (((own_pa (own_pff p1 p2 p3) (own_rf p1 p2) (own_end p1)).toInt64) - ((own_rf p1 p2).toInt64)))])) _
      refine XS.lstore X7.here hx rfl (hb hby at_125) rfl (l' := #[.val (.int p1), .val (.int p2), .val (.int p3), .val (.int p4), .val (.int (own_end p1)), .val (.long ((own_end p1).toInt64)), .second, .val (.int (own_gf p1 p2)), .val (.int (own_rf p1 p2)), .val (.int (own_bff p1 p2 p3)), .val (.int (own_pff p1 p2 p3)), .val (.int (own_pa (own_pff p1 p2 p3) (own_rf p1 p2) (own_end p1))), .val (.long (((own_pa (own_pff p1 p2 p3) (own_rf p1 p2) (own_end p1)).toInt64) - ((own_rf p1 p2).toInt64))), .second, .unset, .unset]) rfl ?_
      show Steps p.tables e below (T7.setTop (mkF m 127 #[.val (.int p1), .val (.int p2), .val (.int p3), .val (.int p4), .val (.int (own_end p1)), .val (.long ((own_end p1).toInt64)), .second, .val (.int (own_gf p1 p2)), .val (.int (own_rf p1 p2)), .val (.int (own_bff p1 p2 p3)), .val (.int (own_pff p1 p2 p3)), .val (.int (own_pa (own_pff p1 p2 p3) (own_rf p1 p2) (own_end p1))), .val (.long (((own_pa (own_pff p1 p2 p3) (own_rf p1 p2) (own_end p1)).toInt64) - ((own_rf p1 p2).toInt64))), .second, .unset, .unset] [])) _
      refine XS.iload X7.here hx rfl (hb hby at_127) rfl ?_
      show Steps p.tables e below (T7.setTop (mkF m 129 #[.val (.int p1), .val (.int p2), .val (.int p3), .val (.int p4), .val (.int (own_end p1)), .val (.long ((own_end p1).toInt64)), .second, .val (.int (own_gf p1 p2)), .val (.int (own_rf p1 p2)), .val (.int (own_bff p1 p2 p3)), .val (.int (own_pff p1 p2 p3)), .val (.int (own_pa (own_pff p1 p2 p3) (own_rf p1 p2) (own_end p1))), .val (.long (((own_pa (own_pff p1 p2 p3) (own_rf p1 p2) (own_end p1)).toInt64) - ((own_rf p1 p2).toInt64))), .second, .unset, .unset] [(.int (own_pa (own_pff p1 p2 p3) (own_rf p1 p2) (own_end p1)))])) _
      refine XS.i2l X7.here hx rfl (hb hby at_129) rfl ?_
      show Steps p.tables e below (T7.setTop (mkF m 130 #[.val (.int p1), .val (.int p2), .val (.int p3), .val (.int p4), .val (.int (own_end p1)), .val (.long ((own_end p1).toInt64)), .second, .val (.int (own_gf p1 p2)), .val (.int (own_rf p1 p2)), .val (.int (own_bff p1 p2 p3)), .val (.int (own_pff p1 p2 p3)), .val (.int (own_pa (own_pff p1 p2 p3) (own_rf p1 p2) (own_end p1))), .val (.long (((own_pa (own_pff p1 p2 p3) (own_rf p1 p2) (own_end p1)).toInt64) - ((own_rf p1 p2).toInt64))), .second, .unset, .unset] [(.long ((own_pa (own_pff p1 p2 p3) (own_rf p1 p2) (own_end p1)).toInt64))])) _
      refine XS.iload X7.here hx rfl (hb hby at_130) rfl ?_
      show Steps p.tables e below (T7.setTop (mkF m 132 #[.val (.int p1), .val (.int p2), .val (.int p3), .val (.int p4), .val (.int (own_end p1)), .val (.long ((own_end p1).toInt64)), .second, .val (.int (own_gf p1 p2)), .val (.int (own_rf p1 p2)), .val (.int (own_bff p1 p2 p3)), .val (.int (own_pff p1 p2 p3)), .val (.int (own_pa (own_pff p1 p2 p3) (own_rf p1 p2) (own_end p1))), .val (.long (((own_pa (own_pff p1 p2 p3) (own_rf p1 p2) (own_end p1)).toInt64) - ((own_rf p1 p2).toInt64))), .second, .unset, .unset] [(.int (own_pff p1 p2 p3)), (.long ((own_pa (own_pff p1 p2 p3) (own_rf p1 p2) (own_end p1)).toInt64))])) _
      refine XS.i2l X7.here hx rfl (hb hby at_132) rfl ?_
      show Steps p.tables e below (T7.setTop (mkF m 133 #[.val (.int p1), .val (.int p2), .val (.int p3), .val (.int p4), .val (.int (own_end p1)), .val (.long ((own_end p1).toInt64)), .second, .val (.int (own_gf p1 p2)), .val (.int (own_rf p1 p2)), .val (.int (own_bff p1 p2 p3)), .val (.int (own_pff p1 p2 p3)), .val (.int (own_pa (own_pff p1 p2 p3) (own_rf p1 p2) (own_end p1))), .val (.long (((own_pa (own_pff p1 p2 p3) (own_rf p1 p2) (own_end p1)).toInt64) - ((own_rf p1 p2).toInt64))), .second, .unset, .unset] [(.long ((own_pff p1 p2 p3).toInt64)), (.long ((own_pa (own_pff p1 p2 p3) (own_rf p1 p2) (own_end p1)).toInt64))])) _
      refine XS.lsub X7.here hx rfl (hb hby at_133) rfl ?_
      show Steps p.tables e below (T7.setTop (mkF m 134 #[.val (.int p1), .val (.int p2), .val (.int p3), .val (.int p4), .val (.int (own_end p1)), .val (.long ((own_end p1).toInt64)), .second, .val (.int (own_gf p1 p2)), .val (.int (own_rf p1 p2)), .val (.int (own_bff p1 p2 p3)), .val (.int (own_pff p1 p2 p3)), .val (.int (own_pa (own_pff p1 p2 p3) (own_rf p1 p2) (own_end p1))), .val (.long (((own_pa (own_pff p1 p2 p3) (own_rf p1 p2) (own_end p1)).toInt64) - ((own_rf p1 p2).toInt64))), .second, .unset, .unset] [(.long (((own_pa (own_pff p1 p2 p3) (own_rf p1 p2) (own_end p1)).toInt64) - ((own_pff p1 p2 p3).toInt64)))])) _
      refine XS.lstore X7.here hx rfl (hb hby at_134) rfl (l' := #[.val (.int p1), .val (.int p2), .val (.int p3), .val (.int p4), .val (.int (own_end p1)), .val (.long ((own_end p1).toInt64)), .second, .val (.int (own_gf p1 p2)), .val (.int (own_rf p1 p2)), .val (.int (own_bff p1 p2 p3)), .val (.int (own_pff p1 p2 p3)), .val (.int (own_pa (own_pff p1 p2 p3) (own_rf p1 p2) (own_end p1))), .val (.long (((own_pa (own_pff p1 p2 p3) (own_rf p1 p2) (own_end p1)).toInt64) - ((own_rf p1 p2).toInt64))), .second, .val (.long (((own_pa (own_pff p1 p2 p3) (own_rf p1 p2) (own_end p1)).toInt64) - ((own_pff p1 p2 p3).toInt64))), .second]) rfl ?_
      show Steps p.tables e below (T7.setTop (mkF m 136 #[.val (.int p1), .val (.int p2), .val (.int p3), .val (.int p4), .val (.int (own_end p1)), .val (.long ((own_end p1).toInt64)), .second, .val (.int (own_gf p1 p2)), .val (.int (own_rf p1 p2)), .val (.int (own_bff p1 p2 p3)), .val (.int (own_pff p1 p2 p3)), .val (.int (own_pa (own_pff p1 p2 p3) (own_rf p1 p2) (own_end p1))), .val (.long (((own_pa (own_pff p1 p2 p3) (own_rf p1 p2) (own_end p1)).toInt64) - ((own_rf p1 p2).toInt64))), .second, .val (.long (((own_pa (own_pff p1 p2 p3) (own_rf p1 p2) (own_end p1)).toInt64) - ((own_pff p1 p2 p3).toInt64))), .second] [])) _
      refine XS.lload X7.here hx rfl (hb hby at_136) rfl ?_
      show Steps p.tables e below (T7.setTop (mkF m 138 #[.val (.int p1), .val (.int p2), .val (.int p3), .val (.int p4), .val (.int (own_end p1)), .val (.long ((own_end p1).toInt64)), .second, .val (.int (own_gf p1 p2)), .val (.int (own_rf p1 p2)), .val (.int (own_bff p1 p2 p3)), .val (.int (own_pff p1 p2 p3)), .val (.int (own_pa (own_pff p1 p2 p3) (own_rf p1 p2) (own_end p1))), .val (.long (((own_pa (own_pff p1 p2 p3) (own_rf p1 p2) (own_end p1)).toInt64) - ((own_rf p1 p2).toInt64))), .second, .val (.long (((own_pa (own_pff p1 p2 p3) (own_rf p1 p2) (own_end p1)).toInt64) - ((own_pff p1 p2 p3).toInt64))), .second] [(.long (((own_pa (own_pff p1 p2 p3) (own_rf p1 p2) (own_end p1)).toInt64) - ((own_rf p1 p2).toInt64)))])) _
      refine XS.lconst X7.here hx rfl (hb hby at_138) ?_
      show Steps p.tables e below (T7.setTop (mkF m 139 #[.val (.int p1), .val (.int p2), .val (.int p3), .val (.int p4), .val (.int (own_end p1)), .val (.long ((own_end p1).toInt64)), .second, .val (.int (own_gf p1 p2)), .val (.int (own_rf p1 p2)), .val (.int (own_bff p1 p2 p3)), .val (.int (own_pff p1 p2 p3)), .val (.int (own_pa (own_pff p1 p2 p3) (own_rf p1 p2) (own_end p1))), .val (.long (((own_pa (own_pff p1 p2 p3) (own_rf p1 p2) (own_end p1)).toInt64) - ((own_rf p1 p2).toInt64))), .second, .val (.long (((own_pa (own_pff p1 p2 p3) (own_rf p1 p2) (own_end p1)).toInt64) - ((own_pff p1 p2 p3).toInt64))), .second] [(.long (0 : Int64)), (.long (((own_pa (own_pff p1 p2 p3) (own_rf p1 p2) (own_end p1)).toInt64) - ((own_rf p1 p2).toInt64)))])) _
      refine XS.lcmp X7.here hx rfl (hb hby at_139) rfl ?_
      show Steps p.tables e below (T7.setTop (mkF m 140 #[.val (.int p1), .val (.int p2), .val (.int p3), .val (.int p4), .val (.int (own_end p1)), .val (.long ((own_end p1).toInt64)), .second, .val (.int (own_gf p1 p2)), .val (.int (own_rf p1 p2)), .val (.int (own_bff p1 p2 p3)), .val (.int (own_pff p1 p2 p3)), .val (.int (own_pa (own_pff p1 p2 p3) (own_rf p1 p2) (own_end p1))), .val (.long (((own_pa (own_pff p1 p2 p3) (own_rf p1 p2) (own_end p1)).toInt64) - ((own_rf p1 p2).toInt64))), .second, .val (.long (((own_pa (own_pff p1 p2 p3) (own_rf p1 p2) (own_end p1)).toInt64) - ((own_pff p1 p2 p3).toInt64))), .second] [(.int (lcmpW (((own_pa (own_pff p1 p2 p3) (own_rf p1 p2) (own_end p1)).toInt64) - ((own_rf p1 p2).toInt64)) (0 : Int64)))])) _
      refine XS.ifNo X7.here hx rfl (hb hby at_140) rfl ((if0 _ _).trans (flt ((own_f1 _ _ _ (own_end_nn p1) (own_rf_b p1 p2) (own_pff_b p1 p2 p3) hc115).1 : ¬ ((lcmpW (((own_pa (own_pff p1 p2 p3) (own_rf p1 p2) (own_end p1)).toInt64) - ((own_rf p1 p2).toInt64)) (0 : Int64)) < (0 : Int32)))).1) ?_
      show Steps p.tables e below (T7.setTop (mkF m 143 #[.val (.int p1), .val (.int p2), .val (.int p3), .val (.int p4), .val (.int (own_end p1)), .val (.long ((own_end p1).toInt64)), .second, .val (.int (own_gf p1 p2)), .val (.int (own_rf p1 p2)), .val (.int (own_bff p1 p2 p3)), .val (.int (own_pff p1 p2 p3)), .val (.int (own_pa (own_pff p1 p2 p3) (own_rf p1 p2) (own_end p1))), .val (.long (((own_pa (own_pff p1 p2 p3) (own_rf p1 p2) (own_end p1)).toInt64) - ((own_rf p1 p2).toInt64))), .second, .val (.long (((own_pa (own_pff p1 p2 p3) (own_rf p1 p2) (own_end p1)).toInt64) - ((own_pff p1 p2 p3).toInt64))), .second] [])) _
      refine XS.lload X7.here hx rfl (hb hby at_143) rfl ?_
      show Steps p.tables e below (T7.setTop (mkF m 145 #[.val (.int p1), .val (.int p2), .val (.int p3), .val (.int p4), .val (.int (own_end p1)), .val (.long ((own_end p1).toInt64)), .second, .val (.int (own_gf p1 p2)), .val (.int (own_rf p1 p2)), .val (.int (own_bff p1 p2 p3)), .val (.int (own_pff p1 p2 p3)), .val (.int (own_pa (own_pff p1 p2 p3) (own_rf p1 p2) (own_end p1))), .val (.long (((own_pa (own_pff p1 p2 p3) (own_rf p1 p2) (own_end p1)).toInt64) - ((own_rf p1 p2).toInt64))), .second, .val (.long (((own_pa (own_pff p1 p2 p3) (own_rf p1 p2) (own_end p1)).toInt64) - ((own_pff p1 p2 p3).toInt64))), .second] [(.long (((own_pa (own_pff p1 p2 p3) (own_rf p1 p2) (own_end p1)).toInt64) - ((own_rf p1 p2).toInt64)))])) _
      refine X7.ldc2Long hx hown (mvT hZ (hw _ (List.mem_of_getElem? (i := 10) rfl))) (g := (mkF m 145 #[.val (.int p1), .val (.int p2), .val (.int p3), .val (.int p4), .val (.int (own_end p1)), .val (.long ((own_end p1).toInt64)), .second, .val (.int (own_gf p1 p2)), .val (.int (own_rf p1 p2)), .val (.int (own_bff p1 p2 p3)), .val (.int (own_pff p1 p2 p3)), .val (.int (own_pa (own_pff p1 p2 p3) (own_rf p1 p2) (own_end p1))), .val (.long (((own_pa (own_pff p1 p2 p3) (own_rf p1 p2) (own_end p1)).toInt64) - ((own_rf p1 p2).toInt64))), .second, .val (.long (((own_pa (own_pff p1 p2 p3) (own_rf p1 p2) (own_end p1)).toInt64) - ((own_pff p1 p2 p3).toInt64))), .second] [(.long (((own_pa (own_pff p1 p2 p3) (own_rf p1 p2) (own_end p1)).toInt64) - ((own_rf p1 p2).toInt64)))])) rfl (hb hby at_145) _ ?_
      show Steps p.tables e below (T7.setTop (mkF m 148 #[.val (.int p1), .val (.int p2), .val (.int p3), .val (.int p4), .val (.int (own_end p1)), .val (.long ((own_end p1).toInt64)), .second, .val (.int (own_gf p1 p2)), .val (.int (own_rf p1 p2)), .val (.int (own_bff p1 p2 p3)), .val (.int (own_pff p1 p2 p3)), .val (.int (own_pa (own_pff p1 p2 p3) (own_rf p1 p2) (own_end p1))), .val (.long (((own_pa (own_pff p1 p2 p3) (own_rf p1 p2) (own_end p1)).toInt64) - ((own_rf p1 p2).toInt64))), .second, .val (.long (((own_pa (own_pff p1 p2 p3) (own_rf p1 p2) (own_end p1)).toInt64) - ((own_pff p1 p2 p3).toInt64))), .second] [(.long (16 : Int64)), (.long (((own_pa (own_pff p1 p2 p3) (own_rf p1 p2) (own_end p1)).toInt64) - ((own_rf p1 p2).toInt64)))])) _
      refine XS.lcmp X7.here hx rfl (hb hby at_148) rfl ?_
      show Steps p.tables e below (T7.setTop (mkF m 149 #[.val (.int p1), .val (.int p2), .val (.int p3), .val (.int p4), .val (.int (own_end p1)), .val (.long ((own_end p1).toInt64)), .second, .val (.int (own_gf p1 p2)), .val (.int (own_rf p1 p2)), .val (.int (own_bff p1 p2 p3)), .val (.int (own_pff p1 p2 p3)), .val (.int (own_pa (own_pff p1 p2 p3) (own_rf p1 p2) (own_end p1))), .val (.long (((own_pa (own_pff p1 p2 p3) (own_rf p1 p2) (own_end p1)).toInt64) - ((own_rf p1 p2).toInt64))), .second, .val (.long (((own_pa (own_pff p1 p2 p3) (own_rf p1 p2) (own_end p1)).toInt64) - ((own_pff p1 p2 p3).toInt64))), .second] [(.int (lcmpW (((own_pa (own_pff p1 p2 p3) (own_rf p1 p2) (own_end p1)).toInt64) - ((own_rf p1 p2).toInt64)) (16 : Int64)))])) _
      refine XS.ifNo X7.here hx rfl (hb hby at_149) rfl ((if0 _ _).trans (tlt ((own_f1 _ _ _ (own_end_nn p1) (own_rf_b p1 p2) (own_pff_b p1 p2 p3) hc115).2.1 : (lcmpW (((own_pa (own_pff p1 p2 p3) (own_rf p1 p2) (own_end p1)).toInt64) - ((own_rf p1 p2).toInt64)) (16 : Int64)) < (0 : Int32))).2.1) ?_
      show Steps p.tables e below (T7.setTop (mkF m 152 #[.val (.int p1), .val (.int p2), .val (.int p3), .val (.int p4), .val (.int (own_end p1)), .val (.long ((own_end p1).toInt64)), .second, .val (.int (own_gf p1 p2)), .val (.int (own_rf p1 p2)), .val (.int (own_bff p1 p2 p3)), .val (.int (own_pff p1 p2 p3)), .val (.int (own_pa (own_pff p1 p2 p3) (own_rf p1 p2) (own_end p1))), .val (.long (((own_pa (own_pff p1 p2 p3) (own_rf p1 p2) (own_end p1)).toInt64) - ((own_rf p1 p2).toInt64))), .second, .val (.long (((own_pa (own_pff p1 p2 p3) (own_rf p1 p2) (own_end p1)).toInt64) - ((own_pff p1 p2 p3).toInt64))), .second] [])) _
      refine XS.lload X7.here hx rfl (hb hby at_152) rfl ?_
      show Steps p.tables e below (T7.setTop (mkF m 154 #[.val (.int p1), .val (.int p2), .val (.int p3), .val (.int p4), .val (.int (own_end p1)), .val (.long ((own_end p1).toInt64)), .second, .val (.int (own_gf p1 p2)), .val (.int (own_rf p1 p2)), .val (.int (own_bff p1 p2 p3)), .val (.int (own_pff p1 p2 p3)), .val (.int (own_pa (own_pff p1 p2 p3) (own_rf p1 p2) (own_end p1))), .val (.long (((own_pa (own_pff p1 p2 p3) (own_rf p1 p2) (own_end p1)).toInt64) - ((own_rf p1 p2).toInt64))), .second, .val (.long (((own_pa (own_pff p1 p2 p3) (own_rf p1 p2) (own_end p1)).toInt64) - ((own_pff p1 p2 p3).toInt64))), .second] [(.long (((own_pa (own_pff p1 p2 p3) (own_rf p1 p2) (own_end p1)).toInt64) - ((own_pff p1 p2 p3).toInt64)))])) _
      refine X7.ldc2Long hx hown (mvT hZ (hw _ (List.mem_of_getElem? (i := 11) rfl))) (g := (mkF m 154 #[.val (.int p1), .val (.int p2), .val (.int p3), .val (.int p4), .val (.int (own_end p1)), .val (.long ((own_end p1).toInt64)), .second, .val (.int (own_gf p1 p2)), .val (.int (own_rf p1 p2)), .val (.int (own_bff p1 p2 p3)), .val (.int (own_pff p1 p2 p3)), .val (.int (own_pa (own_pff p1 p2 p3) (own_rf p1 p2) (own_end p1))), .val (.long (((own_pa (own_pff p1 p2 p3) (own_rf p1 p2) (own_end p1)).toInt64) - ((own_rf p1 p2).toInt64))), .second, .val (.long (((own_pa (own_pff p1 p2 p3) (own_rf p1 p2) (own_end p1)).toInt64) - ((own_pff p1 p2 p3).toInt64))), .second] [(.long (((own_pa (own_pff p1 p2 p3) (own_rf p1 p2) (own_end p1)).toInt64) - ((own_pff p1 p2 p3).toInt64)))])) rfl (hb hby at_154) _ ?_
      show Steps p.tables e below (T7.setTop (mkF m 157 #[.val (.int p1), .val (.int p2), .val (.int p3), .val (.int p4), .val (.int (own_end p1)), .val (.long ((own_end p1).toInt64)), .second, .val (.int (own_gf p1 p2)), .val (.int (own_rf p1 p2)), .val (.int (own_bff p1 p2 p3)), .val (.int (own_pff p1 p2 p3)), .val (.int (own_pa (own_pff p1 p2 p3) (own_rf p1 p2) (own_end p1))), .val (.long (((own_pa (own_pff p1 p2 p3) (own_rf p1 p2) (own_end p1)).toInt64) - ((own_rf p1 p2).toInt64))), .second, .val (.long (((own_pa (own_pff p1 p2 p3) (own_rf p1 p2) (own_end p1)).toInt64) - ((own_pff p1 p2 p3).toInt64))), .second] [(.long (15 : Int64)), (.long (((own_pa (own_pff p1 p2 p3) (own_rf p1 p2) (own_end p1)).toInt64) - ((own_pff p1 p2 p3).toInt64)))])) _
      refine XS.land X7.here hx rfl (hb hby at_157) rfl ?_
      show Steps p.tables e below (T7.setTop (mkF m 158 #[.val (.int p1), .val (.int p2), .val (.int p3), .val (.int p4), .val (.int (own_end p1)), .val (.long ((own_end p1).toInt64)), .second, .val (.int (own_gf p1 p2)), .val (.int (own_rf p1 p2)), .val (.int (own_bff p1 p2 p3)), .val (.int (own_pff p1 p2 p3)), .val (.int (own_pa (own_pff p1 p2 p3) (own_rf p1 p2) (own_end p1))), .val (.long (((own_pa (own_pff p1 p2 p3) (own_rf p1 p2) (own_end p1)).toInt64) - ((own_rf p1 p2).toInt64))), .second, .val (.long (((own_pa (own_pff p1 p2 p3) (own_rf p1 p2) (own_end p1)).toInt64) - ((own_pff p1 p2 p3).toInt64))), .second] [(.long ((((own_pa (own_pff p1 p2 p3) (own_rf p1 p2) (own_end p1)).toInt64) - ((own_pff p1 p2 p3).toInt64)) &&& (15 : Int64)))])) _
      refine XS.lconst X7.here hx rfl (hb hby at_158) ?_
      show Steps p.tables e below (T7.setTop (mkF m 159 #[.val (.int p1), .val (.int p2), .val (.int p3), .val (.int p4), .val (.int (own_end p1)), .val (.long ((own_end p1).toInt64)), .second, .val (.int (own_gf p1 p2)), .val (.int (own_rf p1 p2)), .val (.int (own_bff p1 p2 p3)), .val (.int (own_pff p1 p2 p3)), .val (.int (own_pa (own_pff p1 p2 p3) (own_rf p1 p2) (own_end p1))), .val (.long (((own_pa (own_pff p1 p2 p3) (own_rf p1 p2) (own_end p1)).toInt64) - ((own_rf p1 p2).toInt64))), .second, .val (.long (((own_pa (own_pff p1 p2 p3) (own_rf p1 p2) (own_end p1)).toInt64) - ((own_pff p1 p2 p3).toInt64))), .second] [(.long (0 : Int64)), (.long ((((own_pa (own_pff p1 p2 p3) (own_rf p1 p2) (own_end p1)).toInt64) - ((own_pff p1 p2 p3).toInt64)) &&& (15 : Int64)))])) _
      refine XS.lcmp X7.here hx rfl (hb hby at_159) rfl ?_
      show Steps p.tables e below (T7.setTop (mkF m 160 #[.val (.int p1), .val (.int p2), .val (.int p3), .val (.int p4), .val (.int (own_end p1)), .val (.long ((own_end p1).toInt64)), .second, .val (.int (own_gf p1 p2)), .val (.int (own_rf p1 p2)), .val (.int (own_bff p1 p2 p3)), .val (.int (own_pff p1 p2 p3)), .val (.int (own_pa (own_pff p1 p2 p3) (own_rf p1 p2) (own_end p1))), .val (.long (((own_pa (own_pff p1 p2 p3) (own_rf p1 p2) (own_end p1)).toInt64) - ((own_rf p1 p2).toInt64))), .second, .val (.long (((own_pa (own_pff p1 p2 p3) (own_rf p1 p2) (own_end p1)).toInt64) - ((own_pff p1 p2 p3).toInt64))), .second] [(.int (lcmpW ((((own_pa (own_pff p1 p2 p3) (own_rf p1 p2) (own_end p1)).toInt64) - ((own_pff p1 p2 p3).toInt64)) &&& (15 : Int64)) (0 : Int64)))])) _
      refine XS.ifNo X7.here hx rfl (hb hby at_160) rfl ((if0 _ _).trans (teq ((own_f1 _ _ _ (own_end_nn p1) (own_rf_b p1 p2) (own_pff_b p1 p2 p3) hc115).2.2 : (lcmpW ((((own_pa (own_pff p1 p2 p3) (own_rf p1 p2) (own_end p1)).toInt64) - ((own_pff p1 p2 p3).toInt64)) &&& (15 : Int64)) (0 : Int64)) = (0 : Int32))).2) ?_
      show Steps p.tables e below (T7.setTop (mkF m 163 #[.val (.int p1), .val (.int p2), .val (.int p3), .val (.int p4), .val (.int (own_end p1)), .val (.long ((own_end p1).toInt64)), .second, .val (.int (own_gf p1 p2)), .val (.int (own_rf p1 p2)), .val (.int (own_bff p1 p2 p3)), .val (.int (own_pff p1 p2 p3)), .val (.int (own_pa (own_pff p1 p2 p3) (own_rf p1 p2) (own_end p1))), .val (.long (((own_pa (own_pff p1 p2 p3) (own_rf p1 p2) (own_end p1)).toInt64) - ((own_rf p1 p2).toInt64))), .second, .val (.long (((own_pa (own_pff p1 p2 p3) (own_rf p1 p2) (own_end p1)).toInt64) - ((own_pff p1 p2 p3).toInt64))), .second] [])) _
      refine XS.iconst X7.here hx rfl (hb hby at_163) ?_
      show Steps p.tables e below (T7.setTop (mkF m 164 #[.val (.int p1), .val (.int p2), .val (.int p3), .val (.int p4), .val (.int (own_end p1)), .val (.long ((own_end p1).toInt64)), .second, .val (.int (own_gf p1 p2)), .val (.int (own_rf p1 p2)), .val (.int (own_bff p1 p2 p3)), .val (.int (own_pff p1 p2 p3)), .val (.int (own_pa (own_pff p1 p2 p3) (own_rf p1 p2) (own_end p1))), .val (.long (((own_pa (own_pff p1 p2 p3) (own_rf p1 p2) (own_end p1)).toInt64) - ((own_rf p1 p2).toInt64))), .second, .val (.long (((own_pa (own_pff p1 p2 p3) (own_rf p1 p2) (own_end p1)).toInt64) - ((own_pff p1 p2 p3).toInt64))), .second] [(.int (1 : Int32))])) _
      refine XS.goto X7.here hx rfl (pc0 := 164) (pc' := 168) rfl (hb hby at_164) (by decide) (by decide) ?_
      show Steps p.tables e below (T7.setTop (mkF m 168 #[.val (.int p1), .val (.int p2), .val (.int p3), .val (.int p4), .val (.int (own_end p1)), .val (.long ((own_end p1).toInt64)), .second, .val (.int (own_gf p1 p2)), .val (.int (own_rf p1 p2)), .val (.int (own_bff p1 p2 p3)), .val (.int (own_pff p1 p2 p3)), .val (.int (own_pa (own_pff p1 p2 p3) (own_rf p1 p2) (own_end p1))), .val (.long (((own_pa (own_pff p1 p2 p3) (own_rf p1 p2) (own_end p1)).toInt64) - ((own_rf p1 p2).toInt64))), .second, .val (.long (((own_pa (own_pff p1 p2 p3) (own_rf p1 p2) (own_end p1)).toInt64) - ((own_pff p1 p2 p3).toInt64))), .second] [(.int (1 : Int32))])) _
      exact retN X7 hx (t := .boolean) Bd.returns (by simp) (hb hby at_168) hr
  · show Q0 Z p1 p2 p3 p4 h0 n0 _ T7.heap _
    exact ⟨rfl, N7⟩
set_option maxHeartbeats 4000000 in
theorem rm0 (l : Launch) (Z : State) (a0 : Array Value) (hw : ∀ d ∈ tables_1, d.before a0 Z = true) (ws : List Jvm.Cond) (p1 : Int32) (p2 : Int32) (p3 : Int32) (p4 : Int32) (h0 : Heap) (n0 : Nat) (Z0 : n0 ≤ h0.size) :
    MetFree l x (head1 (Jvm.Cond.code x code maxLocals ret :: ws) room_1) (fun a U => a = #[(.int p1), (.int p2), (.int p3), (.int p4)] ∧ Z.Warmed39 U.vm ∧ U.heap = h0) (fun _ _ _ _ _ => True) (fun _ U o U' => ∃ v L, o = .returned v ∧ Q0 Z p1 p2 p3 p4 h0 n0 v U'.heap L ∧ FrameEnd U o U' L room_1.cells room_1.slots) := by
  by_cases g1 : (p4 &&& (1 : Int32)) = (0 : Int32)
  · by_cases g2 : (p4 &&& (2 : Int32)) = (0 : Int32)
    · exact rm0_tt l Z a0 hw ws p1 p2 p3 p4 h0 n0 Z0 g1 g2
    · exact rm0_tf l Z a0 hw ws p1 p2 p3 p4 h0 n0 Z0 g1 g2
  · by_cases g2 : (p4 &&& (2 : Int32)) = (0 : Int32)
    · exact rm0_ft l Z a0 hw ws p1 p2 p3 p4 h0 n0 Z0 g1 g2
    · exact rm0_ff l Z a0 hw ws p1 p2 p3 p4 h0 n0 Z0 g1 g2
set_option maxRecDepth 65536 in
set_option maxHeartbeats 40000000 in
theorem comes_1 {Post : Tables → Env → Array Value → State → Outcome → State → Prop} (hpost : ∀ tb e args s v u, (limb_1_1.after args s (.returned v) u = true ∧ limb_1_2.after args s (.returned v) u = true ∧ True) → FrameEnd s (.returned v) u (Jvm.fieldLocs frame_1_writes args s ++ Jvm.arrayLocs frame_1_arrays args s ++ Jvm.staticLocs frame_1_statics s) 0 0 → Post tb e args s (.returned v) u) :
    ArmFor flags0 classFile x code maxLocals ret World_1 tables_1 room_1 Calls_1 rest_1 Pre_1 Post := by
  intro l hfl _ _ p e ha hc hk s m args below hf hA hF happ hP
  obtain ⟨hcalls, hrest, hpre⟩ := hP
  obtain ⟨-, -, -, hnamed, -, -, -, hat⟩ := (Spec.applies_iff hf).mp happ
  obtain ⟨hg, hn⟩ := and_e (Cond.before_iff.mp (show (Jvm.Cond.and given_1 narrow_1).before args s = true from hpre))
  obtain ⟨g6, g7⟩ := and_e hg
  obtain ⟨g8, g9⟩ := and_e g7
  obtain ⟨g10, g11⟩ := and_e g9
  obtain ⟨g12, g13⟩ := and_e g11
  obtain ⟨w0, w1, w2, w3, rfl⟩ : ∃ w0 w1 w2 w3 : Value, args = #[w0, w1, w2, w3] := by
    have hs : args.size = 4 := by simpa [Cond.value, given_1] using g6
    obtain ⟨L⟩ := args
    match L, hs with
    | [w0, w1, w2, w3], _ => exact ⟨w0, w1, w2, w3, rfl⟩
  have hw := fun d (hd : d ∈ tables_1) => atoms_spec (ws := Jvm.Cond.code x code maxLocals ret :: tables_1) hat d (List.mem_cons_of_mem _ hd)
  have hfit : Fit s := fun {y c} hc i hi => by
    obtain ⟨ha, rfl⟩ := Array.getElem?_eq_some_iff.mp hc
    have q := List.all_eq_true.mp ((Array.all_eq_true_iff_forall_mem.mp hF) _ (Array.getElem_mem ha)) i (List.mem_range.mpr hi)
    simpa [Array.getElem?_eq_getElem hi] using q
  obtain ⟨i0, ei0⟩ := is_v g8
  obtain rfl : w0 = (.int i0) := Option.some.inj ei0
  obtain ⟨i1, ei1⟩ := is_v g10
  obtain rfl : w1 = (.int i1) := Option.some.inj ei1
  obtain ⟨i2, ei2⟩ := is_v g12
  obtain rfl : w2 = (.int i2) := Option.some.inj ei2
  obtain ⟨i3, ei3⟩ := is_v g13
  obtain rfl : w3 = (.int i3) := Option.some.inj ei3
  obtain ⟨n, o, h1, h2, h3, _, L, rfl, ⟨rfl, N⟩, hq⟩ := rm0 l s _ hw tables_1 i0 i1 i2 i3 s.heap s.heap.size (Nat.le_refl _) p e ha hc hk s m _ below hf ((Spec.applies_iff_loose hf).mp happ).1 ⟨rfl, State.Warmed39.refl s, rfl⟩ trivial
  refine ⟨n, _, h1, h2, h3, hpost _ _ _ _ _ _ ⟨Cond.after_iff.mpr rfl, Cond.after_iff.mpr (eq_i res_at (Term.int_eval (1)) rfl), trivial⟩ ⟨hq.1, hq.2.1, (hq.2.2.sift fun y hy => Or.inr (N y hy)).mono (by decide) (by decide)⟩⟩
theorem main_1_1 : Claimed_1_1 := comes_1 fun _ _ _ _ _ _ h hF => ⟨h.1, hF⟩
theorem main_1_2 : Claimed_1_2 := comes_1 fun _ _ _ _ _ _ h hF => ⟨h.2.1, hF⟩
end Jvm.Pilot.@@N@@
namespace Jvm.Pilot.@@N@@
open Jvm Jvm.ClassFile Sem Op Lib Jvm.Free Jvm.Stand Jvm.Pilot.@@N@@.Jvm.D
/-! MADE BY PROGRAM (witnessworld.py) out of the Statement's table words and the real class files: 8 classes; the members and pool entries that the words name. The judged class is class 1, her method 1. -/
namespace start1
open Jvm.ClassFile
def u (s : String) : CpInfo := .utf8 (stringToUtf16 s)
/-- a pool by its gaps: so many unusable entries, then the entry; so many at the end -/
def gap : Nat → List CpInfo → List CpInfo
  | 0, r => r
  | n + 1, r => .unusable :: gap n r
def poolList (es : List (Nat × CpInfo)) (last : Nat) : List CpInfo := es.foldr (fun e r => gap e.1 (e.2 :: r)) (gap last [])
def pool (es : List (Nat × CpInfo)) (last : Nat) : Array CpInfo := ⟨poolList es last⟩
def fileOf (pool : Array CpInfo) (this : Nat) (attrs : Array Attribute := #[]) (ms : Array MethodInfo := #[]) (fl : Nat := 33) (sup : Nat := 0) (ifs : Array Nat := #[]) (fds : Array FieldInfo := #[]) : ClassFile where
  minorVersion := 0
  majorVersion := 65
  constantPool := pool
  accessFlags := fl
  thisClass := this
  superClass := sup
  interfaces := ifs
  fields := fds
  methods := ms
  attributes := attrs
def plain (name : String) (sup : Option ClassId) : Class where
  name := name
  kind := .ordinary
  loader := none
  accessFlags := 33
  super := sup
  interfaces := #[]
  cf := none
  fields := #[]
  methods := #[]
  instanceTypes := #[]
  staticTypes := #[]
  resolved := #[]
  callSites := []
  init := .initialized
  statics := none
  mirror := none

def pool0 : Array CpInfo := pool [(5, u "<init>"), (0, u "()V"), (1, .class_ 10), (1, u "java/lang/Object")] 113

def k0m0 : Method := { name := "<init>", desc := "()V", sig := { parameters := [], returnType := none }, accessFlags := 1, code := none }
/-- java/lang/Object -/
def k0 : Class := { plain "java/lang/Object" none with
  accessFlags := 33
  interfaces := #[]
  cf := some (fileOf pool0 8 #[] #[{ accessFlags := 1, nameIndex := 5, descriptorIndex := 6, attributes := #[] }] 33 0 #[] #[])
  fields := #[]
  methods := #[k0m0]
  instanceTypes := #[]
  staticTypes := #[]
  resolved := Array.replicate 124 none
  statics := none }

def pool1 : Array CpInfo := pool [(2, .class_ 4), (1, u "java/lang/Object"), (0, u "<init>"), (0, u "()V"), (0, .integer 2147483647), (0, .methodref 9 10), (0, .class_ 11), (0, .nameAndType 12 13), (0, u "java/lang/Math"), (0, u "min"), (0, u "(II)I"), (0, .long 2147483647), (1, .methodref 17 18), (0, .class_ 19), (0, .nameAndType 20 21), (0, u "com/example/brevitree/brevitree/BlockPlanner"), (0, u "probeAfter"), (0, u "(III)I"), (0, .long 16), (1, .long 15), (1, .class_ 27), (0, u "com/example/brevitree/brevitree/BlockPlannerProbeAfterPinLaw"), (2, u "law"), (0, u "(IIII)Z")] 3

def k1m0 : Method := { name := "<init>", desc := "()V", sig := { parameters := [], returnType := none }, accessFlags := 1, code := none }
def k1c1 : Code := { maxStack := 6, maxLocals := 16, code := code, exceptionTable := #[], attributes := #[] }
def k1m1 : Method := { name := "law", desc := "(IIII)Z", sig := { parameters := [.int, .int, .int, .int], returnType := some .boolean }, accessFlags := 9, code := some k1c1 }
/-- com/example/brevitree/brevitree/BlockPlannerProbeAfterPinLaw -/
def k1 : Class := { plain "com/example/brevitree/brevitree/BlockPlannerProbeAfterPinLaw" (some 0) with
  accessFlags := 49
  interfaces := #[]
  cf := some (fileOf pool1 26 #[] #[{ accessFlags := 1, nameIndex := 5, descriptorIndex := 6, attributes := #[] }, { accessFlags := 9, nameIndex := 30, descriptorIndex := 31, attributes := #[] }] 49 2 #[] #[])
  fields := #[]
  methods := #[k1m0, k1m1]
  instanceTypes := #[]
  staticTypes := #[]
  resolved := Array.replicate 35 none
  statics := none }

def pool2 : Array CpInfo := pool [(1, .class_ 2), (0, u "java/lang/Math"), (1, .class_ 6), (1, u "java/lang/Object"), (0, u "<init>"), (0, u "()V"), (89, .class_ 100), (1, u "java/lang/Math$RandomNumberGeneratorHolder"), (71, u "negativeZeroFloatBits"), (0, u "J"), (2, u "negativeZeroDoubleBits"), (24, u "min"), (43, u "$assertionsDisabled"), (0, u "Z"), (88, u "(II)I"), (2, u "twoToTheDoubleScaleDown"), (0, u "D"), (4, u "twoToTheDoubleScaleUp"), (9, u "E"), (3, u "PI"), (2, u "TAU"), (2, u "DEGREES_TO_RADIANS"), (0, u "RADIANS_TO_DEGREES")] 94

def k2m0 : Method := { name := "<init>", desc := "()V", sig := { parameters := [], returnType := none }, accessFlags := 2, code := none }
def k2c1 : Code := { maxStack := 2, maxLocals := 2, code := jdk_29_method_69_code, exceptionTable := #[], attributes := #[] }
def k2m1 : Method := { name := "min", desc := "(II)I", sig := { parameters := [.int, .int], returnType := some .int }, accessFlags := 9, code := some k2c1 }
/-- java/lang/Math -/
def k2 : Class := { plain "java/lang/Math" (some 0) with
  accessFlags := 49
  interfaces := #[]
  cf := some (fileOf pool2 1 #[.nestMembers #[98]] #[{ accessFlags := 2, nameIndex := 7, descriptorIndex := 8, attributes := #[] }, { accessFlags := 9, nameIndex := 201, descriptorIndex := 335, attributes := #[] }] 49 4 #[] #[{ accessFlags := 25, nameIndex := 354, descriptorIndex := 339, attributes := #[] }, { accessFlags := 25, nameIndex := 358, descriptorIndex := 339, attributes := #[] }, { accessFlags := 25, nameIndex := 361, descriptorIndex := 339, attributes := #[] }, { accessFlags := 26, nameIndex := 364, descriptorIndex := 339, attributes := #[] }, { accessFlags := 26, nameIndex := 365, descriptorIndex := 339, attributes := #[] }, { accessFlags := 26, nameIndex := 172, descriptorIndex := 173, attributes := #[] }, { accessFlags := 26, nameIndex := 176, descriptorIndex := 173, attributes := #[] }, { accessFlags := 8, nameIndex := 344, descriptorIndex := 339, attributes := #[] }, { accessFlags := 8, nameIndex := 338, descriptorIndex := 339, attributes := #[] }, { accessFlags := 4120, nameIndex := 245, descriptorIndex := 246, attributes := #[] }])
  fields := #[{ name := "E", type := .double, accessFlags := 25, slot := 0, constantValue := 0 }, { name := "PI", type := .double, accessFlags := 25, slot := 1, constantValue := 0 }, { name := "TAU", type := .double, accessFlags := 25, slot := 2, constantValue := 0 }, { name := "DEGREES_TO_RADIANS", type := .double, accessFlags := 26, slot := 3, constantValue := 0 }, { name := "RADIANS_TO_DEGREES", type := .double, accessFlags := 26, slot := 4, constantValue := 0 }, { name := "negativeZeroFloatBits", type := .long, accessFlags := 26, slot := 5, constantValue := 0 }, { name := "negativeZeroDoubleBits", type := .long, accessFlags := 26, slot := 6, constantValue := 0 }, { name := "twoToTheDoubleScaleUp", type := .double, accessFlags := 8, slot := 7, constantValue := 0 }, { name := "twoToTheDoubleScaleDown", type := .double, accessFlags := 8, slot := 8, constantValue := 0 }, { name := "$assertionsDisabled", type := .boolean, accessFlags := 4120, slot := 9, constantValue := 0 }]
  methods := #[k2m0, k2m1]
  instanceTypes := #[]
  staticTypes := #[.double, .double, .double, .double, .double, .long, .long, .double, .double, .boolean]
  resolved := Array.replicate 460 none
  statics := none }

def pool3 : Array CpInfo := pool [(1, .class_ 2), (0, u "com/example/brevitree/brevitree/BlockPlanner"), (1, .class_ 6), (1, u "java/lang/Object"), (4, u "starts"), (0, u "[I"), (2, u "lengths"), (1, u "[J"), (2, u "counts"), (0, u "[[J"), (2, u "costs"), (2, u "values"), (2, u "next"), (2, u "previous"), (2, u "pairCosts"), (2, u "tripleCosts"), (2, u "runStarts"), (2, u "runLengths"), (4, u "merged"), (2, u "blockSegments"), (2, u "cost"), (0, u "Lcom/example/brevitree/brevitree/BlockPlanner$BlockCost;"), (10, u "segmentCount"), (0, u "I"), (12, u "plannedBytes"), (0, u "J"), (7, .class_ 93), (1, u "com/example/brevitree/brevitree/BlockPlanner$BlockCost"), (6, u "runCount"), (2, u "NATIVE_LONG"), (0, u "Ljava/lang/invoke/VarHandle;"), (32, u "probeAfter"), (0, u "(III)I"), (34, u "SEGMENT_LENGTH"), (2, u "MIN_RUN_LENGTH"), (1, u "MAX_RUNS"), (1, u "PROBE_LENGTH")] 19

def k3c0 : Code := { maxStack := 3, maxLocals := 4, code := prog_9_method_10_code, exceptionTable := #[], attributes := #[] }
def k3m0 : Method := { name := "probeAfter", desc := "(III)I", sig := { parameters := [.int, .int, .int], returnType := some .int }, accessFlags := 8, code := some k3c0 }
/-- com/example/brevitree/brevitree/BlockPlanner -/
def k3 : Class := { plain "com/example/brevitree/brevitree/BlockPlanner" (some 0) with
  accessFlags := 48
  interfaces := #[]
  cf := some (fileOf pool3 1 #[.nestMembers #[91]] #[{ accessFlags := 8, nameIndex := 137, descriptorIndex := 138, attributes := #[] }] 48 4 #[] #[{ accessFlags := 24, nameIndex := 173, descriptorIndex := 69, attributes := #[] }, { accessFlags := 24, nameIndex := 176, descriptorIndex := 69, attributes := #[] }, { accessFlags := 24, nameIndex := 178, descriptorIndex := 69, attributes := #[] }, { accessFlags := 26, nameIndex := 180, descriptorIndex := 69, attributes := #[] }, { accessFlags := 26, nameIndex := 103, descriptorIndex := 104, attributes := #[] }, { accessFlags := 18, nameIndex := 56, descriptorIndex := 57, attributes := #[] }, { accessFlags := 2, nameIndex := 11, descriptorIndex := 12, attributes := #[] }, { accessFlags := 2, nameIndex := 15, descriptorIndex := 12, attributes := #[] }, { accessFlags := 2, nameIndex := 20, descriptorIndex := 21, attributes := #[] }, { accessFlags := 2, nameIndex := 24, descriptorIndex := 17, attributes := #[] }, { accessFlags := 2, nameIndex := 27, descriptorIndex := 12, attributes := #[] }, { accessFlags := 2, nameIndex := 30, descriptorIndex := 12, attributes := #[] }, { accessFlags := 2, nameIndex := 33, descriptorIndex := 12, attributes := #[] }, { accessFlags := 2, nameIndex := 36, descriptorIndex := 17, attributes := #[] }, { accessFlags := 2, nameIndex := 39, descriptorIndex := 17, attributes := #[] }, { accessFlags := 2, nameIndex := 68, descriptorIndex := 69, attributes := #[] }, { accessFlags := 2, nameIndex := 42, descriptorIndex := 12, attributes := #[] }, { accessFlags := 2, nameIndex := 45, descriptorIndex := 12, attributes := #[] }, { accessFlags := 2, nameIndex := 100, descriptorIndex := 69, attributes := #[] }, { accessFlags := 18, nameIndex := 50, descriptorIndex := 17, attributes := #[] }, { accessFlags := 2, nameIndex := 53, descriptorIndex := 12, attributes := #[] }, { accessFlags := 2, nameIndex := 82, descriptorIndex := 83, attributes := #[] }])
  fields := #[{ name := "SEGMENT_LENGTH", type := .int, accessFlags := 24, slot := 0, constantValue := 0 }, { name := "MIN_RUN_LENGTH", type := .int, accessFlags := 24, slot := 1, constantValue := 0 }, { name := "MAX_RUNS", type := .int, accessFlags := 24, slot := 2, constantValue := 0 }, { name := "PROBE_LENGTH", type := .int, accessFlags := 26, slot := 3, constantValue := 0 }, { name := "NATIVE_LONG", type := (.object "java/lang/invoke/VarHandle"), accessFlags := 26, slot := 4, constantValue := 0 }, { name := "cost", type := (.object "com/example/brevitree/brevitree/BlockPlanner$BlockCost"), accessFlags := 18, slot := 0, constantValue := 0 }, { name := "starts", type := (.array .int), accessFlags := 2, slot := 1, constantValue := 0 }, { name := "lengths", type := (.array .int), accessFlags := 2, slot := 2, constantValue := 0 }, { name := "counts", type := (.array (.array .long)), accessFlags := 2, slot := 3, constantValue := 0 }, { name := "costs", type := (.array .long), accessFlags := 2, slot := 4, constantValue := 0 }, { name := "values", type := (.array .int), accessFlags := 2, slot := 5, constantValue := 0 }, { name := "next", type := (.array .int), accessFlags := 2, slot := 6, constantValue := 0 }, { name := "previous", type := (.array .int), accessFlags := 2, slot := 7, constantValue := 0 }, { name := "pairCosts", type := (.array .long), accessFlags := 2, slot := 8, constantValue := 0 }, { name := "tripleCosts", type := (.array .long), accessFlags := 2, slot := 9, constantValue := 0 }, { name := "segmentCount", type := .int, accessFlags := 2, slot := 10, constantValue := 0 }, { name := "runStarts", type := (.array .int), accessFlags := 2, slot := 11, constantValue := 0 }, { name := "runLengths", type := (.array .int), accessFlags := 2, slot := 12, constantValue := 0 }, { name := "runCount", type := .int, accessFlags := 2, slot := 13, constantValue := 0 }, { name := "merged", type := (.array .long), accessFlags := 18, slot := 14, constantValue := 0 }, { name := "blockSegments", type := (.array .int), accessFlags := 2, slot := 15, constantValue := 0 }, { name := "plannedBytes", type := .long, accessFlags := 2, slot := 16, constantValue := 0 }]
  methods := #[k3m0]
  instanceTypes := #[(.object "com/example/brevitree/brevitree/BlockPlanner$BlockCost"), (.array .int), (.array .int), (.array (.array .long)), (.array .long), (.array .int), (.array .int), (.array .int), (.array .long), (.array .long), .int, (.array .int), (.array .int), .int, (.array .long), (.array .int), .long]
  staticTypes := #[.int, .int, .int, .int, (.object "java/lang/invoke/VarHandle")]
  resolved := Array.replicate 200 none
  statics := none }

def pool4 : Array CpInfo := pool [(1, u "java/lang/Cloneable"), (0, .class_ 1), (0, u "java/lang/Object"), (0, .class_ 3)] 3

/-- java/lang/Cloneable -/
def k4 : Class := { plain "java/lang/Cloneable" (some 0) with
  accessFlags := 1537
  interfaces := #[]
  cf := some (fileOf pool4 2 #[] #[] 1537 4 #[] #[])
  fields := #[]
  methods := #[]
  instanceTypes := #[]
  staticTypes := #[]
  resolved := Array.replicate 8 none
  statics := none }

def pool5 : Array CpInfo := pool [(1, u "java/io/Serializable"), (0, .class_ 1), (0, u "java/lang/Object"), (0, .class_ 3)] 3

/-- java/io/Serializable -/
def k5 : Class := { plain "java/io/Serializable" (some 0) with
  accessFlags := 1537
  interfaces := #[]
  cf := some (fileOf pool5 2 #[] #[] 1537 4 #[] #[])
  fields := #[]
  methods := #[]
  instanceTypes := #[]
  staticTypes := #[]
  resolved := Array.replicate 8 none
  statics := none }

/-- the primitive byte -/
def k6 : Class := { plain "byte" none with kind := .primitive 'B', accessFlags := 0x411 }
/-- [B -/
def k7 : Class := { plain "[B" (some 0) with kind := .array 6 .byte, interfaces := #[4, 5], accessFlags := 1041 }

def heap : Heap := #[]
def classes : Array Class := #[k0, k1, k2, k3, k4, k5, k6, k7]
def interned : List (Array UInt16 × Addr) := []
def slotsUsed : Nat := 0
def theMethod : MethodId := ⟨1, 1⟩
def args0 : Array Value := #[.int 500, .int 7, .int 9, .int 3]
def aboutOver (below : List Frame) : State where
  vm := { classes := classes, interned := interned.toArray }
  heap := heap
  slotsUsed := slotsUsed
  threads := #[{ frames := .invoking theMethod args0 :: below }]
def below0 : List Frame := [.native { method := ⟨0, 0⟩, args := #[] }]
def about1 : State := aboutOver below0
def p0 : Program := .bare "" "" ""
def e0 : Env := launch0.env 0 0 0
theorem w_frames : about1.frames = Frame.invoking theMethod args0 :: below0 := rfl
set_option maxRecDepth 65536 in
theorem w_args : argsFit about1.vm theMethod args0 = true := by decide +kernel
set_option maxRecDepth 65536 in
theorem w_heap : heapFits about1 = true := by decide +kernel
set_option maxRecDepth 65536 in
theorem w_runnable : about1.curStatus? = some .runnable := by decide +kernel
set_option maxRecDepth 65536 in
theorem w_alone : about1.alone = true := by decide +kernel
set_option maxRecDepth 65536 in
theorem w_named : about1.methodNamed? x = some theMethod := by decide +kernel
set_option maxRecDepth 65536 in
theorem w_hears : about1.hears theMethod below0 = true := by decide +kernel
set_option maxRecDepth 65536 in
theorem w_ripe : about1.ripe theMethod args0 below0 = true := by decide +kernel
theorem w_running : about1.status = .running := rfl
set_option maxRecDepth 65536 in
theorem w_room : about1.hasRoom e0.platform room_1 = true :=
  launch0.hasRoom_least _ room_1 (by decide +kernel) (by decide +kernel) (by decide +kernel) (by decide +kernel) (by decide +kernel) (by decide +kernel)
theorem allAtoms_all (ts : List Jvm.Cond) (a : Array Jvm.Value) (st : Jvm.State) : (allAtoms ts).before a st = ts.all (fun c => c.before a st) := by
  induction ts with
  | nil => rfl
  | cons c t ih =>
    show (Jvm.Cond.and c (allAtoms t)).before a st = _
    rw [Jvm.Cond.before_and, ih, List.all_cons]
def words1 : List Jvm.Cond := Jvm.Cond.code x code maxLocals ret :: tables_1
/-- a 'code' word, met by the world's own term for the bytes: nothing is compared byte by byte -/
theorem code_word {y : MethodName} {bytes : ByteArray} {mx : Nat} {rt : Option FieldType} {a : Array Value} {s : State} {m : MethodId} {meth : Method} {c : Code} (h1 : s.methodNamed? y = some m) (h2 : s.vm.method? m = some meth) (h3 : meth.code = some c) (h4 : c.code = bytes)
    (h5 : (c.maxLocals == mx && c.exceptionTable.isEmpty && decide (c.maxStack ≤ mostOperands) && decide (meth.sig.returnType = rt) && !meth.locks && decide (parseMethodDescriptor y.desc = some meth.sig)) = true) : (Jvm.Cond.code y bytes mx rt).before a s = true := by
  simp only [Bool.and_eq_true, beq_iff_eq, Bool.not_eq_true', decide_eq_true_eq] at h5
  obtain ⟨⟨⟨⟨⟨g1, g2⟩, g3⟩, g4⟩, g5⟩, g6⟩ := h5
  simp [Cond.before, Cond.holds, Cond.value, h1, h2, h3, h4, g1, g2, g3, g4, g5, g6]
def isCode : Jvm.Cond → Bool
  | .code _ _ _ _ => true
  | _ => false
theorem all_split {L : List Jvm.Cond} {P : Jvm.Cond → Bool} (h1 : L.all (fun c => isCode c || P c) = true) (h2 : ∀ c ∈ L.filter isCode, P c = true) : L.all P = true := by
  refine List.all_eq_true.mpr fun c hc => ?_
  have h := List.all_eq_true.mp h1 c hc
  rcases Bool.eq_false_or_eq_true (isCode c) with hi | hi
  · exact h2 c (List.mem_filter.mpr ⟨hc, hi⟩)
  · simpa [hi] using h
set_option maxRecDepth 65536 in
theorem w_c0 : (Jvm.Cond.code x code maxLocals ret).before args0 about1 = true := code_word (m := ⟨1, 1⟩) (meth := k1m1) (c := k1c1) (by decide +kernel) rfl rfl rfl (by decide +kernel)
set_option maxRecDepth 65536 in
theorem w_c1 : (Jvm.Cond.code ({ cls := "java/lang/Math", name := "min", desc := "(II)I" } : Jvm.MethodName) jdk_29_method_69_code (2 : Nat) (Option.some Jvm.ClassFile.FieldType.int)).before args0 about1 = true := code_word (m := ⟨2, 1⟩) (meth := k2m1) (c := k2c1) (by decide +kernel) rfl rfl rfl (by decide +kernel)
set_option maxRecDepth 65536 in
theorem w_c2 : (Jvm.Cond.code ({ cls := "com/example/brevitree/brevitree/BlockPlanner", name := "probeAfter", desc := "(III)I" } : Jvm.MethodName) prog_9_method_10_code (4 : Nat) (Option.some Jvm.ClassFile.FieldType.int)).before args0 about1 = true := code_word (m := ⟨3, 0⟩) (meth := k3m0) (c := k3c0) (by decide +kernel) rfl rfl rfl (by decide +kernel)
def codes1 : List Jvm.Cond := [Jvm.Cond.code x code maxLocals ret, Jvm.Cond.code ({ cls := "java/lang/Math", name := "min", desc := "(II)I" } : Jvm.MethodName) jdk_29_method_69_code (2 : Nat) (Option.some Jvm.ClassFile.FieldType.int), Jvm.Cond.code ({ cls := "com/example/brevitree/brevitree/BlockPlanner", name := "probeAfter", desc := "(III)I" } : Jvm.MethodName) prog_9_method_10_code (4 : Nat) (Option.some Jvm.ClassFile.FieldType.int)]
set_option maxRecDepth 65536 in
theorem codes_eq : words1.filter isCode = codes1 := rfl
theorem w_codes : ∀ c ∈ words1.filter isCode, c.before args0 about1 = true := by
  rw [codes_eq]
  intro c hc
  simp only [codes1, List.mem_cons, List.not_mem_nil, or_false] at hc
  rcases hc with rfl | rfl | rfl
  · exact w_c0
  · exact w_c1
  · exact w_c2
set_option maxRecDepth 65536 in
theorem w_t1 : words1.all (fun c => isCode c || c.before args0 about1) = true := by decide +kernel
theorem w_tables : (allAtoms (Jvm.Cond.code x code maxLocals ret :: tables_1)).before args0 about1 = true := by
  rw [allAtoms_all]
  show words1.all (fun c => c.before args0 about1) = true
  refine all_split ?_ w_codes
  rw [w_t1]
set_option maxRecDepth 65536 in
theorem w_case : (Jvm.Cond.and given_1 narrow_1).before args0 about1 = true := by decide +kernel
theorem w_applies : (headSpec (Jvm.Cond.code x code maxLocals ret :: tables_1) room_1).applies x e0.platform about1 = true :=
  (Spec.applies_iff w_frames).mpr ⟨w_running, w_runnable, w_alone, w_named, w_hears, w_ripe, w_room, w_tables⟩
theorem atStart : AtStart classFile x code maxLocals ret World_1 tables_1 room_1 Calls_1 rest_1 Pre_1 launch0 p0 e0 about1 theMethod args0 below0 :=
  ⟨lists_1, trivial, launch0.admits_env _ _ _, launch0.least_env, fairChoices_fair.cas, fairChoices_fair.clock, w_frames, w_args, w_heap, w_applies, trivial, trivial, w_case⟩
end start1
theorem witness_1 : WitnessClaimed_1 := ⟨start1.p0, start1.e0, start1.about1, start1.theMethod, start1.args0, start1.below0, start1.atStart⟩
end Jvm.Pilot.@@N@@
