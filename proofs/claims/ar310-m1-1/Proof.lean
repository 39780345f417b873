import JvmDerived
import JvmDerived.Pilot.@@N@@Statement
import JvmDerived.Pilot.@@N@@Code
set_option linter.unusedVariables false
set_option linter.unusedSimpArgs false
namespace Jvm.RoadKit
open Sem ClassFile Op Lib Jvm.Stand Jvm.Free Jvm.LawKit
section New
variable {p : Program} {l : Launch} {e : Env} {R : Room} {s : State} {m : MethodId} {args : Array Value} {below : List Frame} {meth : Method} {c : Code} {T : State} {locs : List Loc} {cells slots : Nat}
theorem retI (X : Stand p l e R s m args below meth c T locs cells slots) (hx : p.tables.exec = Jvm.exec) {pc : Nat} {Ls : Array Slot} {z : Int32} {rest : List Value} (hret : meth.sig.returnType = some .int) (hd : decode c.code pc = .ok (.ireturn, 1)) {fs : List Frame}
    (hl : ∀ (f : JFrame) (acts : List Action), f.method = m → f.locked = none → f.entered = [] → (doReturn e (T.setTop f) acts (some (.int z))).1 = T.setFrames fs) : Steps p.tables e below (T.setTop (mkF m pc Ls (.int z :: rest))) (T.setFrames fs) := by
  have hm' : T.vm.method? m = some meth := X.method'
  have hn : narrow .int (.int z) = .int z := rfl
  show Steps p.tables e below (T.setTop { method := m, pc := pc, locals := Ls, stack := _ :: rest, locked := none }) _
  jvm_step X.here [X.here.top, hx, hd, hm', hret, hn]
  first | (intro acts; rw [hl _ acts rfl rfl rfl]) | rw [hl _ _ rfl rfl rfl]
  exact Steps.refl _
end New
end Jvm.RoadKit
namespace Jvm.Pilot.@@N@@
open Jvm Jvm.ClassFile Sem Op Lib Jvm.Free Jvm.Stand Jvm.LawKit Jvm.RoadKit Bundle Jvm.Pilot.@@N@@.Jvm.D

theorem own_arr {p : Program} {l : Launch} {e : Env} {R : Room} {s : State} {m : MethodId} {args : Array Value} {below : List Frame} {meth : Method} {c : Code} {T : State} {locs : List Loc} {cells slots : Nat} {Z : State} {h : Heap} {a : Addr} {cl : Cell} {ty : FieldType} (hZ : Z.Warmed39 s.vm) (X : Stand p l e R s m args below meth c T locs cells slots) (A : Arr Z h a cl ty) (e : T.heap = h) (hs : cl.slots.size < 2 ^ 31) : Jvm.Free.XT.Arr ty a cl T :=
  ⟨by rw [e]; exact A.1, State.isArrayOf_alike (hZ.alike.trans X.warmed.alike) A.2.1, A.2.2, hs⟩
theorem own_rra {p : Program} {l : Launch} {e : Env} {R : Room} {s : State} {m : MethodId} {args : Array Value} {below : List Frame} {meth : Method} {c : Code} {T : State} {locs : List Loc} {cells slots : Nat} {Z : State} {a : Addr} {cl : Cell} {ty : FieldType} (hZ : Z.Warmed39 s.vm) (X : Stand p l e R s m args below meth c T locs cells slots) (A : Jvm.Free.XT.Arr ty a cl T) : Arr Z T.heap a cl ty :=
  ⟨A.1, State.isArrayOf_alike (hZ.alike.trans X.warmed.alike).symm A.2.1, A.2.2.1⟩
def own_S (Z : State) (h : Heap) (a b : Addr) (k : ClassId) (c n : Int32) (vs : List Value) : Prop := Exa Z h a "com/example/tightknit/tightknit/density/PowerSums" ∧ Fld Z h a "com/example/tightknit/tightknit/density/PowerSums" "small" "[J" (.ref b) ∧ Fld Z h a "com/example/tightknit/tightknit/density/PowerSums" "least" "I" (.int c) ∧ Arv Z h b k .long n vs (.long (0 : Int64))
theorem own_ix {j : Int32} {i : Nat} (h : j.toInt = (i : Int)) : j.toNatClampNeg = i := by
  show j.toInt.toNat = i
  omega
theorem own_bd {j n : Int32} {i : Nat} (h : j.toInt = (i : Int)) (hb : (i : Int) < n.toInt) : ¬ j < 0 ∧ j < n := by
  have k0 : (0 : Int32).toInt = 0 := by decide
  rw [Int32.lt_iff_toInt_lt, Int32.lt_iff_toInt_lt, k0]
  omega
theorem own_lt {cl : Cell} {n : Int32} {i : Nat} (S : cl.slots.size = n.toNatClampNeg) (hb : (i : Int) < n.toInt) : i < cl.slots.size := by
  have e : n.toNatClampNeg = n.toInt.toNat := rfl
  omega
theorem own_gs {vs : List Value} {i : Nat} {y d : Value} (h : i < vs.length) : (vs.set i y).getD i d = y := by
  simp [List.getD_eq_getElem?_getD, h]
theorem own_gn {vs : List Value} {i j : Nat} {y d : Value} (h : i ≠ j) : (vs.set i y).getD j d = vs.getD j d := by
  simp [List.getD_eq_getElem?_getD, List.getElem?_set_ne h]
def own_sh (p3 w4 : Int32) : Int64 := (1 : Int64) <<< ((p3 - w4) &&& 0x3f).toInt64
def own_nlz (x : Int64) : Int32 := Jvm.Free.JP.Long_numberOfLeadingZeros_J.val x
def own_zz : List Value := List.replicate 16 (.long (0 : Int64))
theorem d4_0 : decode jdk_71_method_1_code 0 = .ok (.aload_n 0, 1) := by decide +kernel
theorem d4_1 : decode jdk_71_method_1_code 1 = .ok (.invokespecial 1, 3) := by decide +kernel
theorem d4_4 : decode jdk_71_method_1_code 4 = .ok (.return_, 1) := by decide +kernel
theorem pn_4 : plainName "java/util/AbstractMap" = true := by first | (simp [plainName, overriddenIn]; done) | decide +kernel
theorem ef_4 (m : MethodId) (x0 : Addr) : entryFrame m #[(.ref x0)] 1 = mkF m 0 #[.val (.ref x0)] [] := by first | (simp [entryFrame, mkF, argsToLocals, Value.category]; done) | rfl
def Q4 (Z : State) (a1 : Addr) (h0 : Heap) (n0 : Nat) (v : Option Value) (h : Heap) (L : List Loc) : Prop := v = none ∧ Fr n0 L ∧ h = h0
set_option maxRecDepth 65536 in
set_option maxHeartbeats 40000000 in
theorem rm4 (l : Launch) (Z : State) (a0 : Array Value) (hw : ∀ d ∈ tables_1, d.before a0 Z = true) (ws : List Jvm.Cond) (a1 : Addr) (h0 : Heap) (n0 : Nat) (Z0 : n0 ≤ h0.size) :
    MetFree l (⟨"java/util/AbstractMap", "<init>", "()V"⟩ : MethodName) (head1 (Jvm.Cond.code (⟨"java/util/AbstractMap", "<init>", "()V"⟩ : MethodName) jdk_71_method_1_code 1 none :: ws) ({ frames := 1, cells := 0, slots := 0, locals := 12 } : Room)) (fun a U => a = #[(.ref a1)] ∧ Z.Warmed39 U.vm ∧ U.heap = h0) (fun _ _ _ _ _ => True) (fun _ U o U' => ∃ v L, o = .returned v ∧ Q4 Z a1 h0 n0 v U'.heap L ∧ FrameEnd U o U' L ({ frames := 1, cells := 0, slots := 0, locals := 12 } : Room).cells ({ frames := 1, cells := 0, slots := 0, locals := 12 } : Room).slots) := by
  refine MetFree.of_bodySF (plainFor_of_name pn_4) hisR ?_
  intro p e s m args below meth c s₁ Bd hml0 hP hK
  obtain ⟨rfl, hZ, hh⟩ := hP
  have hx := Bd.exec
  have hby := Bd.bytes
  have hml : c.maxLocals = 1 := hml0
  have hown : s.vm.findClass "java/util/AbstractMap" = some m.cls := findClass_of_methodNamed Bd.named
  have hnm := (name_of_methodNamed Bd.named Bd.method).1
  have X0 : Stand p l e ({ frames := 1, cells := 0, slots := 0, locals := 12 } : Room) s m #[(.ref a1)] below meth c s₁ [] 0 0 := Stand.of_body Bd
  have e0 : s₁.heap = h0 := by rw [← hh, Bd.state]; rfl
  have N0 := Fr.nil n0
  have pre0 : ∀ t, Steps p.tables e below (s₁.setTop (mkF m 0 #[.val (.ref a1)] [])) t → Steps p.tables e below (s₁.setTop (entryFrame m #[(.ref a1)] 1)) t := fun t k => castTop (ef_4 m a1) k
  obtain ⟨T2, X2, e2, st2⟩ := initO X0 hx hZ hown (hw _ (List.mem_of_getElem? (i := 21) rfl)) (hw _ (List.mem_of_getElem? (i := 7) rfl)) (hw _ (List.mem_of_getElem? (i := 8) rfl)) e0 (g := (mkF m 1 #[.val (.ref a1)] [(.ref a1)])) rfl (by rw [hml]; rfl) rfl (hb hby d4_1) (by decide) (W := 0) (by show 2 * 0 + _ ≤ _; exact Nat.le_of_eq rfl) (by decide)
  obtain ⟨fs, hr, hrun, hended, hW, hsame⟩ := X2.leave (v := none) (fun _ => rfl)
  refine ⟨_, _, pre0 _ ?_, hrun, hended, _, _, rfl, ?_, ⟨_, rfl⟩, hW, hsame.mono (by decide) (by decide)⟩
  · show Steps p.tables e below (s₁.setTop (mkF m 0 #[.val (.ref a1)] [])) _
    refine XS.aloadN X0.here hx rfl (hb hby d4_0) rfl rfl ?_
    show Steps p.tables e below (s₁.setTop (mkF m 1 #[.val (.ref a1)] [(.ref a1)])) _
    refine st2 _ ?_
    show Steps p.tables e below (T2.setTop (mkF m 4 #[.val (.ref a1)] [])) _
    exact X2.returnOut hx Bd.returns (hb hby d4_4) hr
  · show Q4 Z a1 h0 n0 _ T2.heap _
    rw [e2]
    exact ⟨rfl, N0, rfl⟩
theorem d3_0 : decode jdk_69_method_7_code 0 = .ok (.aload_n 0, 1) := by decide +kernel
theorem d3_1 : decode jdk_69_method_7_code 1 = .ok (.invokespecial 43, 3) := by decide +kernel
theorem d3_4 : decode jdk_69_method_7_code 4 = .ok (.aload_n 0, 1) := by decide +kernel
theorem d3_5 : decode jdk_69_method_7_code 5 = .ok (.ldc 92, 2) := by decide +kernel
theorem d3_7 : decode jdk_69_method_7_code 7 = .ok (.putfield 81, 3) := by decide +kernel
theorem d3_10 : decode jdk_69_method_7_code 10 = .ok (.return_, 1) := by decide +kernel
theorem pn_3 : plainName "java/util/HashMap" = true := by first | (simp [plainName, overriddenIn]; done) | decide +kernel
theorem pd_3_1 : parseMethodDescriptor "()V" = some ⟨[], none⟩ := by decide +kernel
theorem ef_3 (m : MethodId) (x0 : Addr) : entryFrame m #[(.ref x0)] 1 = mkF m 0 #[.val (.ref x0)] [] := by first | (simp [entryFrame, mkF, argsToLocals, Value.category]; done) | rfl
def Q3 (Z : State) (a1 : Addr) (u_loadFactor_a1 : Value) (h0 : Heap) (n0 : Nat) (v : Option Value) (h : Heap) (L : List Loc) : Prop := v = none ∧ Fr n0 L ∧ Keep h0 h [a1]
set_option maxRecDepth 65536 in
set_option maxHeartbeats 40000000 in
theorem rm3 (l : Launch) (Z : State) (a0 : Array Value) (hw : ∀ d ∈ tables_1, d.before a0 Z = true) (ws : List Jvm.Cond) (a1 : Addr) (u_loadFactor_a1 : Value) (h0 : Heap) (n0 : Nat) (Z0 : n0 ≤ h0.size) (E_a1 : Exa Z h0 a1 "java/util/HashMap") (F_loadFactor_a1 : Fld Z h0 a1 "java/util/HashMap" "loadFactor" "F" u_loadFactor_a1) (g_a1 : n0 ≤ a1) :
    MetFree l (⟨"java/util/HashMap", "<init>", "()V"⟩ : MethodName) (head1 (Jvm.Cond.code (⟨"java/util/HashMap", "<init>", "()V"⟩ : MethodName) jdk_69_method_7_code 1 none :: ws) ({ frames := 2, cells := 0, slots := 0, locals := 24 } : Room)) (fun a U => a = #[(.ref a1)] ∧ Z.Warmed39 U.vm ∧ U.heap = h0) (fun _ _ _ _ _ => True) (fun _ U o U' => ∃ v L, o = .returned v ∧ Q3 Z a1 u_loadFactor_a1 h0 n0 v U'.heap L ∧ FrameEnd U o U' L ({ frames := 2, cells := 0, slots := 0, locals := 24 } : Room).cells ({ frames := 2, cells := 0, slots := 0, locals := 24 } : Room).slots) := by
  refine MetFree.of_bodySF (plainFor_of_name pn_3) hisR ?_
  intro p e s m args below meth c s₁ Bd hml0 hP hK
  obtain ⟨rfl, hZ, hh⟩ := hP
  have hx := Bd.exec
  have hby := Bd.bytes
  have hml : c.maxLocals = 1 := hml0
  have hown : s.vm.findClass "java/util/HashMap" = some m.cls := findClass_of_methodNamed Bd.named
  have hnm := (name_of_methodNamed Bd.named Bd.method).1
  have X0 : Stand p l e ({ frames := 2, cells := 0, slots := 0, locals := 24 } : Room) s m #[(.ref a1)] below meth c s₁ [] 0 0 := Stand.of_body Bd
  have e0 : s₁.heap = h0 := by rw [← hh, Bd.state]; rfl
  have N0 := Fr.nil n0
  have pre0 : ∀ t, Steps p.tables e below (s₁.setTop (mkF m 0 #[.val (.ref a1)] [])) t → Steps p.tables e below (s₁.setTop (entryFrame m #[(.ref a1)] 1)) t := fun t k => castTop (ef_3 m a1) k
  obtain ⟨_, _, ⟨T2, L2, k2, n2⟩, -, X2, ⟨Lc2, hQ2, l2, y2, z2⟩, st2⟩ := X0.specialBack hx (y := (⟨"java/util/AbstractMap", "<init>", "()V"⟩ : MethodName)) rfl hown (mvT hZ (hw _ (List.mem_of_getElem? (i := 15) rfl))) (mvT hZ (hw _ (List.mem_of_getElem? (i := 16) rfl))) (mvT hZ (hw _ (List.mem_of_getElem? (i := 20) rfl))) (by decide) (backOf (W := 0) (rm4 l Z a0 hw [] a1 h0 n0 Z0) hZ (hw _ (List.mem_of_getElem? (i := 20) rfl)) (hw _ (List.mem_of_getElem? (i := 19) rfl)) (by decide) (by decide)) (g := (mkF m 1 #[.val (.ref a1)] [(.ref a1)])) rfl (by rw [hml]; rfl) (Steps.refl _) (a := a1) (argsL := []) (rest := []) (lenOf pd_3_1 rfl) rfl (by show 2 * 0 + _ ≤ _; exact Nat.le_of_eq rfl) (hb hby d3_1) (fun _ _ => ⟨rfl, e0, (by decide : 0 + 0 ≤ _), (by decide : 0 + 0 ≤ _)⟩)
  dsimp only [Pt.U, Pt.locs, Pt.cells, Pt.slots] at X2 l2 y2 z2 st2 hQ2
  subst l2 y2 z2
  obtain ⟨rfl, N2q, hs2⟩ := hQ2
  have N2 := Fr.app N0 N2q
  have Kc2 : Keep h0 T2.heap [] := by rw [hs2]; exact Keep.refl _ _
  have Kd2 : Keep h0 T2.heap [a1] := by rw [hs2]; exact Keep.refl _ _
  obtain ⟨T3, h3, X3, e3, W3, st3⟩ := putF X2 hx hZ hown (host := "") (Or.inl (hw _ (List.mem_of_getElem? (i := 23) rfl))) Via.refl rfl (F_loadFactor_a1.keep Kc2 List.not_mem_nil) (E_a1.keep Kc2) (Or.inr ⟨(hw _ (List.mem_of_getElem? (i := 24) rfl)), rfl, hnm⟩) (hw _ (List.mem_of_getElem? (i := 10) rfl)) (ty := .float) (by decide) rfl rfl (g := (mkF m 7 #[.val (.ref a1)] [(.float (1061158912 : UInt32)), (.ref a1)])) rfl rfl (hb hby d3_7)
  have Fw3 := (F_loadFactor_a1.keep Kc2 List.not_mem_nil).same W3
  have K3 : Keep h0 h3 [a1] := Kd2.wr W3 (Or.inl (List.mem_of_getElem? (i := 0) rfl))
  have N3 := Fr.snoc X3 N2 g_a1
  obtain ⟨fs, hr, hrun, hended, hW, hsame⟩ := X3.leave (v := none) (fun _ => rfl)
  refine ⟨_, _, pre0 _ ?_, hrun, hended, _, _, rfl, ?_, ⟨_, rfl⟩, hW, hsame.mono (by decide) (by decide)⟩
  · show Steps p.tables e below (s₁.setTop (mkF m 0 #[.val (.ref a1)] [])) _
    refine XS.aloadN X0.here hx rfl (hb hby d3_0) rfl rfl ?_
    show Steps p.tables e below (s₁.setTop (mkF m 1 #[.val (.ref a1)] [(.ref a1)])) _
    refine st2.trans ?_
    show Steps p.tables e below (T2.setTop (mkF m 4 #[.val (.ref a1)] [])) _
    refine XS.aloadN X2.here hx rfl (hb hby d3_4) rfl rfl ?_
    show Steps p.tables e below (T2.setTop (mkF m 5 #[.val (.ref a1)] [(.ref a1)])) _
    refine X2.ldcFloatC hx hown (mvT hZ (hw _ (List.mem_of_getElem? (i := 22) rfl))) (g := (mkF m 5 #[.val (.ref a1)] [(.ref a1)])) rfl (hb hby d3_5) _ ?_
    show Steps p.tables e below (T2.setTop (mkF m 7 #[.val (.ref a1)] [(.float (1061158912 : UInt32)), (.ref a1)])) _
    refine st3 _ ?_
    show Steps p.tables e below (T3.setTop (mkF m 10 #[.val (.ref a1)] [])) _
    exact X3.returnOut hx Bd.returns (hb hby d3_10) hr
  · show Q3 Z a1 u_loadFactor_a1 h0 n0 _ T3.heap _
    rw [e3]
    exact ⟨rfl, N3, K3⟩

theorem own_rep (i j : Nat) (d : Value) : (List.replicate i d).getD j d = d := by
  simp only [List.getD_eq_getElem?_getD, List.getElem?_replicate]
  split <;> rfl
theorem own_newV {Z : State} {h : Heap} {b : Addr} {B : Cell} {p2 : Int32} {i : Nat} (A : Arr Z h b B .long) (bs : B.slots = Array.replicate i (defaultValue (newarray.typeOf .long))) (hi : p2 = Int32.ofNat i) (hb : i < 17) : Arv Z h b B.cls .long p2 own_zz (.long (0 : Int64)) := by
  have hs : B.slots.size = i := by rw [bs]; simp
  have ht : p2.toInt = (i : Int) := by rw [hi, Int32.toInt_ofNat_of_lt (by omega)]
  have hz : ∀ j, own_zz.getD j (.long (0 : Int64)) = (.long (0 : Int64)) := fun j => own_rep 16 j _
  refine ⟨B, A, rfl, by rw [hs, own_ix ht], ?_, fun j hj => ?_, fun j hj => by rw [hz]; rfl⟩
  · have k0 : (0 : Int32).toInt = 0 := by decide
    rw [Int32.lt_iff_toInt_lt, k0]; omega
  · rw [hz, bs]
    rw [hs] at hj
    simp [hj]
    rfl
theorem d1_0 : decode prog_35_method_1_code 0 = .ok (.aload_n 0, 1) := by decide +kernel
theorem d1_1 : decode prog_35_method_1_code 1 = .ok (.invokespecial 1, 3) := by decide +kernel
theorem d1_4 : decode prog_35_method_1_code 4 = .ok (.aload_n 0, 1) := by decide +kernel
theorem d1_5 : decode prog_35_method_1_code 5 = .ok (.new 7, 3) := by decide +kernel
theorem d1_8 : decode prog_35_method_1_code 8 = .ok (.dup, 1) := by decide +kernel
theorem d1_9 : decode prog_35_method_1_code 9 = .ok (.invokespecial 9, 3) := by decide +kernel
theorem d1_12 : decode prog_35_method_1_code 12 = .ok (.putfield 10, 3) := by decide +kernel
theorem d1_15 : decode prog_35_method_1_code 15 = .ok (.aload_n 0, 1) := by decide +kernel
theorem d1_16 : decode prog_35_method_1_code 16 = .ok (.iload_n 1, 1) := by decide +kernel
theorem d1_17 : decode prog_35_method_1_code 17 = .ok (.newarray .long, 2) := by decide +kernel
theorem d1_19 : decode prog_35_method_1_code 19 = .ok (.putfield 16, 3) := by decide +kernel
theorem d1_22 : decode prog_35_method_1_code 22 = .ok (.return_, 1) := by decide +kernel
theorem pn_1 : plainName "com/example/tightknit/tightknit/density/PowerSums" = true := by first | (simp [plainName, overriddenIn]; done) | decide +kernel
theorem pd_1_1 : parseMethodDescriptor "()V" = some ⟨[], none⟩ := by decide +kernel
theorem ef_1 (m : MethodId) (x0 : Addr) (x1 : Int32) : entryFrame m #[(.ref x0), (.int x1)] 2 = mkF m 0 #[.val (.ref x0), .val (.int x1)] [] := by first | (simp [entryFrame, mkF, argsToLocals, Value.category]; done) | rfl
def Q1 (Z : State) (a1 : Addr) (p2 : Int32) (u_large_a1 : Value) (u_small_a1 : Value) (h0 : Heap) (n0 : Nat) (v : Option Value) (h : Heap) (L : List Loc) : Prop := ∃ (b : Addr) (k : ClassId), v = none ∧ Fr n0 L ∧ Keep h0 h [a1] ∧ n0 ≤ b ∧ Z.vm.findClass "[J" = some k ∧ own_S Z h a1 b k (0 : Int32) p2 own_zz
set_option maxRecDepth 65536 in
set_option maxHeartbeats 40000000 in
theorem rm1 (l : Launch) (Z : State) (a0 : Array Value) (hw : ∀ d ∈ tables_1, d.before a0 Z = true) (ws : List Jvm.Cond) (a1 : Addr) (p2 : Int32) (u_large_a1 : Value) (u_small_a1 : Value) (h0 : Heap) (n0 : Nat) (Z0 : n0 ≤ h0.size) (i : Nat) (hi : p2 = Int32.ofNat i) (h18 : i ≤ 8) (F_least_a1 : Fld Z h0 a1 "com/example/tightknit/tightknit/density/PowerSums" "least" "I" (.int (0 : Int32))) (E_a1 : Exa Z h0 a1 "com/example/tightknit/tightknit/density/PowerSums") (F_large_a1 : Fld Z h0 a1 "com/example/tightknit/tightknit/density/PowerSums" "large" "Ljava/util/Map;" u_large_a1) (g_a1 : n0 ≤ a1) (F_small_a1 : Fld Z h0 a1 "com/example/tightknit/tightknit/density/PowerSums" "small" "[J" u_small_a1) :
    MetFree l (⟨"com/example/tightknit/tightknit/density/PowerSums", "<init>", "(I)V"⟩ : MethodName) (head1 (Jvm.Cond.code (⟨"com/example/tightknit/tightknit/density/PowerSums", "<init>", "(I)V"⟩ : MethodName) prog_35_method_1_code 2 none :: ws) ({ frames := 3, cells := 2, slots := 16, locals := 38 } : Room)) (fun a U => a = #[(.ref a1), (.int p2)] ∧ Z.Warmed39 U.vm ∧ U.heap = h0) (fun _ _ _ _ _ => True) (fun _ U o U' => ∃ v L, o = .returned v ∧ Q1 Z a1 p2 u_large_a1 u_small_a1 h0 n0 v U'.heap L ∧ FrameEnd U o U' L ({ frames := 3, cells := 2, slots := 16, locals := 38 } : Room).cells ({ frames := 3, cells := 2, slots := 16, locals := 38 } : Room).slots) := by
  refine MetFree.of_bodySF (plainFor_of_name pn_1) hisR ?_
  intro p e s m args below meth c s₁ Bd hml0 hP hK
  obtain ⟨rfl, hZ, hh⟩ := hP
  have hx := Bd.exec
  have hby := Bd.bytes
  have hml : c.maxLocals = 2 := hml0
  have hown : s.vm.findClass "com/example/tightknit/tightknit/density/PowerSums" = some m.cls := findClass_of_methodNamed Bd.named
  have hnm := (name_of_methodNamed Bd.named Bd.method).1
  have X0 : Stand p l e ({ frames := 3, cells := 2, slots := 16, locals := 38 } : Room) s m #[(.ref a1), (.int p2)] below meth c s₁ [] 0 0 := Stand.of_body Bd
  have e0 : s₁.heap = h0 := by rw [← hh, Bd.state]; rfl
  have N0 := Fr.nil n0
  have pre0 : ∀ t, Steps p.tables e below (s₁.setTop (mkF m 0 #[.val (.ref a1), .val (.int p2)] [])) t → Steps p.tables e below (s₁.setTop (entryFrame m #[(.ref a1), (.int p2)] 2)) t := fun t k => castTop (ef_1 m a1 p2) k
  obtain ⟨T3, X3, e3, st3⟩ := initO X0 hx hZ hown (hw _ (List.mem_of_getElem? (i := 6) rfl)) (hw _ (List.mem_of_getElem? (i := 7) rfl)) (hw _ (List.mem_of_getElem? (i := 8) rfl)) e0 (g := (mkF m 1 #[.val (.ref a1), .val (.int p2)] [(.ref a1)])) rfl (by rw [hml]; rfl) rfl (hb hby d1_1) (by decide) (W := 0) (by show 2 * 0 + _ ≤ _; exact Nat.le_of_eq rfl) (by decide)
  obtain ⟨T4, h4, X4, e4, E4, A4, D4, -, st4⟩ := newO X3 hx hZ hown (hw _ (List.mem_of_getElem? (i := 9) rfl)) (hw _ (List.mem_of_getElem? (i := 10) rfl)) (hw _ (List.mem_of_getElem? (i := 11) rfl)) e3 (g := (mkF m 5 #[.val (.ref a1), .val (.int p2)] [(.ref a1)])) rfl (hb hby d1_5) (by decide) (by decide)
  obtain ⟨b4, g4⟩ : ∃ z, z = h0.size := ⟨_, rfl⟩
  rw [← g4] at A4 D4 st4
  have F_loadFactor_b4 : Fld Z h4 b4 "java/util/HashMap" "loadFactor" "F" (defaultValue .float) := D4 (Or.inr (hw _ (List.mem_of_getElem? (i := 24) rfl))) (ty := .float) (by decide)
  have E_b4 := A4
  have g_b4 : n0 ≤ b4 := Nat.le_trans Z0 (Nat.le_of_eq g4.symm)
  have sz_b4 : h0.size ≤ b4 := (Nat.le_trans (Keep.refl h0 [a1]).1 (Nat.le_of_eq g4.symm))
  have K4 : Keep h0 h4 [a1] := (Keep.refl h0 [a1]).ext E4
  obtain ⟨_, _, ⟨T5, L5, k5, n5⟩, -, X5, ⟨Lc5, hQ5, l5, y5, z5⟩, st5⟩ := X4.specialBack hx (y := (⟨"java/util/HashMap", "<init>", "()V"⟩ : MethodName)) rfl hown (mvT hZ (hw _ (List.mem_of_getElem? (i := 12) rfl))) (mvT hZ (hw _ (List.mem_of_getElem? (i := 13) rfl))) (mvT hZ (hw _ (List.mem_of_getElem? (i := 14) rfl))) (by decide) (backOf (W := 2) (rm3 l Z a0 hw [] b4 (defaultValue .float) h4 n0 (Nat.le_trans Z0 K4.1) E_b4 F_loadFactor_b4 g_b4) hZ (hw _ (List.mem_of_getElem? (i := 14) rfl)) (hw _ (List.mem_of_getElem? (i := 11) rfl)) (by decide) (by decide)) (g := (mkF m 9 #[.val (.ref a1), .val (.int p2)] [(.ref b4), (.ref b4), (.ref a1)])) rfl (by rw [hml]; rfl) (Steps.refl _) (a := b4) (argsL := []) (rest := [(.ref b4), (.ref a1)]) (lenOf pd_1_1 rfl) rfl (by show 2 * 0 + _ ≤ _; exact Nat.le_of_eq rfl) (hb hby d1_9) (fun _ _ => ⟨rfl, e4, (by decide : 1 + 0 ≤ _), (by decide : 8 + 0 ≤ _)⟩)
  dsimp only [Pt.U, Pt.locs, Pt.cells, Pt.slots] at X5 l5 y5 z5 st5 hQ5
  subst l5 y5 z5
  obtain ⟨rfl, N5q, K5q⟩ := hQ5
  have N5 := Fr.app N0 N5q
  have hnb : a1 ∉ [b4] := fun q => absurd E_a1.lt (by rw [List.mem_singleton.mp q, g4]; exact Nat.lt_irrefl _)
  have H5 : Keep h0 T5.heap [a1] := K4.trans K5q (fun x hx => by cases List.mem_singleton.mp hx; exact Or.inr sz_b4)
  obtain ⟨T6, h6, X6, e6, W6, st6⟩ := putF X5 hx hZ hown (host := "") (Or.inl (hw _ (List.mem_of_getElem? (i := 25) rfl))) Via.refl rfl ((F_large_a1.ext E4).keep K5q hnb) ((E_a1.ext E4).keep K5q) (Or.inr ⟨(hw _ (List.mem_of_getElem? (i := 26) rfl)), rfl, hnm⟩) (hw _ (List.mem_of_getElem? (i := 1) rfl)) (ty := (.object "java/util/Map")) (by decide) rfl rfl (g := (mkF m 12 #[.val (.ref a1), .val (.int p2)] [(.ref b4), (.ref a1)])) rfl rfl (hb hby d1_12)
  have Fw6 := ((F_large_a1.ext E4).keep K5q hnb).same W6
  have K6 : Keep h0 h6 [a1] := H5.wr W6 (Or.inl (List.mem_of_getElem? (i := 0) rfl))
  have N6 := Fr.snoc X6 N5 g_a1
  obtain ⟨T7, B7, X7, bA7, bs7, bv7, bh7, bf7, st7⟩ := X6.anew hx (atype := .long) (mvA hZ (hw _ (List.mem_of_getElem? (i := 27) rfl))) (n := i) (by rw [hi]) (by show i * 8 ≤ _; omega) (by omega) (g := (mkF m 17 #[.val (.ref a1), .val (.int p2)] [(.int p2), (.ref a1)])) rfl (hb hby d1_17) (rest := [(.ref a1)]) rfl (by decide) (by show 8 + 0 + i ≤ 16; omega)
  obtain ⟨h7, e7⟩ : ∃ z, T7.heap = z := ⟨_, rfl⟩
  obtain ⟨b7, g7⟩ : ∃ z, z = h6.size := ⟨_, rfl⟩
  have hsz7 : T6.heap.size = b7 := by rw [e6, g7]
  rw [hsz7] at bA7 st7
  have A7 : Arr Z h7 b7 B7 .long := by rw [← e7]; exact own_rra hZ X7 bA7
  have E7 : Ext h6 h7 := by
    rw [← e7, bh7, e6]
    exact ⟨by simp, fun x c q => by rw [Array.getElem?_push_lt (Array.getElem?_eq_some_iff.mp q).1]; exact (Array.getElem?_eq_getElem _).symm.trans q⟩
  have V_b7 : Arv Z h7 b7 B7.cls .long p2 own_zz (.long (0 : Int64)) := own_newV A7 bs7 hi (by omega)
  have g_b7 : n0 ≤ b7 := Nat.le_trans Z0 (Nat.le_trans K6.1 (Nat.le_of_eq g7.symm))
  have sz_b7 : h0.size ≤ b7 := Nat.le_trans K6.1 (Nat.le_of_eq g7.symm)
  have K7 : Keep h0 h7 [a1] := K6.ext E7
  have hne : b7 ≠ a1 := fun q => absurd (Nat.lt_of_lt_of_le E_a1.lt sz_b7) (by rw [q]; exact Nat.lt_irrefl _)
  have hcl7 : Z.vm.findClass "[J" = some B7.cls := by have q := bf7; rw [hZ.alike.findClass] at q; exact q
  obtain ⟨T8, h8, X8, e8, W8, st8⟩ := putF X7 hx hZ hown (host := "") (Or.inl (hw _ (List.mem_of_getElem? (i := 28) rfl))) Via.refl e7 ((((F_small_a1.ext E4).keep K5q hnb).other W6 (Or.inr (slot_ne (Or.inl (hw _ (List.mem_of_getElem? (i := 29) rfl))) (Or.inr (hw _ (List.mem_of_getElem? (i := 26) rfl))) (by decide) (t := (.array .long)) (t' := (.object "java/util/Map")) (by decide) (by decide)))).ext E7) ((((E_a1.ext E4).keep K5q).wr W6).ext E7) (Or.inl (hw _ (List.mem_of_getElem? (i := 29) rfl))) (hw _ (List.mem_of_getElem? (i := 1) rfl)) (ty := (.array .long)) (by decide) rfl rfl (g := (mkF m 19 #[.val (.ref a1), .val (.int p2)] [(.ref b7), (.ref a1)])) rfl rfl (hb hby d1_19)
  have Fw8 := ((((F_small_a1.ext E4).keep K5q hnb).other W6 (Or.inr (slot_ne (Or.inl (hw _ (List.mem_of_getElem? (i := 29) rfl))) (Or.inr (hw _ (List.mem_of_getElem? (i := 26) rfl))) (by decide) (t := (.array .long)) (t' := (.object "java/util/Map")) (by decide) (by decide)))).ext E7).same W8
  have K8 : Keep h0 h8 [a1] := K7.wr W8 (Or.inl (List.mem_of_getElem? (i := 0) rfl))
  have N8 := Fr.snoc X8 N6 g_a1
  obtain ⟨fs, hr, hrun, hended, hW, hsame⟩ := X8.leave (v := none) (fun _ => rfl)
  refine ⟨_, _, pre0 _ ?_, hrun, hended, _, _, rfl, ?_, ⟨_, rfl⟩, hW, hsame.mono (by decide) (by show 8 + 0 + i ≤ 16; omega)⟩
  · show Steps p.tables e below (s₁.setTop (mkF m 0 #[.val (.ref a1), .val (.int p2)] [])) _
    refine XS.aloadN X0.here hx rfl (hb hby d1_0) rfl rfl ?_
    show Steps p.tables e below (s₁.setTop (mkF m 1 #[.val (.ref a1), .val (.int p2)] [(.ref a1)])) _
    refine st3 _ ?_
    show Steps p.tables e below (T3.setTop (mkF m 4 #[.val (.ref a1), .val (.int p2)] [])) _
    refine XS.aloadN X3.here hx rfl (hb hby d1_4) rfl rfl ?_
    show Steps p.tables e below (T3.setTop (mkF m 5 #[.val (.ref a1), .val (.int p2)] [(.ref a1)])) _
    refine st4 _ ?_
    show Steps p.tables e below (T4.setTop (mkF m 8 #[.val (.ref a1), .val (.int p2)] [(.ref b4), (.ref a1)])) _
    refine XS.dup X4.here hx rfl (hb hby d1_8) rfl rfl ?_
    show Steps p.tables e below (T4.setTop (mkF m 9 #[.val (.ref a1), .val (.int p2)] [(.ref b4), (.ref b4), (.ref a1)])) _
    refine st5.trans ?_
    show Steps p.tables e below (T5.setTop (mkF m 12 #[.val (.ref a1), .val (.int p2)] [(.ref b4), (.ref a1)])) _
    refine st6 _ ?_
    show Steps p.tables e below (T6.setTop (mkF m 15 #[.val (.ref a1), .val (.int p2)] [])) _
    refine XS.aloadN X6.here hx rfl (hb hby d1_15) rfl rfl ?_
    show Steps p.tables e below (T6.setTop (mkF m 16 #[.val (.ref a1), .val (.int p2)] [(.ref a1)])) _
    refine XS.iloadN X6.here hx rfl (hb hby d1_16) rfl ?_
    show Steps p.tables e below (T6.setTop (mkF m 17 #[.val (.ref a1), .val (.int p2)] [(.int p2), (.ref a1)])) _
    refine st7 _ ?_
    show Steps p.tables e below (T7.setTop (mkF m 19 #[.val (.ref a1), .val (.int p2)] [(.ref b7), (.ref a1)])) _
    refine st8 _ ?_
    show Steps p.tables e below (T8.setTop (mkF m 22 #[.val (.ref a1), .val (.int p2)] [])) _
    exact X8.returnOut hx Bd.returns (hb hby d1_22) hr
  · show Q1 Z a1 p2 u_large_a1 u_small_a1 h0 n0 _ T8.heap _
    rw [e8]
    exact ⟨b7, B7.cls, rfl, N8, K8, g_b7, hcl7, ((((E_a1.ext E4).keep K5q).wr W6).ext E7).wr W8, Fw8, ((((F_least_a1.ext E4).keep K5q hnb).other W6 (Or.inr (slot_ne (Or.inl (hw _ (List.mem_of_getElem? (i := 36) rfl))) (Or.inr (hw _ (List.mem_of_getElem? (i := 26) rfl))) (by decide) (t := .int) (t' := (.object "java/util/Map")) (by decide) (by decide)))).ext E7).other W8 (Or.inr (slot_ne (Or.inl (hw _ (List.mem_of_getElem? (i := 36) rfl))) (Or.inl (hw _ (List.mem_of_getElem? (i := 29) rfl))) (by decide) (t := .int) (t' := (.array .long)) (by decide) (by decide))), V_b7.other W8 hne⟩
theorem d5_0 : decode prog_35_method_3_code 0 = .ok (.aload_n 0, 1) := by decide +kernel
theorem d5_1 : decode prog_35_method_3_code 1 = .ok (.iload_n 1, 1) := by decide +kernel
theorem d5_2 : decode prog_35_method_3_code 2 = .ok (.putfield 26, 3) := by decide +kernel
theorem d5_5 : decode prog_35_method_3_code 5 = .ok (.return_, 1) := by decide +kernel
theorem pn_5 : plainName "com/example/tightknit/tightknit/density/PowerSums" = true := by first | (simp [plainName, overriddenIn]; done) | decide +kernel
theorem ef_5 (m : MethodId) (x0 : Addr) (x1 : Int32) : entryFrame m #[(.ref x0), (.int x1)] 2 = mkF m 0 #[.val (.ref x0), .val (.int x1)] [] := by first | (simp [entryFrame, mkF, argsToLocals, Value.category]; done) | rfl
def Q5 (Z : State) (a1 : Addr) (p2 : Int32) (u_least_a1 : Value) (h0 : Heap) (n0 : Nat) (v : Option Value) (h : Heap) (L : List Loc) : Prop := v = none ∧ Fr n0 L ∧ Keep h0 h [a1] ∧ Exa Z h a1 "com/example/tightknit/tightknit/density/PowerSums" ∧ Fld Z h a1 "com/example/tightknit/tightknit/density/PowerSums" "least" "I" (.int p2) ∧ (∀ b : Addr, Fld Z h0 a1 "com/example/tightknit/tightknit/density/PowerSums" "small" "[J" (.ref b) → Fld Z h a1 "com/example/tightknit/tightknit/density/PowerSums" "small" "[J" (.ref b))
set_option maxRecDepth 65536 in
set_option maxHeartbeats 40000000 in
theorem rm5 (l : Launch) (Z : State) (a0 : Array Value) (hw : ∀ d ∈ tables_1, d.before a0 Z = true) (ws : List Jvm.Cond) (a1 : Addr) (p2 : Int32) (u_least_a1 : Value) (h0 : Heap) (n0 : Nat) (Z0 : n0 ≤ h0.size) (E_a1 : Exa Z h0 a1 "com/example/tightknit/tightknit/density/PowerSums") (F_least_a1 : Fld Z h0 a1 "com/example/tightknit/tightknit/density/PowerSums" "least" "I" u_least_a1) (g_a1 : n0 ≤ a1) :
    MetFree l (⟨"com/example/tightknit/tightknit/density/PowerSums", "start", "(I)V"⟩ : MethodName) (head1 (Jvm.Cond.code (⟨"com/example/tightknit/tightknit/density/PowerSums", "start", "(I)V"⟩ : MethodName) prog_35_method_3_code 2 none :: ws) ({ frames := 0, cells := 0, slots := 0, locals := 0 } : Room)) (fun a U => a = #[(.ref a1), (.int p2)] ∧ Z.Warmed39 U.vm ∧ U.heap = h0) (fun _ _ _ _ _ => True) (fun _ U o U' => ∃ v L, o = .returned v ∧ Q5 Z a1 p2 u_least_a1 h0 n0 v U'.heap L ∧ FrameEnd U o U' L ({ frames := 0, cells := 0, slots := 0, locals := 0 } : Room).cells ({ frames := 0, cells := 0, slots := 0, locals := 0 } : Room).slots) := by
  refine MetFree.of_bodySF (plainFor_of_name pn_5) hisR ?_
  intro p e s m args below meth c s₁ Bd hml0 hP hK
  obtain ⟨rfl, hZ, hh⟩ := hP
  have hx := Bd.exec
  have hby := Bd.bytes
  have hml : c.maxLocals = 2 := hml0
  have hown : s.vm.findClass "com/example/tightknit/tightknit/density/PowerSums" = some m.cls := findClass_of_methodNamed Bd.named
  have hnm := (name_of_methodNamed Bd.named Bd.method).1
  have X0 : Stand p l e ({ frames := 0, cells := 0, slots := 0, locals := 0 } : Room) s m #[(.ref a1), (.int p2)] below meth c s₁ [] 0 0 := Stand.of_body Bd
  have e0 : s₁.heap = h0 := by rw [← hh, Bd.state]; rfl
  have N0 := Fr.nil n0
  have pre0 : ∀ t, Steps p.tables e below (s₁.setTop (mkF m 0 #[.val (.ref a1), .val (.int p2)] [])) t → Steps p.tables e below (s₁.setTop (entryFrame m #[(.ref a1), (.int p2)] 2)) t := fun t k => castTop (ef_5 m a1 p2) k
  obtain ⟨T3, h3, X3, e3, W3, st3⟩ := putF X0 hx hZ hown (host := "") (Or.inl (hw _ (List.mem_of_getElem? (i := 35) rfl))) Via.refl e0 F_least_a1 E_a1 (Or.inl (hw _ (List.mem_of_getElem? (i := 36) rfl))) (hw _ (List.mem_of_getElem? (i := 1) rfl)) (ty := .int) (by decide) rfl rfl (g := (mkF m 2 #[.val (.ref a1), .val (.int p2)] [(.int p2), (.ref a1)])) rfl rfl (hb hby d5_2)
  have Fw3 := F_least_a1.same W3
  have K3 : Keep h0 h3 [a1] := (Keep.refl h0 [a1]).wr W3 (Or.inl (List.mem_of_getElem? (i := 0) rfl))
  have N3 := Fr.snoc X3 N0 g_a1
  obtain ⟨fs, hr, hrun, hended, hW, hsame⟩ := X3.leave (v := none) (fun _ => rfl)
  refine ⟨_, _, pre0 _ ?_, hrun, hended, _, _, rfl, ?_, ⟨_, rfl⟩, hW, hsame.mono (by decide) (by decide)⟩
  · show Steps p.tables e below (s₁.setTop (mkF m 0 #[.val (.ref a1), .val (.int p2)] [])) _
    refine XS.aloadN X0.here hx rfl (hb hby d5_0) rfl rfl ?_
    show Steps p.tables e below (s₁.setTop (mkF m 1 #[.val (.ref a1), .val (.int p2)] [(.ref a1)])) _
    refine XS.iloadN X0.here hx rfl (hb hby d5_1) rfl ?_
    show Steps p.tables e below (s₁.setTop (mkF m 2 #[.val (.ref a1), .val (.int p2)] [(.int p2), (.ref a1)])) _
    refine st3 _ ?_
    show Steps p.tables e below (T3.setTop (mkF m 5 #[.val (.ref a1), .val (.int p2)] [])) _
    exact X3.returnOut hx Bd.returns (hb hby d5_5) hr
  · show Q5 Z a1 p2 u_least_a1 h0 n0 _ T3.heap _
    rw [e3]
    exact ⟨rfl, N3, K3, (E_a1.wr W3), Fw3, fun b q => q.other W3 (Or.inr (slot_ne (Or.inl (hw _ (List.mem_of_getElem? (i := 29) rfl))) (Or.inl (hw _ (List.mem_of_getElem? (i := 36) rfl))) (by decide) (t := (.array .long)) (t' := .int) (by decide) (by decide)))⟩
def own_ad (w8 : Int64) : Int32 := if (lcmpW w8 (0 : Int64)) = (0 : Int32) then (1 : Int32) else (0 : Int32)
theorem d6_0 : decode prog_35_method_4_code 0 = .ok (.iload_n 2, 1) := by decide +kernel
theorem d6_1 : decode prog_35_method_4_code 1 = .ok (.aload_n 0, 1) := by decide +kernel
theorem d6_2 : decode prog_35_method_4_code 2 = .ok (.getfield 26, 3) := by decide +kernel
theorem d6_5 : decode prog_35_method_4_code 5 = .ok (.isub, 1) := by decide +kernel
theorem d6_6 : decode prog_35_method_4_code 6 = .ok (.istore_n 3, 1) := by decide +kernel
theorem d6_7 : decode prog_35_method_4_code 7 = .ok (.aload_n 0, 1) := by decide +kernel
theorem d6_8 : decode prog_35_method_4_code 8 = .ok (.getfield 16, 3) := by decide +kernel
theorem d6_11 : decode prog_35_method_4_code 11 = .ok (.iload_n 1, 1) := by decide +kernel
theorem d6_12 : decode prog_35_method_4_code 12 = .ok (.laload, 1) := by decide +kernel
theorem d6_13 : decode prog_35_method_4_code 13 = .ok (.lstore 4, 2) := by decide +kernel
theorem d6_15 : decode prog_35_method_4_code 15 = .ok (.lload 4, 2) := by decide +kernel
theorem d6_17 : decode prog_35_method_4_code 17 = .ok (.ldc2_w 30, 3) := by decide +kernel
theorem d6_20 : decode prog_35_method_4_code 20 = .ok (.lcmp, 1) := by decide +kernel
theorem d6_21 : decode prog_35_method_4_code 21 = .ok (.ifCond .eq 37, 3) := by decide +kernel
theorem d6_24 : decode prog_35_method_4_code 24 = .ok (.iload_n 3, 1) := by decide +kernel
theorem d6_25 : decode prog_35_method_4_code 25 = .ok (.bipush 63, 2) := by decide +kernel
theorem d6_27 : decode prog_35_method_4_code 27 = .ok (.if_icmp .ge 31, 3) := by decide +kernel
theorem d6_30 : decode prog_35_method_4_code 30 = .ok (.lload 4, 2) := by decide +kernel
theorem d6_32 : decode prog_35_method_4_code 32 = .ok (.ldc2_w 34, 3) := by decide +kernel
theorem d6_35 : decode prog_35_method_4_code 35 = .ok (.lconst 1, 1) := by decide +kernel
theorem d6_36 : decode prog_35_method_4_code 36 = .ok (.iload_n 3, 1) := by decide +kernel
theorem d6_37 : decode prog_35_method_4_code 37 = .ok (.lshl, 1) := by decide +kernel
theorem d6_38 : decode prog_35_method_4_code 38 = .ok (.lsub, 1) := by decide +kernel
theorem d6_39 : decode prog_35_method_4_code 39 = .ok (.lcmp, 1) := by decide +kernel
theorem d6_40 : decode prog_35_method_4_code 40 = .ok (.ifCond .gt 18, 3) := by decide +kernel
theorem d6_43 : decode prog_35_method_4_code 43 = .ok (.aload_n 0, 1) := by decide +kernel
theorem d6_44 : decode prog_35_method_4_code 44 = .ok (.getfield 16, 3) := by decide +kernel
theorem d6_47 : decode prog_35_method_4_code 47 = .ok (.iload_n 1, 1) := by decide +kernel
theorem d6_48 : decode prog_35_method_4_code 48 = .ok (.lload 4, 2) := by decide +kernel
theorem d6_50 : decode prog_35_method_4_code 50 = .ok (.lconst 1, 1) := by decide +kernel
theorem d6_51 : decode prog_35_method_4_code 51 = .ok (.iload_n 3, 1) := by decide +kernel
theorem d6_52 : decode prog_35_method_4_code 52 = .ok (.lshl, 1) := by decide +kernel
theorem d6_53 : decode prog_35_method_4_code 53 = .ok (.ladd, 1) := by decide +kernel
theorem d6_54 : decode prog_35_method_4_code 54 = .ok (.lastore, 1) := by decide +kernel
theorem d6_55 : decode prog_35_method_4_code 55 = .ok (.goto 79, 3) := by decide +kernel
theorem d6_134 : decode prog_35_method_4_code 134 = .ok (.lload 4, 2) := by decide +kernel
theorem d6_136 : decode prog_35_method_4_code 136 = .ok (.lconst 0, 1) := by decide +kernel
theorem d6_137 : decode prog_35_method_4_code 137 = .ok (.lcmp, 1) := by decide +kernel
theorem d6_138 : decode prog_35_method_4_code 138 = .ok (.ifCond .ne 7, 3) := by decide +kernel
theorem d6_141 : decode prog_35_method_4_code 141 = .ok (.iconst 1, 1) := by decide +kernel
theorem d6_142 : decode prog_35_method_4_code 142 = .ok (.goto 4, 3) := by decide +kernel
theorem d6_145 : decode prog_35_method_4_code 145 = .ok (.iconst 0, 1) := by decide +kernel
theorem d6_146 : decode prog_35_method_4_code 146 = .ok (.ireturn, 1) := by decide +kernel
theorem pn_6 : plainName "com/example/tightknit/tightknit/density/PowerSums" = true := by first | (simp [plainName, overriddenIn]; done) | decide +kernel
theorem ef_6 (m : MethodId) (x0 : Addr) (x1 : Int32) (x2 : Int32) : entryFrame m #[(.ref x0), (.int x1), (.int x2)] 6 = mkF m 0 #[.val (.ref x0), .val (.int x1), .val (.int x2), .unset, .unset, .unset] [] := by first | (simp [entryFrame, mkF, argsToLocals, Value.category]; done) | rfl
def Q6 (Z : State) (a1 : Addr) (p2 : Int32) (p3 : Int32) (w4 : Int32) (w6 : Addr) (w8 : Int64) (kB : ClassId) (n : Int32) (vs : List Value) (i : Nat) (h0 : Heap) (n0 : Nat) (v : Option Value) (h : Heap) (L : List Loc) : Prop := v = some (.int (own_ad w8)) ∧ Fr n0 L ∧ Keep h0 h [w6] ∧ Arv Z h w6 kB .long n (vs.set i (.long (w8 + own_sh p3 w4))) (.long (0 : Int64))
set_option maxRecDepth 65536 in
set_option maxHeartbeats 40000000 in
theorem rm6 (l : Launch) (Z : State) (a0 : Array Value) (hw : ∀ d ∈ tables_1, d.before a0 Z = true) (ws : List Jvm.Cond) (a1 : Addr) (p2 : Int32) (p3 : Int32) (w4 : Int32) (w6 : Addr) (w8 : Int64) (kB : ClassId) (n : Int32) (vs : List Value) (i : Nat) (h0 : Heap) (n0 : Nat) (Z0 : n0 ≤ h0.size) (F_least_a1 : Fld Z h0 a1 "com/example/tightknit/tightknit/density/PowerSums" "least" "I" (.int w4)) (F_small_a1 : Fld Z h0 a1 "com/example/tightknit/tightknit/density/PowerSums" "small" "[J" (.ref w6)) (V0 : Arv Z h0 w6 kB .long n vs (.long (0 : Int64))) (hi : p2.toInt = (i : Int)) (hin : (i : Int) < n.toInt) (hi16 : i < vs.length) (hat : vs.getD i (.long (0 : Int64)) = .long w8) (g_w6 : n0 ≤ w6) (hc21 : ¬ ((lcmpW w8 (-1 : Int64)) = (0 : Int32))) (hc27 : (p3 - w4) < (63 : Int32)) (hc40 : ¬ ((0 : Int32) < (lcmpW w8 ((9223372036854775807 : Int64) - ((1 : Int64) <<< ((p3 - w4) &&& 0x3f).toInt64))))) :
    MetFree l (⟨"com/example/tightknit/tightknit/density/PowerSums", "add", "(II)Z"⟩ : MethodName) (head1 (Jvm.Cond.code (⟨"com/example/tightknit/tightknit/density/PowerSums", "add", "(II)Z"⟩ : MethodName) prog_35_method_4_code 6 (some .boolean) :: ws) ({ frames := 0, cells := 0, slots := 0, locals := 0 } : Room)) (fun a U => a = #[(.ref a1), (.int p2), (.int p3)] ∧ Z.Warmed39 U.vm ∧ U.heap = h0) (fun _ _ _ _ _ => True) (fun _ U o U' => ∃ v L, o = .returned v ∧ Q6 Z a1 p2 p3 w4 w6 w8 kB n vs i h0 n0 v U'.heap L ∧ FrameEnd U o U' L ({ frames := 0, cells := 0, slots := 0, locals := 0 } : Room).cells ({ frames := 0, cells := 0, slots := 0, locals := 0 } : Room).slots) := by
  refine MetFree.of_bodySF (plainFor_of_name pn_6) hisR ?_
  intro p e s m args below meth c s₁ Bd hml0 hP hK
  obtain ⟨rfl, hZ, hh⟩ := hP
  have hx := Bd.exec
  have hby := Bd.bytes
  have hml : c.maxLocals = 6 := hml0
  have hown : s.vm.findClass "com/example/tightknit/tightknit/density/PowerSums" = some m.cls := findClass_of_methodNamed Bd.named
  have hnm := (name_of_methodNamed Bd.named Bd.method).1
  have X0 : Stand p l e ({ frames := 0, cells := 0, slots := 0, locals := 0 } : Room) s m #[(.ref a1), (.int p2), (.int p3)] below meth c s₁ [] 0 0 := Stand.of_body Bd
  have e0 : s₁.heap = h0 := by rw [← hh, Bd.state]; rfl
  have N0 := Fr.nil n0
  have pre0 : ∀ t, Steps p.tables e below (s₁.setTop (mkF m 0 #[.val (.ref a1), .val (.int p2), .val (.int p3), .unset, .unset, .unset] [])) t → Steps p.tables e below (s₁.setTop (entryFrame m #[(.ref a1), (.int p2), (.int p3)] 6)) t := fun t k => castTop (ef_6 m a1 p2 p3) k
  obtain ⟨cl_w6, Ar_w6, q_w6, S_w6, M_w6, H_w6, G_w6⟩ := V0
  have hin12 : ¬ (p2 < 0 ∨ cl_w6.slots.size ≤ (p2).toNatClampNeg) := inb_of S_w6 (own_bd hi hin)
  have hin54 := hin12
  have hat12 : cl_w6.slots[(p2).toNatClampNeg]? = some (.long w8) := by rw [own_ix hi, H_w6 i (own_lt S_w6 hin), hat]
  obtain ⟨T5, X5, e5, st5⟩ := getF X0 hx hZ hown (host := "") (Or.inl (hw _ (List.mem_of_getElem? (i := 35) rfl))) Via.refl e0 F_least_a1 (g := (mkF m 2 #[.val (.ref a1), .val (.int p2), .val (.int p3), .unset, .unset, .unset] [(.ref a1), (.int p3)])) rfl rfl (hb hby d6_2)
  obtain ⟨T7, X7, e7, st7⟩ := getF X5 hx hZ hown (host := "") (Or.inl (hw _ (List.mem_of_getElem? (i := 28) rfl))) Via.refl e5 F_small_a1 (g := (mkF m 8 #[.val (.ref a1), .val (.int p2), .val (.int p3), .val (.int (p3 - w4)), .unset, .unset] [(.ref a1)])) rfl rfl (hb hby d6_8)
  obtain ⟨T9, X9, e9, st9⟩ := getF X7 hx hZ hown (host := "") (Or.inl (hw _ (List.mem_of_getElem? (i := 28) rfl))) Via.refl e7 F_small_a1 (g := (mkF m 44 #[.val (.ref a1), .val (.int p2), .val (.int p3), .val (.int (p3 - w4)), .val (.long w8), .second] [(.ref a1)])) rfl rfl (hb hby d6_44)
  obtain ⟨T10, h10, X10, e10, W10, st10⟩ := stJ X9 hx hZ e9 Ar_w6 (j := p2) hin54 (g := (mkF m 54 #[.val (.ref a1), .val (.int p2), .val (.int p3), .val (.int (p3 - w4)), .val (.long w8), .second] [(.long (w8 + ((1 : Int64) <<< ((p3 - w4) &&& 0x3f).toInt64))), (.int p2), (.ref w6)])) rfl rfl (hb hby d6_54)
  have N10 := Fr.snoc X10 N0 g_w6
  have K10 : Keep h0 h10 [w6] := (Keep.refl h0 [w6]).wr W10 (Or.inl (List.mem_of_getElem? (i := 0) rfl))
  obtain ⟨fs, hr, hrun, hended, hW, hsame⟩ := X10.leave (v := some (.int (own_ad w8))) (fun h => by rw [Bd.returns] at h; cases h)
  refine ⟨_, _, pre0 _ ?_, hrun, hended, _, _, rfl, ?_, ⟨_, rfl⟩, hW, hsame.mono (by decide) (by decide)⟩
  · show Steps p.tables e below (s₁.setTop (mkF m 0 #[.val (.ref a1), .val (.int p2), .val (.int p3), .unset, .unset, .unset] [])) _
    refine XS.iloadN X0.here hx rfl (hb hby d6_0) rfl ?_
    show Steps p.tables e below (s₁.setTop (mkF m 1 #[.val (.ref a1), .val (.int p2), .val (.int p3), .unset, .unset, .unset] [(.int p3)])) _
    refine XS.aloadN X0.here hx rfl (hb hby d6_1) rfl rfl ?_
    show Steps p.tables e below (s₁.setTop (mkF m 2 #[.val (.ref a1), .val (.int p2), .val (.int p3), .unset, .unset, .unset] [(.ref a1), (.int p3)])) _
    refine st5 _ ?_
    show Steps p.tables e below (T5.setTop (mkF m 5 #[.val (.ref a1), .val (.int p2), .val (.int p3), .unset, .unset, .unset] [(.int w4), (.int p3)])) _
    refine XS.isub X5.here hx rfl (hb hby d6_5) rfl ?_
    show Steps p.tables e below (T5.setTop (mkF m 6 #[.val (.ref a1), .val (.int p2), .val (.int p3), .unset, .unset, .unset] [(.int (p3 - w4))])) _
    refine XS.istoreN X5.here hx rfl (hb hby d6_6) rfl (l' := #[.val (.ref a1), .val (.int p2), .val (.int p3), .val (.int (p3 - w4)), .unset, .unset]) rfl ?_
    show Steps p.tables e below (T5.setTop (mkF m 7 #[.val (.ref a1), .val (.int p2), .val (.int p3), .val (.int (p3 - w4)), .unset, .unset] [])) _
    refine XS.aloadN X5.here hx rfl (hb hby d6_7) rfl rfl ?_
    show Steps p.tables e below (T5.setTop (mkF m 8 #[.val (.ref a1), .val (.int p2), .val (.int p3), .val (.int (p3 - w4)), .unset, .unset] [(.ref a1)])) _
    refine st7 _ ?_
    show Steps p.tables e below (T7.setTop (mkF m 11 #[.val (.ref a1), .val (.int p2), .val (.int p3), .val (.int (p3 - w4)), .unset, .unset] [(.ref w6)])) _
    refine XS.iloadN X7.here hx rfl (hb hby d6_11) rfl ?_
    show Steps p.tables e below (T7.setTop (mkF m 12 #[.val (.ref a1), .val (.int p2), .val (.int p3), .val (.int (p3 - w4)), .unset, .unset] [(.int p2), (.ref w6)])) _
    refine X7.laload hx (j := p2) (v := (.long w8)) (by rw [e7]; exact Ar_w6.1) (State.isArrayOf_alike hZ.alike Ar_w6.2.1) Ar_w6.2.2 hin12 hat12 (g := (mkF m 12 #[.val (.ref a1), .val (.int p2), .val (.int p3), .val (.int (p3 - w4)), .unset, .unset] [(.int p2), (.ref w6)])) rfl rfl (hb hby d6_12) _ ?_
    show Steps p.tables e below (T7.setTop (mkF m 13 #[.val (.ref a1), .val (.int p2), .val (.int p3), .val (.int (p3 - w4)), .unset, .unset] [(.long w8)])) _
    refine XS.lstore X7.here hx rfl (hb hby d6_13) rfl (l' := #[.val (.ref a1), .val (.int p2), .val (.int p3), .val (.int (p3 - w4)), .val (.long w8), .second]) rfl ?_
    show Steps p.tables e below (T7.setTop (mkF m 15 #[.val (.ref a1), .val (.int p2), .val (.int p3), .val (.int (p3 - w4)), .val (.long w8), .second] [])) _
    refine XS.lload X7.here hx rfl (hb hby d6_15) rfl ?_
    show Steps p.tables e below (T7.setTop (mkF m 17 #[.val (.ref a1), .val (.int p2), .val (.int p3), .val (.int (p3 - w4)), .val (.long w8), .second] [(.long w8)])) _
    refine X7.ldc2Long hx hown (mvT hZ (hw _ (List.mem_of_getElem? (i := 42) rfl))) (g := (mkF m 17 #[.val (.ref a1), .val (.int p2), .val (.int p3), .val (.int (p3 - w4)), .val (.long w8), .second] [(.long w8)])) rfl (hb hby d6_17) _ ?_
    show Steps p.tables e below (T7.setTop (mkF m 20 #[.val (.ref a1), .val (.int p2), .val (.int p3), .val (.int (p3 - w4)), .val (.long w8), .second] [(.long (-1 : Int64)), (.long w8)])) _
    refine XS.lcmp X7.here hx rfl (hb hby d6_20) rfl ?_
    show Steps p.tables e below (T7.setTop (mkF m 21 #[.val (.ref a1), .val (.int p2), .val (.int p3), .val (.int (p3 - w4)), .val (.long w8), .second] [(.int (lcmpW w8 (-1 : Int64)))])) _
    refine XS.ifNo X7.here hx rfl (hb hby d6_21) rfl ((if0 _ _).trans (feq hc21).1) ?_
    show Steps p.tables e below (T7.setTop (mkF m 24 #[.val (.ref a1), .val (.int p2), .val (.int p3), .val (.int (p3 - w4)), .val (.long w8), .second] [])) _
    refine XS.iloadN X7.here hx rfl (hb hby d6_24) rfl ?_
    show Steps p.tables e below (T7.setTop (mkF m 25 #[.val (.ref a1), .val (.int p2), .val (.int p3), .val (.int (p3 - w4)), .val (.long w8), .second] [(.int (p3 - w4))])) _
    refine XS.bipush X7.here hx rfl (hb hby d6_25) ?_
    show Steps p.tables e below (T7.setTop (mkF m 27 #[.val (.ref a1), .val (.int p2), .val (.int p3), .val (.int (p3 - w4)), .val (.long w8), .second] [(.int (63 : Int32)), (.int (p3 - w4))])) _
    refine XS.icmpNo X7.here hx rfl (hb hby d6_27) rfl (tlt hc27).2.1 ?_
    show Steps p.tables e below (T7.setTop (mkF m 30 #[.val (.ref a1), .val (.int p2), .val (.int p3), .val (.int (p3 - w4)), .val (.long w8), .second] [])) _
    refine XS.lload X7.here hx rfl (hb hby d6_30) rfl ?_
    show Steps p.tables e below (T7.setTop (mkF m 32 #[.val (.ref a1), .val (.int p2), .val (.int p3), .val (.int (p3 - w4)), .val (.long w8), .second] [(.long w8)])) _
    refine X7.ldc2Long hx hown (mvT hZ (hw _ (List.mem_of_getElem? (i := 43) rfl))) (g := (mkF m 32 #[.val (.ref a1), .val (.int p2), .val (.int p3), .val (.int (p3 - w4)), .val (.long w8), .second] [(.long w8)])) rfl (hb hby d6_32) _ ?_
    show Steps p.tables e below (T7.setTop (mkF m 35 #[.val (.ref a1), .val (.int p2), .val (.int p3), .val (.int (p3 - w4)), .val (.long w8), .second] [(.long (9223372036854775807 : Int64)), (.long w8)])) _
    refine XS.lconst X7.here hx rfl (hb hby d6_35) ?_
    show Steps p.tables e below (T7.setTop (mkF m 36 #[.val (.ref a1), .val (.int p2), .val (.int p3), .val (.int (p3 - w4)), .val (.long w8), .second] [(.long (1 : Int64)), (.long (9223372036854775807 : Int64)), (.long w8)])) _
    refine XS.iloadN X7.here hx rfl (hb hby d6_36) rfl ?_
    show Steps p.tables e below (T7.setTop (mkF m 37 #[.val (.ref a1), .val (.int p2), .val (.int p3), .val (.int (p3 - w4)), .val (.long w8), .second] [(.int (p3 - w4)), (.long (1 : Int64)), (.long (9223372036854775807 : Int64)), (.long w8)])) _
    refine XS.lshl X7.here hx rfl (hb hby d6_37) rfl ?_
    show Steps p.tables e below (T7.setTop (mkF m 38 #[.val (.ref a1), .val (.int p2), .val (.int p3), .val (.int (p3 - w4)), .val (.long w8), .second] [(.long ((1 : Int64) <<< ((p3 - w4) &&& 0x3f).toInt64)), (.long (9223372036854775807 : Int64)), (.long w8)])) _
    refine XS.lsub X7.here hx rfl (hb hby d6_38) rfl ?_
    show Steps p.tables e below (T7.setTop (mkF m 39 #[.val (.ref a1), .val (.int p2), .val (.int p3), .val (.int (p3 - w4)), .val (.long w8), .second] [(.long ((9223372036854775807 : Int64) - ((1 : Int64) <<< ((p3 - w4) &&& 0x3f).toInt64))), (.long w8)])) _
    refine XS.lcmp X7.here hx rfl (hb hby d6_39) rfl ?_
    show Steps p.tables e below (T7.setTop (mkF m 40 #[.val (.ref a1), .val (.int p2), .val (.int p3), .val (.int (p3 - w4)), .val (.long w8), .second] [(.int (lcmpW w8 ((9223372036854775807 : Int64) - ((1 : Int64) <<< ((p3 - w4) &&& 0x3f).toInt64))))])) _
    refine XS.ifNo X7.here hx rfl (hb hby d6_40) rfl ((if0 _ _).trans (flt hc40).2.2.1) ?_
    show Steps p.tables e below (T7.setTop (mkF m 43 #[.val (.ref a1), .val (.int p2), .val (.int p3), .val (.int (p3 - w4)), .val (.long w8), .second] [])) _
    refine XS.aloadN X7.here hx rfl (hb hby d6_43) rfl rfl ?_
    show Steps p.tables e below (T7.setTop (mkF m 44 #[.val (.ref a1), .val (.int p2), .val (.int p3), .val (.int (p3 - w4)), .val (.long w8), .second] [(.ref a1)])) _
    refine st9 _ ?_
    show Steps p.tables e below (T9.setTop (mkF m 47 #[.val (.ref a1), .val (.int p2), .val (.int p3), .val (.int (p3 - w4)), .val (.long w8), .second] [(.ref w6)])) _
    refine XS.iloadN X9.here hx rfl (hb hby d6_47) rfl ?_
    show Steps p.tables e below (T9.setTop (mkF m 48 #[.val (.ref a1), .val (.int p2), .val (.int p3), .val (.int (p3 - w4)), .val (.long w8), .second] [(.int p2), (.ref w6)])) _
    refine XS.lload X9.here hx rfl (hb hby d6_48) rfl ?_
    show Steps p.tables e below (T9.setTop (mkF m 50 #[.val (.ref a1), .val (.int p2), .val (.int p3), .val (.int (p3 - w4)), .val (.long w8), .second] [(.long w8), (.int p2), (.ref w6)])) _
    refine XS.lconst X9.here hx rfl (hb hby d6_50) ?_
    show Steps p.tables e below (T9.setTop (mkF m 51 #[.val (.ref a1), .val (.int p2), .val (.int p3), .val (.int (p3 - w4)), .val (.long w8), .second] [(.long (1 : Int64)), (.long w8), (.int p2), (.ref w6)])) _
    refine XS.iloadN X9.here hx rfl (hb hby d6_51) rfl ?_
    show Steps p.tables e below (T9.setTop (mkF m 52 #[.val (.ref a1), .val (.int p2), .val (.int p3), .val (.int (p3 - w4)), .val (.long w8), .second] [(.int (p3 - w4)), (.long (1 : Int64)), (.long w8), (.int p2), (.ref w6)])) _
    refine XS.lshl X9.here hx rfl (hb hby d6_52) rfl ?_
    show Steps p.tables e below (T9.setTop (mkF m 53 #[.val (.ref a1), .val (.int p2), .val (.int p3), .val (.int (p3 - w4)), .val (.long w8), .second] [(.long ((1 : Int64) <<< ((p3 - w4) &&& 0x3f).toInt64)), (.long w8), (.int p2), (.ref w6)])) _
    refine XS.ladd X9.here hx rfl (hb hby d6_53) rfl ?_
    show Steps p.tables e below (T9.setTop (mkF m 54 #[.val (.ref a1), .val (.int p2), .val (.int p3), .val (.int (p3 - w4)), .val (.long w8), .second] [(.long (w8 + ((1 : Int64) <<< ((p3 - w4) &&& 0x3f).toInt64))), (.int p2), (.ref w6)])) _
    refine st10 _ ?_
    show Steps p.tables e below (T10.setTop (mkF m 55 #[.val (.ref a1), .val (.int p2), .val (.int p3), .val (.int (p3 - w4)), .val (.long w8), .second] [])) _
    refine XS.goto X10.here hx rfl (pc0 := 55) (pc' := 134) rfl (hb hby d6_55) (by decide) (by decide) ?_
    show Steps p.tables e below (T10.setTop (mkF m 134 #[.val (.ref a1), .val (.int p2), .val (.int p3), .val (.int (p3 - w4)), .val (.long w8), .second] [])) _
    refine XS.lload X10.here hx rfl (hb hby d6_134) rfl ?_
    show Steps p.tables e below (T10.setTop (mkF m 136 #[.val (.ref a1), .val (.int p2), .val (.int p3), .val (.int (p3 - w4)), .val (.long w8), .second] [(.long w8)])) _
    refine XS.lconst X10.here hx rfl (hb hby d6_136) ?_
    show Steps p.tables e below (T10.setTop (mkF m 137 #[.val (.ref a1), .val (.int p2), .val (.int p3), .val (.int (p3 - w4)), .val (.long w8), .second] [(.long (0 : Int64)), (.long w8)])) _
    refine XS.lcmp X10.here hx rfl (hb hby d6_137) rfl ?_
    show Steps p.tables e below (T10.setTop (mkF m 138 #[.val (.ref a1), .val (.int p2), .val (.int p3), .val (.int (p3 - w4)), .val (.long w8), .second] [(.int (lcmpW w8 (0 : Int64)))])) _
    by_cases hc138 : (lcmpW w8 (0 : Int64)) = (0 : Int32)
    · refine XS.ifNo X10.here hx rfl (hb hby d6_138) rfl ((if0 _ _).trans (teq hc138).2) ?_
      show Steps p.tables e below (T10.setTop (mkF m 141 #[.val (.ref a1), .val (.int p2), .val (.int p3), .val (.int (p3 - w4)), .val (.long w8), .second] [])) _
      refine XS.iconst X10.here hx rfl (hb hby d6_141) ?_
      show Steps p.tables e below (T10.setTop (mkF m 142 #[.val (.ref a1), .val (.int p2), .val (.int p3), .val (.int (p3 - w4)), .val (.long w8), .second] [(.int (1 : Int32))])) _
      refine XS.goto X10.here hx rfl (pc0 := 142) (pc' := 146) rfl (hb hby d6_142) (by decide) (by decide) ?_
      show Steps p.tables e below (T10.setTop (mkF m 146 #[.val (.ref a1), .val (.int p2), .val (.int p3), .val (.int (p3 - w4)), .val (.long w8), .second] [(.int (1 : Int32))])) _
      have hv : (own_ad w8) = (1 : Int32) := by unfold own_ad; rw [if_pos hc138]
      rw [hv] at hr
      exact retN X10 hx (t := .boolean) Bd.returns (by simp) (hb hby d6_146) hr
    · refine XS.ifYes X10.here hx rfl (pc0 := 138) (pc' := 145) rfl (hb hby d6_138) rfl ((if0 _ _).trans (feq hc138).2) (by decide) (by decide) ?_
      show Steps p.tables e below (T10.setTop (mkF m 145 #[.val (.ref a1), .val (.int p2), .val (.int p3), .val (.int (p3 - w4)), .val (.long w8), .second] [])) _
      refine XS.iconst X10.here hx rfl (hb hby d6_145) ?_
      show Steps p.tables e below (T10.setTop (mkF m 146 #[.val (.ref a1), .val (.int p2), .val (.int p3), .val (.int (p3 - w4)), .val (.long w8), .second] [(.int (0 : Int32))])) _
      have hv : (own_ad w8) = (0 : Int32) := by unfold own_ad; rw [if_neg hc138]
      rw [hv] at hr
      exact retN X10 hx (t := .boolean) Bd.returns (by simp) (hb hby d6_146) hr
  · show Q6 Z a1 p2 p3 w4 w6 w8 kB n vs i h0 n0 _ T10.heap _
    rw [e10]
    exact ⟨rfl, N10, K10, Arv.set Ar_w6 q_w6 S_w6 M_w6 H_w6 G_w6 rfl W10 i (own_ix hi) hi16⟩
theorem d10_0 : decode prog_35_method_5_code 0 = .ok (.aload_n 0, 1) := by decide +kernel
theorem d10_1 : decode prog_35_method_5_code 1 = .ok (.getfield 16, 3) := by decide +kernel
theorem d10_4 : decode prog_35_method_5_code 4 = .ok (.iload_n 1, 1) := by decide +kernel
theorem d10_5 : decode prog_35_method_5_code 5 = .ok (.laload, 1) := by decide +kernel
theorem d10_6 : decode prog_35_method_5_code 6 = .ok (.lstore_n 2, 1) := by decide +kernel
theorem d10_7 : decode prog_35_method_5_code 7 = .ok (.lload_n 2, 1) := by decide +kernel
theorem d10_8 : decode prog_35_method_5_code 8 = .ok (.ldc2_w 30, 3) := by decide +kernel
theorem d10_11 : decode prog_35_method_5_code 11 = .ok (.lcmp, 1) := by decide +kernel
theorem d10_12 : decode prog_35_method_5_code 12 = .ok (.ifCond .ne 33, 3) := by decide +kernel
theorem d10_45 : decode prog_35_method_5_code 45 = .ok (.bipush 64, 2) := by decide +kernel
theorem d10_47 : decode prog_35_method_5_code 47 = .ok (.lload_n 2, 1) := by decide +kernel
theorem d10_48 : decode prog_35_method_5_code 48 = .ok (.lconst 1, 1) := by decide +kernel
theorem d10_49 : decode prog_35_method_5_code 49 = .ok (.lsub, 1) := by decide +kernel
theorem d10_50 : decode prog_35_method_5_code 50 = .ok (.invokestatic 84, 3) := by decide +kernel
theorem d10_53 : decode prog_35_method_5_code 53 = .ok (.isub, 1) := by decide +kernel
theorem d10_54 : decode prog_35_method_5_code 54 = .ok (.istore 4, 2) := by decide +kernel
theorem d10_56 : decode prog_35_method_5_code 56 = .ok (.aload_n 0, 1) := by decide +kernel
theorem d10_57 : decode prog_35_method_5_code 57 = .ok (.getfield 16, 3) := by decide +kernel
theorem d10_60 : decode prog_35_method_5_code 60 = .ok (.iload_n 1, 1) := by decide +kernel
theorem d10_61 : decode prog_35_method_5_code 61 = .ok (.lconst 0, 1) := by decide +kernel
theorem d10_62 : decode prog_35_method_5_code 62 = .ok (.lastore, 1) := by decide +kernel
theorem d10_63 : decode prog_35_method_5_code 63 = .ok (.aload_n 0, 1) := by decide +kernel
theorem d10_64 : decode prog_35_method_5_code 64 = .ok (.getfield 26, 3) := by decide +kernel
theorem d10_67 : decode prog_35_method_5_code 67 = .ok (.iload 4, 2) := by decide +kernel
theorem d10_69 : decode prog_35_method_5_code 69 = .ok (.iadd, 1) := by decide +kernel
theorem d10_70 : decode prog_35_method_5_code 70 = .ok (.ireturn, 1) := by decide +kernel
theorem pn_10 : plainName "com/example/tightknit/tightknit/density/PowerSums" = true := by first | (simp [plainName, overriddenIn]; done) | decide +kernel
theorem ef_10 (m : MethodId) (x0 : Addr) (x1 : Int32) : entryFrame m #[(.ref x0), (.int x1)] 5 = mkF m 0 #[.val (.ref x0), .val (.int x1), .unset, .unset, .unset] [] := by first | (simp [entryFrame, mkF, argsToLocals, Value.category]; done) | rfl
def Q10 (Z : State) (a1 : Addr) (p2 : Int32) (w3 : Addr) (w5 : Int64) (kB : ClassId) (n : Int32) (vs : List Value) (i : Nat) (w9 : Int32) (h0 : Heap) (n0 : Nat) (v : Option Value) (h : Heap) (L : List Loc) : Prop := v = some (.int (w9 + ((64 : Int32) - (own_nlz (w5 - (1 : Int64)))))) ∧ Fr n0 L ∧ Keep h0 h [w3] ∧ Arv Z h w3 kB .long n (vs.set i (.long (0 : Int64))) (.long (0 : Int64))
set_option maxRecDepth 65536 in
set_option maxHeartbeats 40000000 in
theorem rm10 (l : Launch) (Z : State) (a0 : Array Value) (hw : ∀ d ∈ tables_1, d.before a0 Z = true) (ws : List Jvm.Cond) (a1 : Addr) (p2 : Int32) (w3 : Addr) (w5 : Int64) (kB : ClassId) (n : Int32) (vs : List Value) (i : Nat) (w9 : Int32) (h0 : Heap) (n0 : Nat) (Z0 : n0 ≤ h0.size) (E_a1 : Exa Z h0 a1 "com/example/tightknit/tightknit/density/PowerSums") (F_small_a1 : Fld Z h0 a1 "com/example/tightknit/tightknit/density/PowerSums" "small" "[J" (.ref w3)) (V0 : Arv Z h0 w3 kB .long n vs (.long (0 : Int64))) (hi : p2.toInt = (i : Int)) (hin : (i : Int) < n.toInt) (hi16 : i < vs.length) (hat : vs.getD i (.long (0 : Int64)) = .long w5) (g_w3 : n0 ≤ w3) (F_least_a1 : Fld Z h0 a1 "com/example/tightknit/tightknit/density/PowerSums" "least" "I" (.int w9)) (hc12 : ¬ ((lcmpW w5 (-1 : Int64)) = (0 : Int32))) :
    MetFree l (⟨"com/example/tightknit/tightknit/density/PowerSums", "takeCeilingPower", "(I)I"⟩ : MethodName) (head1 (Jvm.Cond.code (⟨"com/example/tightknit/tightknit/density/PowerSums", "takeCeilingPower", "(I)I"⟩ : MethodName) prog_35_method_5_code 5 (some .int) :: ws) ({ frames := 2, cells := 0, slots := 0, locals := 29 } : Room)) (fun a U => a = #[(.ref a1), (.int p2)] ∧ Z.Warmed39 U.vm ∧ U.heap = h0) (fun _ _ _ _ _ => True) (fun _ U o U' => ∃ v L, o = .returned v ∧ Q10 Z a1 p2 w3 w5 kB n vs i w9 h0 n0 v U'.heap L ∧ FrameEnd U o U' L ({ frames := 2, cells := 0, slots := 0, locals := 29 } : Room).cells ({ frames := 2, cells := 0, slots := 0, locals := 29 } : Room).slots) := by
  refine MetFree.of_bodySF (plainFor_of_name pn_10) hisR ?_
  intro p e s m args below meth c s₁ Bd hml0 hP hK
  obtain ⟨rfl, hZ, hh⟩ := hP
  have hx := Bd.exec
  have hby := Bd.bytes
  have hml : c.maxLocals = 5 := hml0
  have hown : s.vm.findClass "com/example/tightknit/tightknit/density/PowerSums" = some m.cls := findClass_of_methodNamed Bd.named
  have hnm := (name_of_methodNamed Bd.named Bd.method).1
  have X0 : Stand p l e ({ frames := 2, cells := 0, slots := 0, locals := 29 } : Room) s m #[(.ref a1), (.int p2)] below meth c s₁ [] 0 0 := Stand.of_body Bd
  have e0 : s₁.heap = h0 := by rw [← hh, Bd.state]; rfl
  have N0 := Fr.nil n0
  have pre0 : ∀ t, Steps p.tables e below (s₁.setTop (mkF m 0 #[.val (.ref a1), .val (.int p2), .unset, .unset, .unset] [])) t → Steps p.tables e below (s₁.setTop (entryFrame m #[(.ref a1), (.int p2)] 5)) t := fun t k => castTop (ef_10 m a1 p2) k
  obtain ⟨cl_w3, Ar_w3, q_w3, S_w3, M_w3, H_w3, G_w3⟩ := V0
  have hin5 : ¬ (p2 < 0 ∨ cl_w3.slots.size ≤ (p2).toNatClampNeg) := inb_of S_w3 (own_bd hi hin)
  have hin62 := hin5
  have hat5 : cl_w3.slots[(p2).toNatClampNeg]? = some (.long w5) := by rw [own_ix hi, H_w3 i (own_lt S_w3 hin), hat]
  have hne : a1 ≠ w3 := ne_arr E_a1 (hw _ (List.mem_of_getElem? (i := 1) rfl)) Ar_w3
  obtain ⟨T4, X4, e4, st4⟩ := getF X0 hx hZ hown (host := "") (Or.inl (hw _ (List.mem_of_getElem? (i := 28) rfl))) Via.refl e0 F_small_a1 (g := (mkF m 1 #[.val (.ref a1), .val (.int p2), .unset, .unset, .unset] [(.ref a1)])) rfl rfl (hb hby d10_1)
  obtain ⟨T6, X6, e6, st6⟩ := Jvm.Free.XT.pS X4 hx hZ hown (Jvm.Free.JP.Long_numberOfLeadingZeros_J.law l (w5 - (1 : Int64))) rfl ⟨(hw _ (List.mem_of_getElem? (i := 66) rfl)), (hw _ (List.mem_of_getElem? (i := 67) rfl)), trivial⟩ ⟨(hw _ (List.mem_of_getElem? (i := 69) rfl)), (hw _ (List.mem_of_getElem? (i := 68) rfl)), (hw _ (List.mem_of_getElem? (i := 73) rfl)), (hw _ (List.mem_of_getElem? (i := 72) rfl)), (hw _ (List.mem_of_getElem? (i := 74) rfl)), (hw _ (List.mem_of_getElem? (i := 70) rfl)), (hw _ (List.mem_of_getElem? (i := 71) rfl)), trivial⟩ rfl e4 (g := (mkF m 50 #[.val (.ref a1), .val (.int p2), .val (.long w5), .second, .unset] [(.long (w5 - (1 : Int64))), (.int (64 : Int32))])) rfl (by rw [hml]; rfl) (argsL := [(.long (w5 - (1 : Int64)))]) (rest := [(.int (64 : Int32))]) rfl rfl (hb hby d10_50) (by decide) (W := 1) (by show 2 * 0 + _ ≤ _; exact Nat.le_of_eq rfl) (by decide) (by decide) (by decide) ⟨rfl, trivial⟩
  obtain ⟨T7, X7, e7, st7⟩ := getF X6 hx hZ hown (host := "") (Or.inl (hw _ (List.mem_of_getElem? (i := 28) rfl))) Via.refl e6 F_small_a1 (g := (mkF m 57 #[.val (.ref a1), .val (.int p2), .val (.long w5), .second, .val (.int ((64 : Int32) - (own_nlz (w5 - (1 : Int64)))))] [(.ref a1)])) rfl rfl (hb hby d10_57)
  obtain ⟨T8, h8, X8, e8, W8, st8⟩ := stJ X7 hx hZ e7 Ar_w3 (j := p2) hin62 (g := (mkF m 62 #[.val (.ref a1), .val (.int p2), .val (.long w5), .second, .val (.int ((64 : Int32) - (own_nlz (w5 - (1 : Int64)))))] [(.long (0 : Int64)), (.int p2), (.ref w3)])) rfl rfl (hb hby d10_62)
  have N8 := Fr.snoc X8 N0 g_w3
  have K8 : Keep h0 h8 [w3] := (Keep.refl h0 [w3]).wr W8 (Or.inl (List.mem_of_getElem? (i := 0) rfl))
  obtain ⟨T10, X10, e10, st10⟩ := getF X8 hx hZ hown (host := "") (Or.inl (hw _ (List.mem_of_getElem? (i := 35) rfl))) Via.refl e8 (F_least_a1.other W8 (Or.inl hne)) (g := (mkF m 64 #[.val (.ref a1), .val (.int p2), .val (.long w5), .second, .val (.int ((64 : Int32) - (own_nlz (w5 - (1 : Int64)))))] [(.ref a1)])) rfl rfl (hb hby d10_64)
  obtain ⟨fs, hr, hrun, hended, hW, hsame⟩ := X10.leave (v := some (.int (w9 + ((64 : Int32) - (own_nlz (w5 - (1 : Int64))))))) (fun h => by rw [Bd.returns] at h; cases h)
  refine ⟨_, _, pre0 _ ?_, hrun, hended, _, _, rfl, ?_, ⟨_, rfl⟩, hW, hsame.mono (by decide) (by decide)⟩
  · show Steps p.tables e below (s₁.setTop (mkF m 0 #[.val (.ref a1), .val (.int p2), .unset, .unset, .unset] [])) _
    refine XS.aloadN X0.here hx rfl (hb hby d10_0) rfl rfl ?_
    show Steps p.tables e below (s₁.setTop (mkF m 1 #[.val (.ref a1), .val (.int p2), .unset, .unset, .unset] [(.ref a1)])) _
    refine st4 _ ?_
    show Steps p.tables e below (T4.setTop (mkF m 4 #[.val (.ref a1), .val (.int p2), .unset, .unset, .unset] [(.ref w3)])) _
    refine XS.iloadN X4.here hx rfl (hb hby d10_4) rfl ?_
    show Steps p.tables e below (T4.setTop (mkF m 5 #[.val (.ref a1), .val (.int p2), .unset, .unset, .unset] [(.int p2), (.ref w3)])) _
    refine X4.laload hx (j := p2) (v := (.long w5)) (by rw [e4]; exact Ar_w3.1) (State.isArrayOf_alike hZ.alike Ar_w3.2.1) Ar_w3.2.2 hin5 hat5 (g := (mkF m 5 #[.val (.ref a1), .val (.int p2), .unset, .unset, .unset] [(.int p2), (.ref w3)])) rfl rfl (hb hby d10_5) _ ?_
    show Steps p.tables e below (T4.setTop (mkF m 6 #[.val (.ref a1), .val (.int p2), .unset, .unset, .unset] [(.long w5)])) _
    refine XS.lstoreN X4.here hx rfl (hb hby d10_6) rfl (l' := #[.val (.ref a1), .val (.int p2), .val (.long w5), .second, .unset]) rfl ?_
    show Steps p.tables e below (T4.setTop (mkF m 7 #[.val (.ref a1), .val (.int p2), .val (.long w5), .second, .unset] [])) _
    refine XS.lloadN X4.here hx rfl (hb hby d10_7) rfl ?_
    show Steps p.tables e below (T4.setTop (mkF m 8 #[.val (.ref a1), .val (.int p2), .val (.long w5), .second, .unset] [(.long w5)])) _
    refine X4.ldc2Long hx hown (mvT hZ (hw _ (List.mem_of_getElem? (i := 42) rfl))) (g := (mkF m 8 #[.val (.ref a1), .val (.int p2), .val (.long w5), .second, .unset] [(.long w5)])) rfl (hb hby d10_8) _ ?_
    show Steps p.tables e below (T4.setTop (mkF m 11 #[.val (.ref a1), .val (.int p2), .val (.long w5), .second, .unset] [(.long (-1 : Int64)), (.long w5)])) _
    refine XS.lcmp X4.here hx rfl (hb hby d10_11) rfl ?_
    show Steps p.tables e below (T4.setTop (mkF m 12 #[.val (.ref a1), .val (.int p2), .val (.long w5), .second, .unset] [(.int (lcmpW w5 (-1 : Int64)))])) _
    refine XS.ifYes X4.here hx rfl (pc0 := 12) (pc' := 45) rfl (hb hby d10_12) rfl ((if0 _ _).trans (feq hc12).2) (by decide) (by decide) ?_
    show Steps p.tables e below (T4.setTop (mkF m 45 #[.val (.ref a1), .val (.int p2), .val (.long w5), .second, .unset] [])) _
    refine XS.bipush X4.here hx rfl (hb hby d10_45) ?_
    show Steps p.tables e below (T4.setTop (mkF m 47 #[.val (.ref a1), .val (.int p2), .val (.long w5), .second, .unset] [(.int (64 : Int32))])) _
    refine XS.lloadN X4.here hx rfl (hb hby d10_47) rfl ?_
    show Steps p.tables e below (T4.setTop (mkF m 48 #[.val (.ref a1), .val (.int p2), .val (.long w5), .second, .unset] [(.long w5), (.int (64 : Int32))])) _
    refine XS.lconst X4.here hx rfl (hb hby d10_48) ?_
    show Steps p.tables e below (T4.setTop (mkF m 49 #[.val (.ref a1), .val (.int p2), .val (.long w5), .second, .unset] [(.long (1 : Int64)), (.long w5), (.int (64 : Int32))])) _
    refine XS.lsub X4.here hx rfl (hb hby d10_49) rfl ?_
    show Steps p.tables e below (T4.setTop (mkF m 50 #[.val (.ref a1), .val (.int p2), .val (.long w5), .second, .unset] [(.long (w5 - (1 : Int64))), (.int (64 : Int32))])) _
    refine st6 _ ?_
    show Steps p.tables e below (T6.setTop (mkF m 53 #[.val (.ref a1), .val (.int p2), .val (.long w5), .second, .unset] [(.int (own_nlz (w5 - (1 : Int64)))), (.int (64 : Int32))])) _
    refine XS.isub X6.here hx rfl (hb hby d10_53) rfl ?_
    show Steps p.tables e below (T6.setTop (mkF m 54 #[.val (.ref a1), .val (.int p2), .val (.long w5), .second, .unset] [(.int ((64 : Int32) - (own_nlz (w5 - (1 : Int64)))))])) _
    refine XS.istore X6.here hx rfl (hb hby d10_54) rfl (l' := #[.val (.ref a1), .val (.int p2), .val (.long w5), .second, .val (.int ((64 : Int32) - (own_nlz (w5 - (1 : Int64)))))]) rfl ?_
    show Steps p.tables e below (T6.setTop (mkF m 56 #[.val (.ref a1), .val (.int p2), .val (.long w5), .second, .val (.int ((64 : Int32) - (own_nlz (w5 - (1 : Int64)))))] [])) _
    refine XS.aloadN X6.here hx rfl (hb hby d10_56) rfl rfl ?_
    show Steps p.tables e below (T6.setTop (mkF m 57 #[.val (.ref a1), .val (.int p2), .val (.long w5), .second, .val (.int ((64 : Int32) - (own_nlz (w5 - (1 : Int64)))))] [(.ref a1)])) _
    refine st7 _ ?_
    show Steps p.tables e below (T7.setTop (mkF m 60 #[.val (.ref a1), .val (.int p2), .val (.long w5), .second, .val (.int ((64 : Int32) - (own_nlz (w5 - (1 : Int64)))))] [(.ref w3)])) _
    refine XS.iloadN X7.here hx rfl (hb hby d10_60) rfl ?_
    show Steps p.tables e below (T7.setTop (mkF m 61 #[.val (.ref a1), .val (.int p2), .val (.long w5), .second, .val (.int ((64 : Int32) - (own_nlz (w5 - (1 : Int64)))))] [(.int p2), (.ref w3)])) _
    refine XS.lconst X7.here hx rfl (hb hby d10_61) ?_
    show Steps p.tables e below (T7.setTop (mkF m 62 #[.val (.ref a1), .val (.int p2), .val (.long w5), .second, .val (.int ((64 : Int32) - (own_nlz (w5 - (1 : Int64)))))] [(.long (0 : Int64)), (.int p2), (.ref w3)])) _
    refine st8 _ ?_
    show Steps p.tables e below (T8.setTop (mkF m 63 #[.val (.ref a1), .val (.int p2), .val (.long w5), .second, .val (.int ((64 : Int32) - (own_nlz (w5 - (1 : Int64)))))] [])) _
    refine XS.aloadN X8.here hx rfl (hb hby d10_63) rfl rfl ?_
    show Steps p.tables e below (T8.setTop (mkF m 64 #[.val (.ref a1), .val (.int p2), .val (.long w5), .second, .val (.int ((64 : Int32) - (own_nlz (w5 - (1 : Int64)))))] [(.ref a1)])) _
    refine st10 _ ?_
    show Steps p.tables e below (T10.setTop (mkF m 67 #[.val (.ref a1), .val (.int p2), .val (.long w5), .second, .val (.int ((64 : Int32) - (own_nlz (w5 - (1 : Int64)))))] [(.int w9)])) _
    refine XS.iload X10.here hx rfl (hb hby d10_67) rfl ?_
    show Steps p.tables e below (T10.setTop (mkF m 69 #[.val (.ref a1), .val (.int p2), .val (.long w5), .second, .val (.int ((64 : Int32) - (own_nlz (w5 - (1 : Int64)))))] [(.int ((64 : Int32) - (own_nlz (w5 - (1 : Int64))))), (.int w9)])) _
    refine XS.iadd X10.here hx rfl (hb hby d10_69) rfl ?_
    show Steps p.tables e below (T10.setTop (mkF m 70 #[.val (.ref a1), .val (.int p2), .val (.long w5), .second, .val (.int ((64 : Int32) - (own_nlz (w5 - (1 : Int64)))))] [(.int (w9 + ((64 : Int32) - (own_nlz (w5 - (1 : Int64))))))])) _
    exact retI X10 hx Bd.returns (hb hby d10_70) hr
  · show Q10 Z a1 p2 w3 w5 kB n vs i w9 h0 n0 _ T10.heap _
    rw [e10]
    exact ⟨rfl, N8, K8, Arv.set Ar_w3 q_w3 S_w3 M_w3 H_w3 G_w3 rfl W8 i (own_ix hi) hi16⟩

theorem own_ty {cl : Cell} {vs : List Value} {d : Value} {ty : FieldType} (H : Has cl vs d) (G : ∀ i, i < cl.slots.size → fits ty (vs.getD i d) = true) : Jvm.Free.XT.Typed ty cl := fun i v q => by
  have hlt := (Array.getElem?_eq_some_iff.mp q).1
  have e := H i hlt
  rw [q] at e
  rw [Option.some.inj e]
  exact G i hlt
theorem own_cpV {Z : State} {h : Heap} {b : Addr} {B cl : Cell} {p2 n : Int32} {k : Nat} {vs : List Value} (A : Arr Z h b B .long) (bs : B.slots.size = k) (bg : ∀ j, j < k → B.slots[j]? = some (cl.slots.getD j (defaultValue .long))) (hk : p2 = Int32.ofNat k) (hb : k < 100) (H : Has cl vs (.long (0 : Int64))) (S : cl.slots.size = n.toNatClampNeg) (M : ¬ n < 0)
    (G : ∀ i, i < cl.slots.size → fits .long (vs.getD i (.long (0 : Int64))) = true) (hz : ∀ j : Nat, n.toInt ≤ (j : Int) → vs.getD j (.long (0 : Int64)) = (.long (0 : Int64))) : Arv Z h b B.cls .long p2 vs (.long (0 : Int64)) := by
  have ht : p2.toInt = (k : Int) := by rw [hk, Int32.toInt_ofNat_of_lt (by omega)]
  have k0 : (0 : Int32).toInt = 0 := by decide
  have en : n.toNatClampNeg = n.toInt.toNat := rfl
  rw [Int32.lt_iff_toInt_lt, k0] at M
  refine ⟨B, A, rfl, by rw [bs, own_ix ht], ?_, fun j hj => ?_, fun j hj => ?_⟩
  · rw [Int32.lt_iff_toInt_lt, k0]; omega
  · rw [bg j (by omega)]
    by_cases q : j < cl.slots.size
    · rw [Array.getD_eq_getD_getElem?, H j q]; rfl
    · rw [Array.getD_eq_getD_getElem?, Array.getElem?_eq_none (by omega), hz j (by omega)]; rfl
  · by_cases q : j < cl.slots.size
    · exact G j q
    · rw [hz j (by omega)]; rfl
theorem d7_0 : decode prog_35_method_2_code 0 = .ok (.aload_n 0, 1) := by decide +kernel
theorem d7_1 : decode prog_35_method_2_code 1 = .ok (.aload_n 0, 1) := by decide +kernel
theorem d7_2 : decode prog_35_method_2_code 2 = .ok (.getfield 16, 3) := by decide +kernel
theorem d7_5 : decode prog_35_method_2_code 5 = .ok (.iload_n 1, 1) := by decide +kernel
theorem d7_6 : decode prog_35_method_2_code 6 = .ok (.invokestatic 20, 3) := by decide +kernel
theorem d7_9 : decode prog_35_method_2_code 9 = .ok (.putfield 16, 3) := by decide +kernel
theorem d7_12 : decode prog_35_method_2_code 12 = .ok (.return_, 1) := by decide +kernel
theorem pn_7 : plainName "com/example/tightknit/tightknit/density/PowerSums" = true := by first | (simp [plainName, overriddenIn]; done) | decide +kernel
theorem ef_7 (m : MethodId) (x0 : Addr) (x1 : Int32) : entryFrame m #[(.ref x0), (.int x1)] 2 = mkF m 0 #[.val (.ref x0), .val (.int x1)] [] := by first | (simp [entryFrame, mkF, argsToLocals, Value.category]; done) | rfl
def Q7 (Z : State) (a1 : Addr) (p2 : Int32) (w3 : Addr) (kB : ClassId) (n : Int32) (vs : List Value) (k : Nat) (c0 : Int32) (h0 : Heap) (n0 : Nat) (v : Option Value) (h : Heap) (L : List Loc) : Prop := ∃ (b : Addr) (k' : ClassId), v = none ∧ Fr n0 L ∧ Keep h0 h [a1] ∧ n0 ≤ b ∧ own_S Z h a1 b k' c0 p2 vs
set_option maxRecDepth 65536 in
set_option maxHeartbeats 40000000 in
theorem rm7 (l : Launch) (Z : State) (a0 : Array Value) (hw : ∀ d ∈ tables_1, d.before a0 Z = true) (ws : List Jvm.Cond) (a1 : Addr) (p2 : Int32) (w3 : Addr) (kB : ClassId) (n : Int32) (vs : List Value) (k : Nat) (c0 : Int32) (h0 : Heap) (n0 : Nat) (Z0 : n0 ≤ h0.size) (V0 : Arv Z h0 w3 kB .long n vs (.long (0 : Int64))) (hcl : Z.vm.findClass "[J" = some kB) (hk : p2 = Int32.ofNat k) (hk15 : k ≤ 15) (hz : ∀ j : Nat, n.toInt ≤ (j : Int) → vs.getD j (.long (0 : Int64)) = (.long (0 : Int64))) (F_least_a1 : Fld Z h0 a1 "com/example/tightknit/tightknit/density/PowerSums" "least" "I" (.int c0)) (F_small_a1 : Fld Z h0 a1 "com/example/tightknit/tightknit/density/PowerSums" "small" "[J" (.ref w3)) (E_a1 : Exa Z h0 a1 "com/example/tightknit/tightknit/density/PowerSums") (g_a1 : n0 ≤ a1) :
    MetFree l (⟨"com/example/tightknit/tightknit/density/PowerSums", "grow", "(I)V"⟩ : MethodName) (head1 (Jvm.Cond.code (⟨"com/example/tightknit/tightknit/density/PowerSums", "grow", "(I)V"⟩ : MethodName) prog_35_method_2_code 2 none :: ws) ({ frames := 2, cells := 1, slots := 15, locals := 55 } : Room)) (fun a U => a = #[(.ref a1), (.int p2)] ∧ Z.Warmed39 U.vm ∧ U.heap = h0) (fun _ _ _ _ _ => True) (fun _ U o U' => ∃ v L, o = .returned v ∧ Q7 Z a1 p2 w3 kB n vs k c0 h0 n0 v U'.heap L ∧ FrameEnd U o U' L ({ frames := 2, cells := 1, slots := 15, locals := 55 } : Room).cells ({ frames := 2, cells := 1, slots := 15, locals := 55 } : Room).slots) := by
  refine MetFree.of_bodySF (plainFor_of_name pn_7) hisR ?_
  intro p e s m args below meth c s₁ Bd hml0 hP hK
  obtain ⟨rfl, hZ, hh⟩ := hP
  have hx := Bd.exec
  have hby := Bd.bytes
  have hml : c.maxLocals = 2 := hml0
  have hown : s.vm.findClass "com/example/tightknit/tightknit/density/PowerSums" = some m.cls := findClass_of_methodNamed Bd.named
  have hnm := (name_of_methodNamed Bd.named Bd.method).1
  have X0 : Stand p l e ({ frames := 2, cells := 1, slots := 15, locals := 55 } : Room) s m #[(.ref a1), (.int p2)] below meth c s₁ [] 0 0 := Stand.of_body Bd
  have e0 : s₁.heap = h0 := by rw [← hh, Bd.state]; rfl
  have N0 := Fr.nil n0
  have pre0 : ∀ t, Steps p.tables e below (s₁.setTop (mkF m 0 #[.val (.ref a1), .val (.int p2)] [])) t → Steps p.tables e below (s₁.setTop (entryFrame m #[(.ref a1), (.int p2)] 2)) t := fun t k => castTop (ef_7 m a1 p2) k
  obtain ⟨T4, X4, e4, st4⟩ := getF X0 hx hZ hown (host := "") (Or.inl (hw _ (List.mem_of_getElem? (i := 28) rfl))) Via.refl e0 F_small_a1 (g := (mkF m 2 #[.val (.ref a1), .val (.int p2)] [(.ref a1), (.ref a1)])) rfl rfl (hb hby d7_2)
  obtain ⟨cl_a, Ar_a, q_a, S_a, M_a, H_a, G_a⟩ := V0
  obtain ⟨_, T5, X5, ⟨rfl, B5, bA5, bv5, bf5, bs5, bg5, bk5⟩, st5⟩ := Jvm.Free.XT.jS X4 hx hZ hown (Jvm.Free.JA.CopyOfJ.law l w3 cl_a k) rfl ⟨(hw _ (List.mem_of_getElem? (i := 49) rfl)), (hw _ (List.mem_of_getElem? (i := 50) rfl)), trivial⟩ ⟨(hw _ (List.mem_of_getElem? (i := 52) rfl)), (hw _ (List.mem_of_getElem? (i := 51) rfl)), (hw _ (List.mem_of_getElem? (i := 82) rfl)), (hw _ (List.mem_of_getElem? (i := 83) rfl)), (hw _ (List.mem_of_getElem? (i := 27) rfl)), (hw _ (List.mem_of_getElem? (i := 56) rfl)), (hw _ (List.mem_of_getElem? (i := 55) rfl)), (hw _ (List.mem_of_getElem? (i := 75) rfl)), (hw _ (List.mem_of_getElem? (i := 76) rfl)), (hw _ (List.mem_of_getElem? (i := 80) rfl)), (hw _ (List.mem_of_getElem? (i := 78) rfl)), (hw _ (List.mem_of_getElem? (i := 79) rfl)), (hw _ (List.mem_of_getElem? (i := 81) rfl)), (hw _ (List.mem_of_getElem? (i := 53) rfl)), (hw _ (List.mem_of_getElem? (i := 54) rfl)), (hw _ (List.mem_of_getElem? (i := 57) rfl)), (hw _ (List.mem_of_getElem? (i := 60) rfl)), (hw _ (List.mem_of_getElem? (i := 58) rfl)), (hw _ (List.mem_of_getElem? (i := 59) rfl)), trivial⟩ (g := (mkF m 6 #[.val (.ref a1), .val (.int p2)] [(.int p2), (.ref w3), (.ref a1)])) rfl (by rw [hml]; rfl) (argsL := [(.ref w3), (.int p2)]) (rest := [(.ref a1)]) rfl rfl (hb hby d7_6) (by decide) (W := 1) (by show 2 * 0 + _ ≤ _; exact Nat.le_of_eq rfl) (by decide) (by decide) (by show 0 + k ≤ 15; omega) ⟨by subst hk; rfl, own_arr hZ X4 Ar_a e4 (by rw [S_a]; exact (back32 M_a).2), by rw [X4.warmed.alike.findClass, hZ.alike.findClass, q_a]; exact hcl, own_ty H_a G_a, by omega⟩
  obtain ⟨h5, e5⟩ : ∃ z, T5.heap = z := ⟨_, rfl⟩
  obtain ⟨b5, g5⟩ : ∃ z, z = h0.size := ⟨_, rfl⟩
  have hsz5 : T4.heap.size = b5 := by rw [e4, g5]
  rw [hsz5] at bA5 st5
  have A5 : Arr Z h5 b5 B5 .long := by rw [← e5]; exact own_rra hZ X5 bA5
  have E5 : Ext h0 h5 := ⟨Nat.le_of_lt (by rw [← g5]; exact A5.lt), fun x c q => by rw [← e5]; exact bk5 x c (by rw [e4]; exact q)⟩
  have V_b5 : Arv Z h5 b5 B5.cls .long p2 vs (.long (0 : Int64)) := own_cpV A5 bs5 bg5 hk (by omega) H_a S_a M_a G_a hz
  have g_b5 : n0 ≤ b5 := Nat.le_trans Z0 (Nat.le_of_eq g5.symm)
  have sz_b5 : h0.size ≤ b5 := Nat.le_of_eq g5.symm
  have K5 : Keep h0 h5 [a1] := (Keep.refl h0 [a1]).ext E5
  have hne : b5 ≠ a1 := fun q => absurd (Nat.lt_of_lt_of_le E_a1.lt sz_b5) (by rw [q]; exact Nat.lt_irrefl _)
  have N5 : Fr n0 ([] ++ []) := Fr.app N0 (Fr.nil _)
  obtain ⟨T6, h6, X6, e6, W6, st6⟩ := putF X5 hx hZ hown (host := "") (Or.inl (hw _ (List.mem_of_getElem? (i := 28) rfl))) Via.refl e5 (F_small_a1.ext E5) (E_a1.ext E5) (Or.inl (hw _ (List.mem_of_getElem? (i := 29) rfl))) (hw _ (List.mem_of_getElem? (i := 1) rfl)) (ty := (.array .long)) (by decide) rfl rfl (g := (mkF m 9 #[.val (.ref a1), .val (.int p2)] [(.ref b5), (.ref a1)])) rfl rfl (hb hby d7_9)
  have Fw6 := (F_small_a1.ext E5).same W6
  have K6 : Keep h0 h6 [a1] := K5.wr W6 (Or.inl (List.mem_of_getElem? (i := 0) rfl))
  have N6 := Fr.snoc X6 N5 g_a1
  obtain ⟨fs, hr, hrun, hended, hW, hsame⟩ := X6.leave (v := none) (fun _ => rfl)
  refine ⟨_, _, pre0 _ ?_, hrun, hended, _, _, rfl, ?_, ⟨_, rfl⟩, hW, hsame.mono (by decide) (by show 0 + k ≤ 15; omega)⟩
  · show Steps p.tables e below (s₁.setTop (mkF m 0 #[.val (.ref a1), .val (.int p2)] [])) _
    refine XS.aloadN X0.here hx rfl (hb hby d7_0) rfl rfl ?_
    show Steps p.tables e below (s₁.setTop (mkF m 1 #[.val (.ref a1), .val (.int p2)] [(.ref a1)])) _
    refine XS.aloadN X0.here hx rfl (hb hby d7_1) rfl rfl ?_
    show Steps p.tables e below (s₁.setTop (mkF m 2 #[.val (.ref a1), .val (.int p2)] [(.ref a1), (.ref a1)])) _
    refine st4 _ ?_
    show Steps p.tables e below (T4.setTop (mkF m 5 #[.val (.ref a1), .val (.int p2)] [(.ref w3), (.ref a1)])) _
    refine XS.iloadN X4.here hx rfl (hb hby d7_5) rfl ?_
    show Steps p.tables e below (T4.setTop (mkF m 6 #[.val (.ref a1), .val (.int p2)] [(.int p2), (.ref w3), (.ref a1)])) _
    refine st5 _ ?_
    show Steps p.tables e below (T5.setTop (mkF m 9 #[.val (.ref a1), .val (.int p2)] [(.ref b5), (.ref a1)])) _
    refine st6 _ ?_
    show Steps p.tables e below (T6.setTop (mkF m 12 #[.val (.ref a1), .val (.int p2)] [])) _
    exact X6.returnOut hx Bd.returns (hb hby d7_12) hr
  · show Q7 Z a1 p2 w3 kB n vs k c0 h0 n0 _ T6.heap _
    rw [e6]
    exact ⟨b5, B5.cls, rfl, N6, K6, g_b5, (E_a1.ext E5).wr W6, Fw6, (F_least_a1.ext E5).other W6 (Or.inr (slot_ne (Or.inl (hw _ (List.mem_of_getElem? (i := 36) rfl))) (Or.inl (hw _ (List.mem_of_getElem? (i := 29) rfl))) (by decide) (t := .int) (t' := (.array .long)) (by decide) (by decide))), V_b5.other W6 hne⟩

def own_n (a : Int32) : Int32 := (1 : Int32) + (a &&& (7 : Int32))
def own_k (b : Int32) : Int32 := b &&& (7 : Int32)
def own_m (a b : Int32) : Int32 := own_n a + own_k b
def own_s (d : Int32) : Int32 := d &&& (31 : Int32)
def own_v (a d : Int32) : Int32 := ((d.toUInt32 >>> ((5 : Int32) &&& 31).toUInt32).toInt32) % (own_n a)
def own_w (a b f : Int32) : Int32 := own_n a + (((f.toUInt32 >>> ((1 : Int32) &&& 31).toUInt32).toInt32) % (own_k b))
def own_x1 (c s : Int32) : Int64 := (0 : Int64) + own_sh (c + s) c
def own_x2 (c s : Int32) : Int64 := own_x1 c s + own_sh (c + s) c
theorem own_of {x : Int32} {i : Nat} (h : x.toInt = (i : Int)) : x = Int32.ofNat i := by
  have r := rng32 x
  rw [← Int32.toInt_inj, Int32.toInt_ofNat_of_lt (by omega), h]
theorem own_n_i (a : Int32) : ∃ i : Nat, (own_n a).toInt = (i : Int) ∧ own_n a = Int32.ofNat i ∧ 1 ≤ i ∧ i ≤ 8 := by
  have h := c_mask a (7 : Int32) 3 (by decide) (by decide)
  have q := c_iadd (1 : Int32) (a &&& (7 : Int32))
  have k : (1 : Int32).toInt = 1 := by decide
  have r := rng32 (own_n a)
  rw [k, h] at q
  have e : (own_n a).toInt = 1 + a.toInt % 8 := by unfold own_n at r ⊢; omega
  have ei : (own_n a).toInt = (((1 + a.toInt % 8).toNat : Nat) : Int) := by omega
  exact ⟨(1 + a.toInt % 8).toNat, ei, own_of ei, by omega, by omega⟩
theorem own_k_i (b : Int32) : ∃ k : Nat, (own_k b).toInt = (k : Int) ∧ k ≤ 7 := by
  have h := c_mask b (7 : Int32) 3 (by decide) (by decide)
  refine ⟨(b.toInt % 8).toNat, ?_, by omega⟩
  unfold own_k
  rw [h]
  omega
theorem own_m_i {a b : Int32} {i k : Nat} (h1 : (own_n a).toInt = (i : Int)) (h2 : (own_k b).toInt = (k : Int)) (hi : i ≤ 8) (hk : k ≤ 7) : (own_m a b).toInt = ((i + k : Nat) : Int) := by
  have q := c_iadd (own_n a) (own_k b)
  have r := rng32 (own_m a b)
  unfold own_m at r ⊢
  omega
theorem own_nz {a : Int32} : ¬ (own_n a = (0 : Int32)) := by
  intro q
  obtain ⟨i, h, -, h1, -⟩ := own_n_i a
  have k0 : (0 : Int32).toInt = 0 := by decide
  rw [q, k0] at h
  omega
theorem own_knz {b : Int32} (h : (0 : Int32) < own_k b) : ¬ (own_k b = (0 : Int32)) := by
  intro q
  rw [q] at h
  exact absurd h (by decide)
theorem own_v_i (a d : Int32) {i : Nat} (h : (own_n a).toInt = (i : Int)) (h1 : 1 ≤ i) : ∃ v : Nat, (own_v a d).toInt = (v : Int) ∧ v < i := by
  have q := c_iushr d (5 : Int32) 5 (by decide) (by decide)
  have r := (c_iremV ((d.toUInt32 >>> ((5 : Int32) &&& 31).toUInt32).toInt32) (own_n a)).1 (by rw [q]; omega) (by omega)
  have e : (own_v a d).toInt = (((d.toUInt32 >>> ((5 : Int32) &&& 31).toUInt32).toInt32) % (own_n a)).toInt := rfl
  exact ⟨(own_v a d).toInt.toNat, by omega, by omega⟩
theorem own_w_i {a b : Int32} (f : Int32) {i k : Nat} (h : (own_n a).toInt = (i : Int)) (h2 : (own_k b).toInt = (k : Int)) (hi : i ≤ 8) (hk7 : k ≤ 7) (hk : (0 : Int32) < own_k b) : ∃ w : Nat, (own_w a b f).toInt = (w : Int) ∧ i ≤ w ∧ w < i + k := by
  have k0 : (0 : Int32).toInt = 0 := by decide
  rw [Int32.lt_iff_toInt_lt, k0] at hk
  have q := c_iushr f (1 : Int32) 1 (by decide) (by decide)
  have r := (c_iremV ((f.toUInt32 >>> ((1 : Int32) &&& 31).toUInt32).toInt32) (own_k b)).1 (by rw [q]; omega) hk
  have s := c_iadd (own_n a) (((f.toUInt32 >>> ((1 : Int32) &&& 31).toUInt32).toInt32) % (own_k b))
  have t := rng32 (own_w a b f)
  unfold own_w at t ⊢
  generalize (((f.toUInt32 >>> ((1 : Int32) &&& 31).toUInt32).toInt32) % (own_k b)) = z at *
  exact ⟨(own_n a + z).toInt.toNat, by omega, by omega, by omega⟩
theorem own_cs (c s : Int32) : (c + s) - c = s := by
  rw [Int32.add_comm, Int32.add_sub_cancel]
theorem own_s_i (d : Int32) : ∃ k : Fin 32, own_s d = Int32.ofNat k.val := by
  have h := c_mask d (31 : Int32) 5 (by decide) (by decide)
  have e : (own_s d).toInt = (((d.toInt % 32).toNat : Nat) : Int) := by unfold own_s; rw [h]; omega
  exact ⟨⟨(d.toInt % 32).toNat, by omega⟩, own_of e⟩
def own_y (s : Int32) : Int64 := (1 : Int64) <<< (s &&& 0x3f).toInt64
theorem own_sh_y (c s : Int32) : own_sh (c + s) c = own_y s := by
  unfold own_sh own_y
  rw [own_cs]
theorem own_tab : ∀ k : Fin 32, (Int32.ofNat k.val) < (63 : Int32) ∧ ¬ ((0 : Int32) < lcmpW (0 : Int64) ((9223372036854775807 : Int64) - own_y (Int32.ofNat k.val))) ∧ ¬ (lcmpW ((0 : Int64) + own_y (Int32.ofNat k.val)) (-1 : Int64) = (0 : Int32))
    ∧ ¬ ((0 : Int32) < lcmpW ((0 : Int64) + own_y (Int32.ofNat k.val)) ((9223372036854775807 : Int64) - own_y (Int32.ofNat k.val))) ∧ own_ad ((0 : Int64) + own_y (Int32.ofNat k.val)) = (0 : Int32)
    ∧ ¬ (lcmpW (((0 : Int64) + own_y (Int32.ofNat k.val)) + own_y (Int32.ofNat k.val)) (-1 : Int64) = (0 : Int32))
    ∧ ((64 : Int32) - own_nlz ((((0 : Int64) + own_y (Int32.ofNat k.val)) + own_y (Int32.ofNat k.val)) - (1 : Int64))) = (Int32.ofNat k.val) + (1 : Int32)
    ∧ ((64 : Int32) - own_nlz (((0 : Int64) + own_y (Int32.ofNat k.val)) - (1 : Int64))) = (Int32.ofNat k.val) := by decide +kernel
theorem own_all (c d : Int32) : ((c + own_s d) - c) < (63 : Int32) ∧ ¬ ((0 : Int32) < lcmpW (0 : Int64) ((9223372036854775807 : Int64) - own_sh (c + own_s d) c)) ∧ ¬ (lcmpW (own_x1 c (own_s d)) (-1 : Int64) = (0 : Int32))
    ∧ ¬ ((0 : Int32) < lcmpW (own_x1 c (own_s d)) ((9223372036854775807 : Int64) - own_sh (c + own_s d) c)) ∧ own_ad (own_x1 c (own_s d)) = (0 : Int32) ∧ ¬ (lcmpW (own_x2 c (own_s d)) (-1 : Int64) = (0 : Int32))
    ∧ ((64 : Int32) - own_nlz ((own_x2 c (own_s d)) - (1 : Int64))) = own_s d + (1 : Int32) ∧ ((64 : Int32) - own_nlz ((own_x1 c (own_s d)) - (1 : Int64))) = own_s d := by
  obtain ⟨k, hk⟩ := own_s_i d
  unfold own_x2 own_x1
  rw [own_sh_y, own_cs, hk]
  exact own_tab k
theorem own_ad0 : ¬ (own_ad (0 : Int64) = (0 : Int32)) := by decide
theorem own_m1 : ¬ (lcmpW (0 : Int64) (-1 : Int64) = (0 : Int32)) := by decide
theorem own_tk2 (c d : Int32) : (c + ((64 : Int32) - own_nlz ((own_x2 c (own_s d)) - (1 : Int64)))) = ((c + own_s d) + (1 : Int32)) := by
  rw [(own_all c d).2.2.2.2.2.2.1, Int32.add_assoc]
theorem own_tk1 (c d : Int32) : (c + ((64 : Int32) - own_nlz ((own_x1 c (own_s d)) - (1 : Int64)))) = (c + own_s d) := by
  rw [(own_all c d).2.2.2.2.2.2.2]
theorem own_zg (j : Nat) : own_zz.getD j (.long (0 : Int64)) = (.long (0 : Int64)) := own_rep 16 j _
theorem pn_0 : plainName "com/example/tightknit/tightknit/density/PowerSumsGrowPinLaw" = true := by first | (simp [plainName, overriddenIn]; done) | decide +kernel
theorem pd_0_0 : parseMethodDescriptor "(I)V" = some ⟨[.int], none⟩ := by decide +kernel
theorem pd_0_2 : parseMethodDescriptor "(II)Z" = some ⟨[.int, .int], some .boolean⟩ := by decide +kernel
theorem pd_0_6 : parseMethodDescriptor "(I)I" = some ⟨[.int], some .int⟩ := by decide +kernel
theorem ef_0 (m : MethodId) (x0 : Int32) (x1 : Int32) (x2 : Int32) (x3 : Int32) (x4 : Int32) (x5 : Int32) : entryFrame m #[(.int x0), (.int x1), (.int x2), (.int x3), (.int x4), (.int x5)] maxLocals = mkF m 0 #[.val (.int x0), .val (.int x1), .val (.int x2), .val (.int x3), .val (.int x4), .val (.int x5), .unset, .unset, .unset, .unset, .unset, .unset, .unset, .unset, .unset, .unset, .unset, .unset, .unset, .unset] [] := by first | (simp [entryFrame, mkF, argsToLocals, Value.category, maxLocals]; done) | rfl
def Q0 (Z : State) (p1 : Int32) (p2 : Int32) (p3 : Int32) (p4 : Int32) (p5 : Int32) (p6 : Int32) (h0 : Heap) (n0 : Nat) (v : Option Value) (h : Heap) (L : List Loc) : Prop := v = some (.int (1 : Int32)) ∧ Fr n0 L
set_option maxRecDepth 65536 in
set_option maxHeartbeats 40000000 in
theorem rm0_z (l : Launch) (Z : State) (a0 : Array Value) (hw : ∀ d ∈ tables_1, d.before a0 Z = true) (ws : List Jvm.Cond) (p1 : Int32) (p2 : Int32) (p3 : Int32) (p4 : Int32) (p5 : Int32) (p6 : Int32) (h0 : Heap) (n0 : Nat) (Z0 : n0 ≤ h0.size) (hc131 : ¬ ((0 : Int32) < (own_k p2))) :
    MetFree l x (head1 (Jvm.Cond.code x code maxLocals ret :: ws) room_1) (fun a U => a = #[(.int p1), (.int p2), (.int p3), (.int p4), (.int p5), (.int p6)] ∧ Z.Warmed39 U.vm ∧ U.heap = h0) (fun _ _ _ _ _ => True) (fun _ U o U' => ∃ v L, o = .returned v ∧ Q0 Z p1 p2 p3 p4 p5 p6 h0 n0 v U'.heap L ∧ FrameEnd U o U' L room_1.cells room_1.slots) := by
  refine MetFree.of_bodySF (plainFor_of_name pn_0) hisR ?_
  intro p e s m args below meth c s₁ Bd hml0 hP hK
  obtain ⟨rfl, hZ, hh⟩ := hP
  have hx := Bd.exec
  have hby := Bd.bytes
  have hml : c.maxLocals = 20 := hml0
  have hown : s.vm.findClass "com/example/tightknit/tightknit/density/PowerSumsGrowPinLaw" = some m.cls := findClass_of_methodNamed Bd.named
  have hnm := (name_of_methodNamed Bd.named Bd.method).1
  have X0 : Stand p l e room_1 s m #[(.int p1), (.int p2), (.int p3), (.int p4), (.int p5), (.int p6)] below meth c s₁ [] 0 0 := Stand.of_body Bd
  have e0 : s₁.heap = h0 := by rw [← hh, Bd.state]; rfl
  have N0 := Fr.nil n0
  have pre0 : ∀ t, Steps p.tables e below (s₁.setTop (mkF m 0 #[.val (.int p1), .val (.int p2), .val (.int p3), .val (.int p4), .val (.int p5), .val (.int p6), .unset, .unset, .unset, .unset, .unset, .unset, .unset, .unset, .unset, .unset, .unset, .unset, .unset, .unset] [])) t → Steps p.tables e below (s₁.setTop (entryFrame m #[(.int p1), (.int p2), (.int p3), (.int p4), (.int p5), (.int p6)] maxLocals)) t := fun t k => castTop (ef_0 m p1 p2 p3 p4 p5 p6) k
  obtain ⟨T7, h7, X7, e7, E7, A7, D7, -, st7⟩ := newO X0 hx hZ hown (hw _ (List.mem_of_getElem? (i := 0) rfl)) (hw _ (List.mem_of_getElem? (i := 1) rfl)) (hw _ (List.mem_of_getElem? (i := 2) rfl)) e0 (g := (mkF m 42 #[.val (.int p1), .val (.int p2), .val (.int p3), .val (.int p4), .val (.int p5), .val (.int p6), .val (.int (own_n p1)), .val (.int (own_k p2)), .val (.int (own_m p1 p2)), .val (.int (own_s p4)), .val (.int (own_v p1 p4)), .val (.int (own_s p5)), .unset, .unset, .unset, .unset, .unset, .unset, .unset, .unset] [])) rfl (hb hby at_42) (by decide) (by decide)
  obtain ⟨b7, g7⟩ : ∃ z, z = h0.size := ⟨_, rfl⟩
  rw [← g7] at A7 D7 st7
  have F_large_b7 : Fld Z h7 b7 "com/example/tightknit/tightknit/density/PowerSums" "large" "Ljava/util/Map;" .null := D7 (Or.inr (hw _ (List.mem_of_getElem? (i := 26) rfl))) (ty := (.object "java/util/Map")) (by decide)
  have F_small_b7 : Fld Z h7 b7 "com/example/tightknit/tightknit/density/PowerSums" "small" "[J" .null := D7 (Or.inl (hw _ (List.mem_of_getElem? (i := 29) rfl))) (ty := (.array .long)) (by decide)
  have F_least_b7 : Fld Z h7 b7 "com/example/tightknit/tightknit/density/PowerSums" "least" "I" (.int (0 : Int32)) := D7 (Or.inl (hw _ (List.mem_of_getElem? (i := 36) rfl))) (ty := .int) (by decide)
  have E_b7 := A7
  have g_b7 : n0 ≤ b7 := Nat.le_trans Z0 (Nat.le_of_eq g7.symm)
  have sz_b7 : h0.size ≤ b7 := (Nat.le_trans (Keep.refl h0 []).1 (Nat.le_of_eq g7.symm))
  have K7 : Keep h0 h7 [] := (Keep.refl h0 []).ext E7
  obtain ⟨ni, hnt, hnof, hn1, hn8⟩ := own_n_i p1
  obtain ⟨ki, hkt, hk7⟩ := own_k_i p2
  have hmt := own_m_i hnt hkt hn8 hk7
  obtain ⟨vi, hvt, hvn⟩ := own_v_i p1 p4 hnt hn1
  obtain ⟨_, _, ⟨T8, L8, k8, n8⟩, -, X8, ⟨Lc8, hQ8, l8, y8, z8⟩, st8⟩ := X7.specialBack hx (y := (⟨"com/example/tightknit/tightknit/density/PowerSums", "<init>", "(I)V"⟩ : MethodName)) rfl hown (mvT hZ (hw _ (List.mem_of_getElem? (i := 3) rfl))) (mvT hZ (hw _ (List.mem_of_getElem? (i := 4) rfl))) (mvT hZ (hw _ (List.mem_of_getElem? (i := 5) rfl))) (by decide) (backOf (W := 1) (rm1 l Z a0 hw [] b7 (own_n p1) .null .null h7 n0 (Nat.le_trans Z0 K7.1) ni hnof hn8 F_least_b7 E_b7 F_large_b7 g_b7 F_small_b7) hZ (hw _ (List.mem_of_getElem? (i := 5) rfl)) (hw _ (List.mem_of_getElem? (i := 2) rfl)) (by decide) (by decide)) (g := (mkF m 48 #[.val (.int p1), .val (.int p2), .val (.int p3), .val (.int p4), .val (.int p5), .val (.int p6), .val (.int (own_n p1)), .val (.int (own_k p2)), .val (.int (own_m p1 p2)), .val (.int (own_s p4)), .val (.int (own_v p1 p4)), .val (.int (own_s p5)), .unset, .unset, .unset, .unset, .unset, .unset, .unset, .unset] [(.int (own_n p1)), (.ref b7), (.ref b7)])) rfl (by rw [hml]; rfl) (Steps.refl _) (a := b7) (argsL := [(.int (own_n p1))]) (rest := [(.ref b7)]) (lenOf pd_0_0 rfl) rfl (by show 2 * 0 + _ ≤ _; exact Nat.le_of_eq rfl) (hb hby at_48) (fun _ _ => ⟨rfl, e7, (by decide : 1 + 2 ≤ _), (by decide : 3 + 16 ≤ _)⟩)
  dsimp only [Pt.U, Pt.locs, Pt.cells, Pt.slots] at X8 l8 y8 z8 st8 hQ8
  subst l8 y8 z8
  obtain ⟨bb, kB, rfl, N8q, K8q, gbb, hcl, S8⟩ := hQ8
  have N8 := Fr.app N0 N8q
  have Z8 : n0 ≤ T8.heap.size := Nat.le_trans (Nat.le_trans Z0 K7.1) K8q.1
  obtain ⟨cq9, kq9, q9a, q9b, q9c⟩ := isOf hZ rfl S8.1
  obtain ⟨_, _, ⟨T9, L9, k9, n9⟩, -, X9, ⟨Lc9, hQ9, l9, y9, z9⟩, st9⟩ := X8.virtualBack hx (y := (⟨"com/example/tightknit/tightknit/density/PowerSums", "start", "(I)V"⟩ : MethodName)) (z := (⟨"com/example/tightknit/tightknit/density/PowerSums", "start", "(I)V"⟩ : MethodName)) hown (mvT hZ (hw _ (List.mem_of_getElem? (i := 30) rfl))) (mvT hZ (hw _ (List.mem_of_getElem? (i := 31) rfl))) (notFace_of_selects (args := #[]) (mvT hZ (hw _ (List.mem_of_getElem? (i := 33) rfl)))) (mvT hZ (hw _ (List.mem_of_getElem? (i := 33) rfl))) (mvT hZ (hw _ (List.mem_of_getElem? (i := 32) rfl))) (by decide) (backOf (W := 0) (rm5 l Z a0 hw [] b7 p3 (.int (0 : Int32)) T8.heap n0 Z8 S8.1 S8.2.2.1 g_b7) hZ (hw _ (List.mem_of_getElem? (i := 34) rfl)) (hw _ (List.mem_of_getElem? (i := 2) rfl)) (by decide) (by decide)) q9a q9c (g := (mkF m 56 #[.val (.int p1), .val (.int p2), .val (.int p3), .val (.int p4), .val (.int p5), .val (.int p6), .val (.int (own_n p1)), .val (.int (own_k p2)), .val (.int (own_m p1 p2)), .val (.int (own_s p4)), .val (.int (own_v p1 p4)), .val (.int (own_s p5)), .val (.ref b7), .unset, .unset, .unset, .unset, .unset, .unset, .unset] [(.int p3), (.ref b7)])) rfl (by rw [hml]; rfl) (Steps.refl _) (argsL := [(.int p3)]) (rest := []) (lenOf pd_0_0 rfl) rfl (by show 2 * 0 + _ ≤ _; exact Nat.le_of_eq rfl) (hb hby at_56) (fun _ _ => ⟨rfl, rfl, (by decide : 3 + 0 ≤ _), (by decide : 19 + 0 ≤ _)⟩)
  dsimp only [Pt.U, Pt.locs, Pt.cells, Pt.slots] at X9 l9 y9 z9 st9 hQ9
  subst l9 y9 z9
  obtain ⟨rfl, N9q, K9q, E9q, Fl9, Fs9⟩ := hQ9
  have N9 := Fr.app N8 N9q
  have hne : b7 ≠ bb := by
    obtain ⟨c0, A0, -⟩ := S8.2.2.2
    exact ne_arr S8.1 (hw _ (List.mem_of_getElem? (i := 1) rfl)) A0
  have hnb : bb ∉ [b7] := fun q => hne (List.mem_singleton.mp q).symm
  have hnc : b7 ∉ [bb] := fun q => hne (List.mem_singleton.mp q)
  have S9 : own_S Z T9.heap b7 bb kB p3 (own_n p1) own_zz := ⟨E9q, Fs9 _ S8.2.1, Fl9, S8.2.2.2.keep K9q hnb⟩
  have Z9 : n0 ≤ T9.heap.size := Nat.le_trans Z8 K9q.1
  obtain ⟨cq10, kq10, q10a, q10b, q10c⟩ := isOf hZ rfl S9.1
  obtain ⟨_, _, ⟨T10, L10, k10, n10⟩, -, X10, ⟨Lc10, hQ10, l10, y10, z10⟩, st10⟩ := X9.virtualBack hx (y := (⟨"com/example/tightknit/tightknit/density/PowerSums", "add", "(II)Z"⟩ : MethodName)) (z := (⟨"com/example/tightknit/tightknit/density/PowerSums", "add", "(II)Z"⟩ : MethodName)) hown (mvT hZ (hw _ (List.mem_of_getElem? (i := 37) rfl))) (mvT hZ (hw _ (List.mem_of_getElem? (i := 38) rfl))) (notFace_of_selects (args := #[]) (mvT hZ (hw _ (List.mem_of_getElem? (i := 40) rfl)))) (mvT hZ (hw _ (List.mem_of_getElem? (i := 40) rfl))) (mvT hZ (hw _ (List.mem_of_getElem? (i := 39) rfl))) (by decide) (backOf (W := 0) (rm6 l Z a0 hw [] b7 (own_v p1 p4) (p3 + (own_s p4)) p3 bb (0 : Int64) kB (own_n p1) own_zz vi T9.heap n0 Z9 S9.2.2.1 S9.2.1 S9.2.2.2 hvt (by rw [hnt]; omega) (by show vi < 16; omega) (own_zg vi) gbb own_m1 (own_all p3 p4).1 (own_all p3 p4).2.1) hZ (hw _ (List.mem_of_getElem? (i := 41) rfl)) (hw _ (List.mem_of_getElem? (i := 2) rfl)) (by decide) (by decide)) q10a q10c (g := (mkF m 67 #[.val (.int p1), .val (.int p2), .val (.int p3), .val (.int p4), .val (.int p5), .val (.int p6), .val (.int (own_n p1)), .val (.int (own_k p2)), .val (.int (own_m p1 p2)), .val (.int (own_s p4)), .val (.int (own_v p1 p4)), .val (.int (own_s p5)), .val (.ref b7), .unset, .unset, .unset, .unset, .unset, .unset, .unset] [(.int (p3 + (own_s p4))), (.int (own_v p1 p4)), (.ref b7)])) rfl (by rw [hml]; rfl) (Steps.refl _) (argsL := [(.int (own_v p1 p4)), (.int (p3 + (own_s p4)))]) (rest := []) (lenOf pd_0_2 rfl) rfl (by show 2 * 0 + _ ≤ _; exact Nat.le_of_eq rfl) (hb hby at_67) (fun _ _ => ⟨rfl, rfl, (by decide : 3 + 0 ≤ _), (by decide : 19 + 0 ≤ _)⟩)
  dsimp only [Pt.U, Pt.locs, Pt.cells, Pt.slots] at X10 l10 y10 z10 st10 hQ10
  subst l10 y10 z10
  obtain ⟨rfl, N10q, K10q, V10q⟩ := hQ10
  have N10 := Fr.app N9 N10q
  have S10 : own_S Z T10.heap b7 bb kB p3 (own_n p1) (own_zz.set vi (.long (own_x1 p3 (own_s p4)))) := ⟨S9.1.keep K10q, S9.2.1.keep K10q hnc, S9.2.2.1.keep K10q hnc, V10q⟩
  have Z10 : n0 ≤ T10.heap.size := Nat.le_trans Z9 K10q.1
  obtain ⟨cq11, kq11, q11a, q11b, q11c⟩ := isOf hZ rfl S10.1
  obtain ⟨_, _, ⟨T11, L11, k11, n11⟩, -, X11, ⟨Lc11, hQ11, l11, y11, z11⟩, st11⟩ := X10.virtualBack hx (y := (⟨"com/example/tightknit/tightknit/density/PowerSums", "grow", "(I)V"⟩ : MethodName)) (z := (⟨"com/example/tightknit/tightknit/density/PowerSums", "grow", "(I)V"⟩ : MethodName)) hown (mvT hZ (hw _ (List.mem_of_getElem? (i := 44) rfl))) (mvT hZ (hw _ (List.mem_of_getElem? (i := 45) rfl))) (notFace_of_selects (args := #[]) (mvT hZ (hw _ (List.mem_of_getElem? (i := 47) rfl)))) (mvT hZ (hw _ (List.mem_of_getElem? (i := 47) rfl))) (mvT hZ (hw _ (List.mem_of_getElem? (i := 46) rfl))) (by decide) (backOf (W := 0) (rm7 l Z a0 hw [] b7 (own_m p1 p2) bb kB (own_n p1) (own_zz.set vi (.long (own_x1 p3 (own_s p4)))) (ni + ki) p3 T10.heap n0 Z10 S10.2.2.2 hcl (own_of hmt) (by omega) (fun j hj => by rw [own_gn (by rw [hnt] at hj; omega)]; exact own_zg j) S10.2.2.1 S10.2.1 S10.1 g_b7) hZ (hw _ (List.mem_of_getElem? (i := 48) rfl)) (hw _ (List.mem_of_getElem? (i := 2) rfl)) (by decide) (by decide)) q11a q11c (g := (mkF m 76 #[.val (.int p1), .val (.int p2), .val (.int p3), .val (.int p4), .val (.int p5), .val (.int p6), .val (.int (own_n p1)), .val (.int (own_k p2)), .val (.int (own_m p1 p2)), .val (.int (own_s p4)), .val (.int (own_v p1 p4)), .val (.int (own_s p5)), .val (.ref b7), .val (.int (own_ad (0 : Int64))), .unset, .unset, .unset, .unset, .unset, .unset] [(.int (own_m p1 p2)), (.ref b7)])) rfl (by rw [hml]; rfl) (Steps.refl _) (argsL := [(.int (own_m p1 p2))]) (rest := []) (lenOf pd_0_0 rfl) rfl (by show 2 * 0 + _ ≤ _; exact Nat.le_of_eq rfl) (hb hby at_76) (fun _ _ => ⟨rfl, rfl, (by decide : 3 + 1 ≤ _), (by decide : 19 + 15 ≤ _)⟩)
  dsimp only [Pt.U, Pt.locs, Pt.cells, Pt.slots] at X11 l11 y11 z11 st11 hQ11
  subst l11 y11 z11
  obtain ⟨bc, kC, rfl, N11q, K11q, gbc, S11⟩ := hQ11
  have N11 := Fr.app N10 N11q
  have hne2 : b7 ≠ bc := by
    obtain ⟨c0, A0, -⟩ := S11.2.2.2
    exact ne_arr S11.1 (hw _ (List.mem_of_getElem? (i := 1) rfl)) A0
  have hnd : b7 ∉ [bc] := fun q => hne2 (List.mem_singleton.mp q)
  have Z11 : n0 ≤ T11.heap.size := Nat.le_trans Z10 K11q.1
  obtain ⟨cq12, kq12, q12a, q12b, q12c⟩ := isOf hZ rfl S11.1
  obtain ⟨_, _, ⟨T12, L12, k12, n12⟩, -, X12, ⟨Lc12, hQ12, l12, y12, z12⟩, st12⟩ := X11.virtualBack hx (y := (⟨"com/example/tightknit/tightknit/density/PowerSums", "add", "(II)Z"⟩ : MethodName)) (z := (⟨"com/example/tightknit/tightknit/density/PowerSums", "add", "(II)Z"⟩ : MethodName)) hown (mvT hZ (hw _ (List.mem_of_getElem? (i := 37) rfl))) (mvT hZ (hw _ (List.mem_of_getElem? (i := 38) rfl))) (notFace_of_selects (args := #[]) (mvT hZ (hw _ (List.mem_of_getElem? (i := 40) rfl)))) (mvT hZ (hw _ (List.mem_of_getElem? (i := 40) rfl))) (mvT hZ (hw _ (List.mem_of_getElem? (i := 39) rfl))) (by decide) (backOf (W := 0) (rm6 l Z a0 hw [] b7 (own_v p1 p4) (p3 + (own_s p4)) p3 bc (own_x1 p3 (own_s p4)) kC (own_m p1 p2) (own_zz.set vi (.long (own_x1 p3 (own_s p4)))) vi T11.heap n0 Z11 S11.2.2.1 S11.2.1 S11.2.2.2 hvt (by rw [hmt]; omega) (by simp only [List.length_set]; show vi < 16; omega) (own_gs (by show vi < 16; omega)) gbc (own_all p3 p4).2.2.1 (own_all p3 p4).1 (own_all p3 p4).2.2.2.1) hZ (hw _ (List.mem_of_getElem? (i := 41) rfl)) (hw _ (List.mem_of_getElem? (i := 2) rfl)) (by decide) (by decide)) q12a q12c (g := (mkF m 87 #[.val (.int p1), .val (.int p2), .val (.int p3), .val (.int p4), .val (.int p5), .val (.int p6), .val (.int (own_n p1)), .val (.int (own_k p2)), .val (.int (own_m p1 p2)), .val (.int (own_s p4)), .val (.int (own_v p1 p4)), .val (.int (own_s p5)), .val (.ref b7), .val (.int (own_ad (0 : Int64))), .unset, .unset, .unset, .unset, .unset, .unset] [(.int (p3 + (own_s p4))), (.int (own_v p1 p4)), (.ref b7)])) rfl (by rw [hml]; rfl) (Steps.refl _) (argsL := [(.int (own_v p1 p4)), (.int (p3 + (own_s p4)))]) (rest := []) (lenOf pd_0_2 rfl) rfl (by show 2 * 0 + _ ≤ _; exact Nat.le_of_eq rfl) (hb hby at_87) (fun _ _ => ⟨rfl, rfl, (by decide : 4 + 0 ≤ _), (by decide : 34 + 0 ≤ _)⟩)
  dsimp only [Pt.U, Pt.locs, Pt.cells, Pt.slots] at X12 l12 y12 z12 st12 hQ12
  subst l12 y12 z12
  obtain ⟨rfl, N12q, K12q, V12q⟩ := hQ12
  have N12 := Fr.app N11 N12q
  have S12 : own_S Z T12.heap b7 bc kC p3 (own_m p1 p2) ((own_zz.set vi (.long (own_x1 p3 (own_s p4)))).set vi (.long (own_x2 p3 (own_s p4)))) := ⟨S11.1.keep K12q, S11.2.1.keep K12q hnd, S11.2.2.1.keep K12q hnd, V12q⟩
  have Z12 : n0 ≤ T12.heap.size := Nat.le_trans Z11 K12q.1
  obtain ⟨cq13, kq13, q13a, q13b, q13c⟩ := isOf hZ rfl S12.1
  obtain ⟨_, _, ⟨T13, L13, k13, n13⟩, -, X13, ⟨Lc13, hQ13, l13, y13, z13⟩, st13⟩ := X12.virtualBack hx (y := (⟨"com/example/tightknit/tightknit/density/PowerSums", "takeCeilingPower", "(I)I"⟩ : MethodName)) (z := (⟨"com/example/tightknit/tightknit/density/PowerSums", "takeCeilingPower", "(I)I"⟩ : MethodName)) hown (mvT hZ (hw _ (List.mem_of_getElem? (i := 61) rfl))) (mvT hZ (hw _ (List.mem_of_getElem? (i := 62) rfl))) (notFace_of_selects (args := #[]) (mvT hZ (hw _ (List.mem_of_getElem? (i := 64) rfl)))) (mvT hZ (hw _ (List.mem_of_getElem? (i := 64) rfl))) (mvT hZ (hw _ (List.mem_of_getElem? (i := 63) rfl))) (by decide) (backOf (W := 0) (rm10 l Z a0 hw [] b7 (own_v p1 p4) bc (own_x2 p3 (own_s p4)) kC (own_m p1 p2) ((own_zz.set vi (.long (own_x1 p3 (own_s p4)))).set vi (.long (own_x2 p3 (own_s p4)))) vi p3 T12.heap n0 Z12 S12.1 S12.2.1 S12.2.2.2 hvt (by rw [hmt]; omega) (by simp only [List.length_set]; show vi < 16; omega) (own_gs (by simp only [List.length_set]; show vi < 16; omega)) gbc S12.2.2.1 (own_all p3 p4).2.2.2.2.2.1) hZ (hw _ (List.mem_of_getElem? (i := 65) rfl)) (hw _ (List.mem_of_getElem? (i := 2) rfl)) (by decide) (by decide)) q13a q13c (g := (mkF m 96 #[.val (.int p1), .val (.int p2), .val (.int p3), .val (.int p4), .val (.int p5), .val (.int p6), .val (.int (own_n p1)), .val (.int (own_k p2)), .val (.int (own_m p1 p2)), .val (.int (own_s p4)), .val (.int (own_v p1 p4)), .val (.int (own_s p5)), .val (.ref b7), .val (.int (own_ad (0 : Int64))), .val (.int (own_ad (own_x1 p3 (own_s p4)))), .unset, .unset, .unset, .unset, .unset] [(.int (own_v p1 p4)), (.ref b7)])) rfl (by rw [hml]; rfl) (Steps.refl _) (argsL := [(.int (own_v p1 p4))]) (rest := []) (lenOf pd_0_6 rfl) rfl (by show 2 * 0 + _ ≤ _; exact Nat.le_of_eq rfl) (hb hby at_96) (fun _ _ => ⟨rfl, rfl, (by decide : 4 + 0 ≤ _), (by decide : 34 + 0 ≤ _)⟩)
  dsimp only [Pt.U, Pt.locs, Pt.cells, Pt.slots] at X13 l13 y13 z13 st13 hQ13
  subst l13 y13 z13
  obtain ⟨rfl, N13q, K13q, V13q⟩ := hQ13
  have N13 := Fr.app N12 N13q
  have S13 : own_S Z T13.heap b7 bc kC p3 (own_m p1 p2) (((own_zz.set vi (.long (own_x1 p3 (own_s p4)))).set vi (.long (own_x2 p3 (own_s p4)))).set vi (.long (0 : Int64))) := ⟨S12.1.keep K13q, S12.2.1.keep K13q hnd, S12.2.2.1.keep K13q hnd, V13q⟩
  have Z13 : n0 ≤ T13.heap.size := Nat.le_trans Z12 K13q.1
  obtain ⟨fs, hr, hrun, hended, hW, hsame⟩ := X13.leave (v := some (.int (1 : Int32))) (fun h => by rw [Bd.returns] at h; cases h)
  refine ⟨_, _, pre0 _ ?_, hrun, hended, _, _, rfl, ?_, ⟨_, rfl⟩, hW, hsame.mono (by decide) (by decide)⟩
  · show Steps p.tables e below (s₁.setTop (mkF m 0 #[.val (.int p1), .val (.int p2), .val (.int p3), .val (.int p4), .val (.int p5), .val (.int p6), .unset, .unset, .unset, .unset, .unset, .unset, .unset, .unset, .unset, .unset, .unset, .unset, .unset, .unset] [])) _
    refine XS.iconst X0.here hx rfl (hb hby at_0) ?_
    show Steps p.tables e below (s₁.setTop (mkF m 1 #[.val (.int p1), .val (.int p2), .val (.int p3), .val (.int p4), .val (.int p5), .val (.int p6), .unset, .unset, .unset, .unset, .unset, .unset, .unset, .unset, .unset, .unset, .unset, .unset, .unset, .unset] [(.int (1 : Int32))])) _
    refine XS.iloadN X0.here hx rfl (hb hby at_1) rfl ?_
    show Steps p.tables e below (s₁.setTop (mkF m 2 #[.val (.int p1), .val (.int p2), .val (.int p3), .val (.int p4), .val (.int p5), .val (.int p6), .unset, .unset, .unset, .unset, .unset, .unset, .unset, .unset, .unset, .unset, .unset, .unset, .unset, .unset] [(.int p1), (.int (1 : Int32))])) _
    refine XS.bipush X0.here hx rfl (hb hby at_2) ?_
    show Steps p.tables e below (s₁.setTop (mkF m 4 #[.val (.int p1), .val (.int p2), .val (.int p3), .val (.int p4), .val (.int p5), .val (.int p6), .unset, .unset, .unset, .unset, .unset, .unset, .unset, .unset, .unset, .unset, .unset, .unset, .unset, .unset] [(.int (7 : Int32)), (.int p1), (.int (1 : Int32))])) _
    refine XS.iand X0.here hx rfl (hb hby at_4) rfl ?_
    show Steps p.tables e below (s₁.setTop (mkF m 5 #[.val (.int p1), .val (.int p2), .val (.int p3), .val (.int p4), .val (.int p5), .val (.int p6), .unset, .unset, .unset, .unset, .unset, .unset, .unset, .unset, .unset, .unset, .unset, .unset, .unset, .unset] [(.int (p1 &&& (7 : Int32))), (.int (1 : Int32))])) _
    refine XS.iadd X0.here hx rfl (hb hby at_5) rfl ?_
    show Steps p.tables e below (s₁.setTop (mkF m 6 #[.val (.int p1), .val (.int p2), .val (.int p3), .val (.int p4), .val (.int p5), .val (.int p6), .unset, .unset, .unset, .unset, .unset, .unset, .unset, .unset, .unset, .unset, .unset, .unset, .unset, .unset] [(.int ((1 : Int32) + (p1 &&& (7 : Int32))))])) _
    refine XS.istore X0.here hx rfl (hb hby at_6) rfl (l' := #[.val (.int p1), .val (.int p2), .val (.int p3), .val (.int p4), .val (.int p5), .val (.int p6), .val (.int ((1 : Int32) + (p1 &&& (7 : Int32)))), .unset, .unset, .unset, .unset, .unset, .unset, .unset, .unset, .unset, .unset, .unset, .unset, .unset]) rfl ?_
    show Steps p.tables e below (s₁.setTop (mkF m 8 #[.val (.int p1), .val (.int p2), .val (.int p3), .val (.int p4), .val (.int p5), .val (.int p6), .val (.int (own_n p1)), .unset, .unset, .unset, .unset, .unset, .unset, .unset, .unset, .unset, .unset, .unset, .unset, .unset] [])) _
    refine XS.iloadN X0.here hx rfl (hb hby at_8) rfl ?_
    show Steps p.tables e below (s₁.setTop (mkF m 9 #[.val (.int p1), .val (.int p2), .val (.int p3), .val (.int p4), .val (.int p5), .val (.int p6), .val (.int (own_n p1)), .unset, .unset, .unset, .unset, .unset, .unset, .unset, .unset, .unset, .unset, .unset, .unset, .unset] [(.int p2)])) _
    refine XS.bipush X0.here hx rfl (hb hby at_9) ?_
    show Steps p.tables e below (s₁.setTop (mkF m 11 #[.val (.int p1), .val (.int p2), .val (.int p3), .val (.int p4), .val (.int p5), .val (.int p6), .val (.int (own_n p1)), .unset, .unset, .unset, .unset, .unset, .unset, .unset, .unset, .unset, .unset, .unset, .unset, .unset] [(.int (7 : Int32)), (.int p2)])) _
    refine XS.iand X0.here hx rfl (hb hby at_11) rfl ?_
    show Steps p.tables e below (s₁.setTop (mkF m 12 #[.val (.int p1), .val (.int p2), .val (.int p3), .val (.int p4), .val (.int p5), .val (.int p6), .val (.int (own_n p1)), .unset, .unset, .unset, .unset, .unset, .unset, .unset, .unset, .unset, .unset, .unset, .unset, .unset] [(.int (p2 &&& (7 : Int32)))])) _
    refine XS.istore X0.here hx rfl (hb hby at_12) rfl (l' := #[.val (.int p1), .val (.int p2), .val (.int p3), .val (.int p4), .val (.int p5), .val (.int p6), .val (.int (own_n p1)), .val (.int (p2 &&& (7 : Int32))), .unset, .unset, .unset, .unset, .unset, .unset, .unset, .unset, .unset, .unset, .unset, .unset]) rfl ?_
    show Steps p.tables e below (s₁.setTop (mkF m 14 #[.val (.int p1), .val (.int p2), .val (.int p3), .val (.int p4), .val (.int p5), .val (.int p6), .val (.int (own_n p1)), .val (.int (own_k p2)), .unset, .unset, .unset, .unset, .unset, .unset, .unset, .unset, .unset, .unset, .unset, .unset] [])) _
    refine XS.iload X0.here hx rfl (hb hby at_14) rfl ?_
    show Steps p.tables e below (s₁.setTop (mkF m 16 #[.val (.int p1), .val (.int p2), .val (.int p3), .val (.int p4), .val (.int p5), .val (.int p6), .val (.int (own_n p1)), .val (.int (own_k p2)), .unset, .unset, .unset, .unset, .unset, .unset, .unset, .unset, .unset, .unset, .unset, .unset] [(.int (own_n p1))])) _
    refine XS.iload X0.here hx rfl (hb hby at_16) rfl ?_
    show Steps p.tables e below (s₁.setTop (mkF m 18 #[.val (.int p1), .val (.int p2), .val (.int p3), .val (.int p4), .val (.int p5), .val (.int p6), .val (.int (own_n p1)), .val (.int (own_k p2)), .unset, .unset, .unset, .unset, .unset, .unset, .unset, .unset, .unset, .unset, .unset, .unset] [(.int (own_k p2)), (.int (own_n p1))])) _
    refine XS.iadd X0.here hx rfl (hb hby at_18) rfl ?_
    show Steps p.tables e below (s₁.setTop (mkF m 19 #[.val (.int p1), .val (.int p2), .val (.int p3), .val (.int p4), .val (.int p5), .val (.int p6), .val (.int (own_n p1)), .val (.int (own_k p2)), .unset, .unset, .unset, .unset, .unset, .unset, .unset, .unset, .unset, .unset, .unset, .unset] [(.int ((own_n p1) + (own_k p2)))])) _
    refine XS.istore X0.here hx rfl (hb hby at_19) rfl (l' := #[.val (.int p1), .val (.int p2), .val (.int p3), .val (.int p4), .val (.int p5), .val (.int p6), .val (.int (own_n p1)), .val (.int (own_k p2)), .val (.int ((own_n p1) + (own_k p2))), .unset, .unset, .unset, .unset, .unset, .unset, .unset, .unset, .unset, .unset, .unset]) rfl ?_
    show Steps p.tables e below (s₁.setTop (mkF m 21 #[.val (.int p1), .val (.int p2), .val (.int p3), .val (.int p4), .val (.int p5), .val (.int p6), .val (.int (own_n p1)), .val (.int (own_k p2)), .val (.int (own_m p1 p2)), .unset, .unset, .unset, .unset, .unset, .unset, .unset, .unset, .unset, .unset, .unset] [])) _
    refine XS.iloadN X0.here hx rfl (hb hby at_21) rfl ?_
    show Steps p.tables e below (s₁.setTop (mkF m 22 #[.val (.int p1), .val (.int p2), .val (.int p3), .val (.int p4), .val (.int p5), .val (.int p6), .val (.int (own_n p1)), .val (.int (own_k p2)), .val (.int (own_m p1 p2)), .unset, .unset, .unset, .unset, .unset, .unset, .unset, .unset, .unset, .unset, .unset] [(.int p4)])) _
    refine XS.bipush X0.here hx rfl (hb hby at_22) ?_
    show Steps p.tables e below (s₁.setTop (mkF m 24 #[.val (.int p1), .val (.int p2), .val (.int p3), .val (.int p4), .val (.int p5), .val (.int p6), .val (.int (own_n p1)), .val (.int (own_k p2)), .val (.int (own_m p1 p2)), .unset, .unset, .unset, .unset, .unset, .unset, .unset, .unset, .unset, .unset, .unset] [(.int (31 : Int32)), (.int p4)])) _
    refine XS.iand X0.here hx rfl (hb hby at_24) rfl ?_
    show Steps p.tables e below (s₁.setTop (mkF m 25 #[.val (.int p1), .val (.int p2), .val (.int p3), .val (.int p4), .val (.int p5), .val (.int p6), .val (.int (own_n p1)), .val (.int (own_k p2)), .val (.int (own_m p1 p2)), .unset, .unset, .unset, .unset, .unset, .unset, .unset, .unset, .unset, .unset, .unset] [(.int (p4 &&& (31 : Int32)))])) _
    refine XS.istore X0.here hx rfl (hb hby at_25) rfl (l' := #[.val (.int p1), .val (.int p2), .val (.int p3), .val (.int p4), .val (.int p5), .val (.int p6), .val (.int (own_n p1)), .val (.int (own_k p2)), .val (.int (own_m p1 p2)), .val (.int (p4 &&& (31 : Int32))), .unset, .unset, .unset, .unset, .unset, .unset, .unset, .unset, .unset, .unset]) rfl ?_
    show Steps p.tables e below (s₁.setTop (mkF m 27 #[.val (.int p1), .val (.int p2), .val (.int p3), .val (.int p4), .val (.int p5), .val (.int p6), .val (.int (own_n p1)), .val (.int (own_k p2)), .val (.int (own_m p1 p2)), .val (.int (own_s p4)), .unset, .unset, .unset, .unset, .unset, .unset, .unset, .unset, .unset, .unset] [])) _
    refine XS.iloadN X0.here hx rfl (hb hby at_27) rfl ?_
    show Steps p.tables e below (s₁.setTop (mkF m 28 #[.val (.int p1), .val (.int p2), .val (.int p3), .val (.int p4), .val (.int p5), .val (.int p6), .val (.int (own_n p1)), .val (.int (own_k p2)), .val (.int (own_m p1 p2)), .val (.int (own_s p4)), .unset, .unset, .unset, .unset, .unset, .unset, .unset, .unset, .unset, .unset] [(.int p4)])) _
    refine XS.iconst X0.here hx rfl (hb hby at_28) ?_
    show Steps p.tables e below (s₁.setTop (mkF m 29 #[.val (.int p1), .val (.int p2), .val (.int p3), .val (.int p4), .val (.int p5), .val (.int p6), .val (.int (own_n p1)), .val (.int (own_k p2)), .val (.int (own_m p1 p2)), .val (.int (own_s p4)), .unset, .unset, .unset, .unset, .unset, .unset, .unset, .unset, .unset, .unset] [(.int (5 : Int32)), (.int p4)])) _
    refine XS.iushr X0.here hx rfl (hb hby at_29) rfl ?_
    show Steps p.tables e below (s₁.setTop (mkF m 30 #[.val (.int p1), .val (.int p2), .val (.int p3), .val (.int p4), .val (.int p5), .val (.int p6), .val (.int (own_n p1)), .val (.int (own_k p2)), .val (.int (own_m p1 p2)), .val (.int (own_s p4)), .unset, .unset, .unset, .unset, .unset, .unset, .unset, .unset, .unset, .unset] [(.int ((p4.toUInt32 >>> ((5 : Int32) &&& 31).toUInt32).toInt32))])) _
    refine XS.iload X0.here hx rfl (hb hby at_30) rfl ?_
    show Steps p.tables e below (s₁.setTop (mkF m 32 #[.val (.int p1), .val (.int p2), .val (.int p3), .val (.int p4), .val (.int p5), .val (.int p6), .val (.int (own_n p1)), .val (.int (own_k p2)), .val (.int (own_m p1 p2)), .val (.int (own_s p4)), .unset, .unset, .unset, .unset, .unset, .unset, .unset, .unset, .unset, .unset] [(.int (own_n p1)), (.int ((p4.toUInt32 >>> ((5 : Int32) &&& 31).toUInt32).toInt32))])) _
    refine Jvm.RoadKit.iremM X0 hx rfl (hb hby at_32) rfl own_nz ?_
    show Steps p.tables e below (s₁.setTop (mkF m 33 #[.val (.int p1), .val (.int p2), .val (.int p3), .val (.int p4), .val (.int p5), .val (.int p6), .val (.int (own_n p1)), .val (.int (own_k p2)), .val (.int (own_m p1 p2)), .val (.int (own_s p4)), .unset, .unset, .unset, .unset, .unset, .unset, .unset, .unset, .unset, .unset] [(.int (((p4.toUInt32 >>> ((5 : Int32) &&& 31).toUInt32).toInt32) % (own_n p1)))])) _
    refine XS.istore X0.here hx rfl (hb hby at_33) rfl (l' := #[.val (.int p1), .val (.int p2), .val (.int p3), .val (.int p4), .val (.int p5), .val (.int p6), .val (.int (own_n p1)), .val (.int (own_k p2)), .val (.int (own_m p1 p2)), .val (.int (own_s p4)), .val (.int (((p4.toUInt32 >>> ((5 : Int32) &&& 31).toUInt32).toInt32) % (own_n p1))), .unset, .unset, .unset, .unset, .unset, .unset, .unset, .unset, .unset]) rfl ?_
    show Steps p.tables e below (s₁.setTop (mkF m 35 #[.val (.int p1), .val (.int p2), .val (.int p3), .val (.int p4), .val (.int p5), .val (.int p6), .val (.int (own_n p1)), .val (.int (own_k p2)), .val (.int (own_m p1 p2)), .val (.int (own_s p4)), .val (.int (own_v p1 p4)), .unset, .unset, .unset, .unset, .unset, .unset, .unset, .unset, .unset] [])) _
    refine XS.iload X0.here hx rfl (hb hby at_35) rfl ?_
    show Steps p.tables e below (s₁.setTop (mkF m 37 #[.val (.int p1), .val (.int p2), .val (.int p3), .val (.int p4), .val (.int p5), .val (.int p6), .val (.int (own_n p1)), .val (.int (own_k p2)), .val (.int (own_m p1 p2)), .val (.int (own_s p4)), .val (.int (own_v p1 p4)), .unset, .unset, .unset, .unset, .unset, .unset, .unset, .unset, .unset] [(.int p5)])) _
    refine XS.bipush X0.here hx rfl (hb hby at_37) ?_
    show Steps p.tables e below (s₁.setTop (mkF m 39 #[.val (.int p1), .val (.int p2), .val (.int p3), .val (.int p4), .val (.int p5), .val (.int p6), .val (.int (own_n p1)), .val (.int (own_k p2)), .val (.int (own_m p1 p2)), .val (.int (own_s p4)), .val (.int (own_v p1 p4)), .unset, .unset, .unset, .unset, .unset, .unset, .unset, .unset, .unset] [(.int (31 : Int32)), (.int p5)])) _
    refine XS.iand X0.here hx rfl (hb hby at_39) rfl ?_
    show Steps p.tables e below (s₁.setTop (mkF m 40 #[.val (.int p1), .val (.int p2), .val (.int p3), .val (.int p4), .val (.int p5), .val (.int p6), .val (.int (own_n p1)), .val (.int (own_k p2)), .val (.int (own_m p1 p2)), .val (.int (own_s p4)), .val (.int (own_v p1 p4)), .unset, .unset, .unset, .unset, .unset, .unset, .unset, .unset, .unset] [(.int (p5 &&& (31 : Int32)))])) _
    refine XS.istore X0.here hx rfl (hb hby at_40) rfl (l' := #[.val (.int p1), .val (.int p2), .val (.int p3), .val (.int p4), .val (.int p5), .val (.int p6), .val (.int (own_n p1)), .val (.int (own_k p2)), .val (.int (own_m p1 p2)), .val (.int (own_s p4)), .val (.int (own_v p1 p4)), .val (.int (p5 &&& (31 : Int32))), .unset, .unset, .unset, .unset, .unset, .unset, .unset, .unset]) rfl ?_
    show Steps p.tables e below (s₁.setTop (mkF m 42 #[.val (.int p1), .val (.int p2), .val (.int p3), .val (.int p4), .val (.int p5), .val (.int p6), .val (.int (own_n p1)), .val (.int (own_k p2)), .val (.int (own_m p1 p2)), .val (.int (own_s p4)), .val (.int (own_v p1 p4)), .val (.int (own_s p5)), .unset, .unset, .unset, .unset, .unset, .unset, .unset, .unset] [])) _
    refine st7 _ ?_
    show Steps p.tables e below (T7.setTop (mkF m 45 #[.val (.int p1), .val (.int p2), .val (.int p3), .val (.int p4), .val (.int p5), .val (.int p6), .val (.int (own_n p1)), .val (.int (own_k p2)), .val (.int (own_m p1 p2)), .val (.int (own_s p4)), .val (.int (own_v p1 p4)), .val (.int (own_s p5)), .unset, .unset, .unset, .unset, .unset, .unset, .unset, .unset] [(.ref b7)])) _
    refine XS.dup X7.here hx rfl (hb hby at_45) rfl rfl ?_
    show Steps p.tables e below (T7.setTop (mkF m 46 #[.val (.int p1), .val (.int p2), .val (.int p3), .val (.int p4), .val (.int p5), .val (.int p6), .val (.int (own_n p1)), .val (.int (own_k p2)), .val (.int (own_m p1 p2)), .val (.int (own_s p4)), .val (.int (own_v p1 p4)), .val (.int (own_s p5)), .unset, .unset, .unset, .unset, .unset, .unset, .unset, .unset] [(.ref b7), (.ref b7)])) _
    refine XS.iload X7.here hx rfl (hb hby at_46) rfl ?_
    show Steps p.tables e below (T7.setTop (mkF m 48 #[.val (.int p1), .val (.int p2), .val (.int p3), .val (.int p4), .val (.int p5), .val (.int p6), .val (.int (own_n p1)), .val (.int (own_k p2)), .val (.int (own_m p1 p2)), .val (.int (own_s p4)), .val (.int (own_v p1 p4)), .val (.int (own_s p5)), .unset, .unset, .unset, .unset, .unset, .unset, .unset, .unset] [(.int (own_n p1)), (.ref b7), (.ref b7)])) _
    refine st8.trans ?_
    show Steps p.tables e below (T8.setTop (mkF m 51 #[.val (.int p1), .val (.int p2), .val (.int p3), .val (.int p4), .val (.int p5), .val (.int p6), .val (.int (own_n p1)), .val (.int (own_k p2)), .val (.int (own_m p1 p2)), .val (.int (own_s p4)), .val (.int (own_v p1 p4)), .val (.int (own_s p5)), .unset, .unset, .unset, .unset, .unset, .unset, .unset, .unset] [(.ref b7)])) _
    refine XS.astore X8.here hx rfl (hb hby at_51) rfl rfl (l' := #[.val (.int p1), .val (.int p2), .val (.int p3), .val (.int p4), .val (.int p5), .val (.int p6), .val (.int (own_n p1)), .val (.int (own_k p2)), .val (.int (own_m p1 p2)), .val (.int (own_s p4)), .val (.int (own_v p1 p4)), .val (.int (own_s p5)), .val (.ref b7), .unset, .unset, .unset, .unset, .unset, .unset, .unset]) rfl ?_
    show Steps p.tables e below (T8.setTop (mkF m 53 #[.val (.int p1), .val (.int p2), .val (.int p3), .val (.int p4), .val (.int p5), .val (.int p6), .val (.int (own_n p1)), .val (.int (own_k p2)), .val (.int (own_m p1 p2)), .val (.int (own_s p4)), .val (.int (own_v p1 p4)), .val (.int (own_s p5)), .val (.ref b7), .unset, .unset, .unset, .unset, .unset, .unset, .unset] [])) _
    refine XS.aload X8.here hx rfl (hb hby at_53) rfl rfl ?_
    show Steps p.tables e below (T8.setTop (mkF m 55 #[.val (.int p1), .val (.int p2), .val (.int p3), .val (.int p4), .val (.int p5), .val (.int p6), .val (.int (own_n p1)), .val (.int (own_k p2)), .val (.int (own_m p1 p2)), .val (.int (own_s p4)), .val (.int (own_v p1 p4)), .val (.int (own_s p5)), .val (.ref b7), .unset, .unset, .unset, .unset, .unset, .unset, .unset] [(.ref b7)])) _
    refine XS.iloadN X8.here hx rfl (hb hby at_55) rfl ?_
    show Steps p.tables e below (T8.setTop (mkF m 56 #[.val (.int p1), .val (.int p2), .val (.int p3), .val (.int p4), .val (.int p5), .val (.int p6), .val (.int (own_n p1)), .val (.int (own_k p2)), .val (.int (own_m p1 p2)), .val (.int (own_s p4)), .val (.int (own_v p1 p4)), .val (.int (own_s p5)), .val (.ref b7), .unset, .unset, .unset, .unset, .unset, .unset, .unset] [(.int p3), (.ref b7)])) _
    refine st9.trans ?_
    show Steps p.tables e below (T9.setTop (mkF m 59 #[.val (.int p1), .val (.int p2), .val (.int p3), .val (.int p4), .val (.int p5), .val (.int p6), .val (.int (own_n p1)), .val (.int (own_k p2)), .val (.int (own_m p1 p2)), .val (.int (own_s p4)), .val (.int (own_v p1 p4)), .val (.int (own_s p5)), .val (.ref b7), .unset, .unset, .unset, .unset, .unset, .unset, .unset] [])) _
    refine XS.aload X9.here hx rfl (hb hby at_59) rfl rfl ?_
    show Steps p.tables e below (T9.setTop (mkF m 61 #[.val (.int p1), .val (.int p2), .val (.int p3), .val (.int p4), .val (.int p5), .val (.int p6), .val (.int (own_n p1)), .val (.int (own_k p2)), .val (.int (own_m p1 p2)), .val (.int (own_s p4)), .val (.int (own_v p1 p4)), .val (.int (own_s p5)), .val (.ref b7), .unset, .unset, .unset, .unset, .unset, .unset, .unset] [(.ref b7)])) _
    refine XS.iload X9.here hx rfl (hb hby at_61) rfl ?_
    show Steps p.tables e below (T9.setTop (mkF m 63 #[.val (.int p1), .val (.int p2), .val (.int p3), .val (.int p4), .val (.int p5), .val (.int p6), .val (.int (own_n p1)), .val (.int (own_k p2)), .val (.int (own_m p1 p2)), .val (.int (own_s p4)), .val (.int (own_v p1 p4)), .val (.int (own_s p5)), .val (.ref b7), .unset, .unset, .unset, .unset, .unset, .unset, .unset] [(.int (own_v p1 p4)), (.ref b7)])) _
    refine XS.iloadN X9.here hx rfl (hb hby at_63) rfl ?_
    show Steps p.tables e below (T9.setTop (mkF m 64 #[.val (.int p1), .val (.int p2), .val (.int p3), .val (.int p4), .val (.int p5), .val (.int p6), .val (.int (own_n p1)), .val (.int (own_k p2)), .val (.int (own_m p1 p2)), .val (.int (own_s p4)), .val (.int (own_v p1 p4)), .val (.int (own_s p5)), .val (.ref b7), .unset, .unset, .unset, .unset, .unset, .unset, .unset] [(.int p3), (.int (own_v p1 p4)), (.ref b7)])) _
    refine XS.iload X9.here hx rfl (hb hby at_64) rfl ?_
    show Steps p.tables e below (T9.setTop (mkF m 66 #[.val (.int p1), .val (.int p2), .val (.int p3), .val (.int p4), .val (.int p5), .val (.int p6), .val (.int (own_n p1)), .val (.int (own_k p2)), .val (.int (own_m p1 p2)), .val (.int (own_s p4)), .val (.int (own_v p1 p4)), .val (.int (own_s p5)), .val (.ref b7), .unset, .unset, .unset, .unset, .unset, .unset, .unset] [(.int (own_s p4)), (.int p3), (.int (own_v p1 p4)), (.ref b7)])) _
    refine XS.iadd X9.here hx rfl (hb hby at_66) rfl ?_
    show Steps p.tables e below (T9.setTop (mkF m 67 #[.val (.int p1), .val (.int p2), .val (.int p3), .val (.int p4), .val (.int p5), .val (.int p6), .val (.int (own_n p1)), .val (.int (own_k p2)), .val (.int (own_m p1 p2)), .val (.int (own_s p4)), .val (.int (own_v p1 p4)), .val (.int (own_s p5)), .val (.ref b7), .unset, .unset, .unset, .unset, .unset, .unset, .unset] [(.int (p3 + (own_s p4))), (.int (own_v p1 p4)), (.ref b7)])) _
    refine st10.trans ?_
    show Steps p.tables e below (T10.setTop (mkF m 70 #[.val (.int p1), .val (.int p2), .val (.int p3), .val (.int p4), .val (.int p5), .val (.int p6), .val (.int (own_n p1)), .val (.int (own_k p2)), .val (.int (own_m p1 p2)), .val (.int (own_s p4)), .val (.int (own_v p1 p4)), .val (.int (own_s p5)), .val (.ref b7), .unset, .unset, .unset, .unset, .unset, .unset, .unset] [(.int (own_ad (0 : Int64)))])) _
    refine XS.istore X10.here hx rfl (hb hby at_70) rfl (l' := #[.val (.int p1), .val (.int p2), .val (.int p3), .val (.int p4), .val (.int p5), .val (.int p6), .val (.int (own_n p1)), .val (.int (own_k p2)), .val (.int (own_m p1 p2)), .val (.int (own_s p4)), .val (.int (own_v p1 p4)), .val (.int (own_s p5)), .val (.ref b7), .val (.int (own_ad (0 : Int64))), .unset, .unset, .unset, .unset, .unset, .unset]) rfl ?_
    show Steps p.tables e below (T10.setTop (mkF m 72 #[.val (.int p1), .val (.int p2), .val (.int p3), .val (.int p4), .val (.int p5), .val (.int p6), .val (.int (own_n p1)), .val (.int (own_k p2)), .val (.int (own_m p1 p2)), .val (.int (own_s p4)), .val (.int (own_v p1 p4)), .val (.int (own_s p5)), .val (.ref b7), .val (.int (own_ad (0 : Int64))), .unset, .unset, .unset, .unset, .unset, .unset] [])) _
    refine XS.aload X10.here hx rfl (hb hby at_72) rfl rfl ?_
    show Steps p.tables e below (T10.setTop (mkF m 74 #[.val (.int p1), .val (.int p2), .val (.int p3), .val (.int p4), .val (.int p5), .val (.int p6), .val (.int (own_n p1)), .val (.int (own_k p2)), .val (.int (own_m p1 p2)), .val (.int (own_s p4)), .val (.int (own_v p1 p4)), .val (.int (own_s p5)), .val (.ref b7), .val (.int (own_ad (0 : Int64))), .unset, .unset, .unset, .unset, .unset, .unset] [(.ref b7)])) _
    refine XS.iload X10.here hx rfl (hb hby at_74) rfl ?_
    show Steps p.tables e below (T10.setTop (mkF m 76 #[.val (.int p1), .val (.int p2), .val (.int p3), .val (.int p4), .val (.int p5), .val (.int p6), .val (.int (own_n p1)), .val (.int (own_k p2)), .val (.int (own_m p1 p2)), .val (.int (own_s p4)), .val (.int (own_v p1 p4)), .val (.int (own_s p5)), .val (.ref b7), .val (.int (own_ad (0 : Int64))), .unset, .unset, .unset, .unset, .unset, .unset] [(.int (own_m p1 p2)), (.ref b7)])) _
    refine st11.trans ?_
    show Steps p.tables e below (T11.setTop (mkF m 79 #[.val (.int p1), .val (.int p2), .val (.int p3), .val (.int p4), .val (.int p5), .val (.int p6), .val (.int (own_n p1)), .val (.int (own_k p2)), .val (.int (own_m p1 p2)), .val (.int (own_s p4)), .val (.int (own_v p1 p4)), .val (.int (own_s p5)), .val (.ref b7), .val (.int (own_ad (0 : Int64))), .unset, .unset, .unset, .unset, .unset, .unset] [])) _
    refine XS.aload X11.here hx rfl (hb hby at_79) rfl rfl ?_
    show Steps p.tables e below (T11.setTop (mkF m 81 #[.val (.int p1), .val (.int p2), .val (.int p3), .val (.int p4), .val (.int p5), .val (.int p6), .val (.int (own_n p1)), .val (.int (own_k p2)), .val (.int (own_m p1 p2)), .val (.int (own_s p4)), .val (.int (own_v p1 p4)), .val (.int (own_s p5)), .val (.ref b7), .val (.int (own_ad (0 : Int64))), .unset, .unset, .unset, .unset, .unset, .unset] [(.ref b7)])) _
    refine XS.iload X11.here hx rfl (hb hby at_81) rfl ?_
    show Steps p.tables e below (T11.setTop (mkF m 83 #[.val (.int p1), .val (.int p2), .val (.int p3), .val (.int p4), .val (.int p5), .val (.int p6), .val (.int (own_n p1)), .val (.int (own_k p2)), .val (.int (own_m p1 p2)), .val (.int (own_s p4)), .val (.int (own_v p1 p4)), .val (.int (own_s p5)), .val (.ref b7), .val (.int (own_ad (0 : Int64))), .unset, .unset, .unset, .unset, .unset, .unset] [(.int (own_v p1 p4)), (.ref b7)])) _
    refine XS.iloadN X11.here hx rfl (hb hby at_83) rfl ?_
    show Steps p.tables e below (T11.setTop (mkF m 84 #[.val (.int p1), .val (.int p2), .val (.int p3), .val (.int p4), .val (.int p5), .val (.int p6), .val (.int (own_n p1)), .val (.int (own_k p2)), .val (.int (own_m p1 p2)), .val (.int (own_s p4)), .val (.int (own_v p1 p4)), .val (.int (own_s p5)), .val (.ref b7), .val (.int (own_ad (0 : Int64))), .unset, .unset, .unset, .unset, .unset, .unset] [(.int p3), (.int (own_v p1 p4)), (.ref b7)])) _
    refine XS.iload X11.here hx rfl (hb hby at_84) rfl ?_
    show Steps p.tables e below (T11.setTop (mkF m 86 #[.val (.int p1), .val (.int p2), .val (.int p3), .val (.int p4), .val (.int p5), .val (.int p6), .val (.int (own_n p1)), .val (.int (own_k p2)), .val (.int (own_m p1 p2)), .val (.int (own_s p4)), .val (.int (own_v p1 p4)), .val (.int (own_s p5)), .val (.ref b7), .val (.int (own_ad (0 : Int64))), .unset, .unset, .unset, .unset, .unset, .unset] [(.int (own_s p4)), (.int p3), (.int (own_v p1 p4)), (.ref b7)])) _
    refine XS.iadd X11.here hx rfl (hb hby at_86) rfl ?_
    show Steps p.tables e below (T11.setTop (mkF m 87 #[.val (.int p1), .val (.int p2), .val (.int p3), .val (.int p4), .val (.int p5), .val (.int p6), .val (.int (own_n p1)), .val (.int (own_k p2)), .val (.int (own_m p1 p2)), .val (.int (own_s p4)), .val (.int (own_v p1 p4)), .val (.int (own_s p5)), .val (.ref b7), .val (.int (own_ad (0 : Int64))), .unset, .unset, .unset, .unset, .unset, .unset] [(.int (p3 + (own_s p4))), (.int (own_v p1 p4)), (.ref b7)])) _
    refine st12.trans ?_
    show Steps p.tables e below (T12.setTop (mkF m 90 #[.val (.int p1), .val (.int p2), .val (.int p3), .val (.int p4), .val (.int p5), .val (.int p6), .val (.int (own_n p1)), .val (.int (own_k p2)), .val (.int (own_m p1 p2)), .val (.int (own_s p4)), .val (.int (own_v p1 p4)), .val (.int (own_s p5)), .val (.ref b7), .val (.int (own_ad (0 : Int64))), .unset, .unset, .unset, .unset, .unset, .unset] [(.int (own_ad (own_x1 p3 (own_s p4))))])) _
    refine XS.istore X12.here hx rfl (hb hby at_90) rfl (l' := #[.val (.int p1), .val (.int p2), .val (.int p3), .val (.int p4), .val (.int p5), .val (.int p6), .val (.int (own_n p1)), .val (.int (own_k p2)), .val (.int (own_m p1 p2)), .val (.int (own_s p4)), .val (.int (own_v p1 p4)), .val (.int (own_s p5)), .val (.ref b7), .val (.int (own_ad (0 : Int64))), .val (.int (own_ad (own_x1 p3 (own_s p4)))), .unset, .unset, .unset, .unset, .unset]) rfl ?_
    show Steps p.tables e below (T12.setTop (mkF m 92 #[.val (.int p1), .val (.int p2), .val (.int p3), .val (.int p4), .val (.int p5), .val (.int p6), .val (.int (own_n p1)), .val (.int (own_k p2)), .val (.int (own_m p1 p2)), .val (.int (own_s p4)), .val (.int (own_v p1 p4)), .val (.int (own_s p5)), .val (.ref b7), .val (.int (own_ad (0 : Int64))), .val (.int (own_ad (own_x1 p3 (own_s p4)))), .unset, .unset, .unset, .unset, .unset] [])) _
    refine XS.aload X12.here hx rfl (hb hby at_92) rfl rfl ?_
    show Steps p.tables e below (T12.setTop (mkF m 94 #[.val (.int p1), .val (.int p2), .val (.int p3), .val (.int p4), .val (.int p5), .val (.int p6), .val (.int (own_n p1)), .val (.int (own_k p2)), .val (.int (own_m p1 p2)), .val (.int (own_s p4)), .val (.int (own_v p1 p4)), .val (.int (own_s p5)), .val (.ref b7), .val (.int (own_ad (0 : Int64))), .val (.int (own_ad (own_x1 p3 (own_s p4)))), .unset, .unset, .unset, .unset, .unset] [(.ref b7)])) _
    refine XS.iload X12.here hx rfl (hb hby at_94) rfl ?_
    show Steps p.tables e below (T12.setTop (mkF m 96 #[.val (.int p1), .val (.int p2), .val (.int p3), .val (.int p4), .val (.int p5), .val (.int p6), .val (.int (own_n p1)), .val (.int (own_k p2)), .val (.int (own_m p1 p2)), .val (.int (own_s p4)), .val (.int (own_v p1 p4)), .val (.int (own_s p5)), .val (.ref b7), .val (.int (own_ad (0 : Int64))), .val (.int (own_ad (own_x1 p3 (own_s p4)))), .unset, .unset, .unset, .unset, .unset] [(.int (own_v p1 p4)), (.ref b7)])) _
    refine st13.trans ?_
    show Steps p.tables e below (T13.setTop (mkF m 99 #[.val (.int p1), .val (.int p2), .val (.int p3), .val (.int p4), .val (.int p5), .val (.int p6), .val (.int (own_n p1)), .val (.int (own_k p2)), .val (.int (own_m p1 p2)), .val (.int (own_s p4)), .val (.int (own_v p1 p4)), .val (.int (own_s p5)), .val (.ref b7), .val (.int (own_ad (0 : Int64))), .val (.int (own_ad (own_x1 p3 (own_s p4)))), .unset, .unset, .unset, .unset, .unset] [(.int (p3 + ((64 : Int32) - (own_nlz ((own_x2 p3 (own_s p4)) - (1 : Int64))))))])) _
    refine XS.istore X13.here hx rfl (hb hby at_99) rfl (l' := #[.val (.int p1), .val (.int p2), .val (.int p3), .val (.int p4), .val (.int p5), .val (.int p6), .val (.int (own_n p1)), .val (.int (own_k p2)), .val (.int (own_m p1 p2)), .val (.int (own_s p4)), .val (.int (own_v p1 p4)), .val (.int (own_s p5)), .val (.ref b7), .val (.int (own_ad (0 : Int64))), .val (.int (own_ad (own_x1 p3 (own_s p4)))), .val (.int (p3 + ((64 : Int32) - (own_nlz ((own_x2 p3 (own_s p4)) - (1 : Int64)))))), .unset, .unset, .unset, .unset]) rfl ?_
    show Steps p.tables e below (T13.setTop (mkF m 101 #[.val (.int p1), .val (.int p2), .val (.int p3), .val (.int p4), .val (.int p5), .val (.int p6), .val (.int (own_n p1)), .val (.int (own_k p2)), .val (.int (own_m p1 p2)), .val (.int (own_s p4)), .val (.int (own_v p1 p4)), .val (.int (own_s p5)), .val (.ref b7), .val (.int (own_ad (0 : Int64))), .val (.int (own_ad (own_x1 p3 (own_s p4)))), .val (.int (p3 + ((64 : Int32) - (own_nlz ((own_x2 p3 (own_s p4)) - (1 : Int64)))))), .unset, .unset, .unset, .unset] [])) _
    refine XS.iload X13.here hx rfl (hb hby at_101) rfl ?_
    show Steps p.tables e below (T13.setTop (mkF m 103 #[.val (.int p1), .val (.int p2), .val (.int p3), .val (.int p4), .val (.int p5), .val (.int p6), .val (.int (own_n p1)), .val (.int (own_k p2)), .val (.int (own_m p1 p2)), .val (.int (own_s p4)), .val (.int (own_v p1 p4)), .val (.int (own_s p5)), .val (.ref b7), .val (.int (own_ad (0 : Int64))), .val (.int (own_ad (own_x1 p3 (own_s p4)))), .val (.int (p3 + ((64 : Int32) - (own_nlz ((own_x2 p3 (own_s p4)) - (1 : Int64)))))), .unset, .unset, .unset, .unset] [(.int (own_ad (0 : Int64)))])) _
    refine XS.ifNo X13.here hx rfl (hb hby at_103) rfl ((if0 _ _).trans (feq (own_ad0 : ¬ ((own_ad (0 : Int64)) = (0 : Int32)))).1) ?_
    show Steps p.tables e below (T13.setTop (mkF m 106 #[.val (.int p1), .val (.int p2), .val (.int p3), .val (.int p4), .val (.int p5), .val (.int p6), .val (.int (own_n p1)), .val (.int (own_k p2)), .val (.int (own_m p1 p2)), .val (.int (own_s p4)), .val (.int (own_v p1 p4)), .val (.int (own_s p5)), .val (.ref b7), .val (.int (own_ad (0 : Int64))), .val (.int (own_ad (own_x1 p3 (own_s p4)))), .val (.int (p3 + ((64 : Int32) - (own_nlz ((own_x2 p3 (own_s p4)) - (1 : Int64)))))), .unset, .unset, .unset, .unset] [])) _
    refine XS.iload X13.here hx rfl (hb hby at_106) rfl ?_
    show Steps p.tables e below (T13.setTop (mkF m 108 #[.val (.int p1), .val (.int p2), .val (.int p3), .val (.int p4), .val (.int p5), .val (.int p6), .val (.int (own_n p1)), .val (.int (own_k p2)), .val (.int (own_m p1 p2)), .val (.int (own_s p4)), .val (.int (own_v p1 p4)), .val (.int (own_s p5)), .val (.ref b7), .val (.int (own_ad (0 : Int64))), .val (.int (own_ad (own_x1 p3 (own_s p4)))), .val (.int (p3 + ((64 : Int32) - (own_nlz ((own_x2 p3 (own_s p4)) - (1 : Int64)))))), .unset, .unset, .unset, .unset] [(.int (own_ad (own_x1 p3 (own_s p4))))])) _
    refine XS.ifNo X13.here hx rfl (hb hby at_108) rfl ((if0 _ _).trans (teq ((own_all p3 p4).2.2.2.2.1 : (own_ad (own_x1 p3 (own_s p4))) = (0 : Int32))).2) ?_
    show Steps p.tables e below (T13.setTop (mkF m 111 #[.val (.int p1), .val (.int p2), .val (.int p3), .val (.int p4), .val (.int p5), .val (.int p6), .val (.int (own_n p1)), .val (.int (own_k p2)), .val (.int (own_m p1 p2)), .val (.int (own_s p4)), .val (.int (own_v p1 p4)), .val (.int (own_s p5)), .val (.ref b7), .val (.int (own_ad (0 : Int64))), .val (.int (own_ad (own_x1 p3 (own_s p4)))), .val (.int (p3 + ((64 : Int32) - (own_nlz ((own_x2 p3 (own_s p4)) - (1 : Int64)))))), .unset, .unset, .unset, .unset] [])) _
    refine XS.iload X13.here hx rfl (hb hby at_111) rfl ?_
    show Steps p.tables e below (T13.setTop (mkF m 113 #[.val (.int p1), .val (.int p2), .val (.int p3), .val (.int p4), .val (.int p5), .val (.int p6), .val (.int (own_n p1)), .val (.int (own_k p2)), .val (.int (own_m p1 p2)), .val (.int (own_s p4)), .val (.int (own_v p1 p4)), .val (.int (own_s p5)), .val (.ref b7), .val (.int (own_ad (0 : Int64))), .val (.int (own_ad (own_x1 p3 (own_s p4)))), .val (.int (p3 + ((64 : Int32) - (own_nlz ((own_x2 p3 (own_s p4)) - (1 : Int64)))))), .unset, .unset, .unset, .unset] [(.int (p3 + ((64 : Int32) - (own_nlz ((own_x2 p3 (own_s p4)) - (1 : Int64))))))])) _
    refine XS.iloadN X13.here hx rfl (hb hby at_113) rfl ?_
    show Steps p.tables e below (T13.setTop (mkF m 114 #[.val (.int p1), .val (.int p2), .val (.int p3), .val (.int p4), .val (.int p5), .val (.int p6), .val (.int (own_n p1)), .val (.int (own_k p2)), .val (.int (own_m p1 p2)), .val (.int (own_s p4)), .val (.int (own_v p1 p4)), .val (.int (own_s p5)), .val (.ref b7), .val (.int (own_ad (0 : Int64))), .val (.int (own_ad (own_x1 p3 (own_s p4)))), .val (.int (p3 + ((64 : Int32) - (own_nlz ((own_x2 p3 (own_s p4)) - (1 : Int64)))))), .unset, .unset, .unset, .unset] [(.int p3), (.int (p3 + ((64 : Int32) - (own_nlz ((own_x2 p3 (own_s p4)) - (1 : Int64))))))])) _
    refine XS.iload X13.here hx rfl (hb hby at_114) rfl ?_
    show Steps p.tables e below (T13.setTop (mkF m 116 #[.val (.int p1), .val (.int p2), .val (.int p3), .val (.int p4), .val (.int p5), .val (.int p6), .val (.int (own_n p1)), .val (.int (own_k p2)), .val (.int (own_m p1 p2)), .val (.int (own_s p4)), .val (.int (own_v p1 p4)), .val (.int (own_s p5)), .val (.ref b7), .val (.int (own_ad (0 : Int64))), .val (.int (own_ad (own_x1 p3 (own_s p4)))), .val (.int (p3 + ((64 : Int32) - (own_nlz ((own_x2 p3 (own_s p4)) - (1 : Int64)))))), .unset, .unset, .unset, .unset] [(.int (own_s p4)), (.int p3), (.int (p3 + ((64 : Int32) - (own_nlz ((own_x2 p3 (own_s p4)) - (1 : Int64))))))])) _
    refine XS.iadd X13.here hx rfl (hb hby at_116) rfl ?_
    show Steps p.tables e below (T13.setTop (mkF m 117 #[.val (.int p1), .val (.int p2), .val (.int p3), .val (.int p4), .val (.int p5), .val (.int p6), .val (.int (own_n p1)), .val (.int (own_k p2)), .val (.int (own_m p1 p2)), .val (.int (own_s p4)), .val (.int (own_v p1 p4)), .val (.int (own_s p5)), .val (.ref b7), .val (.int (own_ad (0 : Int64))), .val (.int (own_ad (own_x1 p3 (own_s p4)))), .val (.int (p3 + ((64 : Int32) - (own_nlz ((own_x2 p3 (own_s p4)) - (1 : Int64)))))), .unset, .unset, .unset, .unset] [(.int (p3 + (own_s p4))), (.int (p3 + ((64 : Int32) - (own_nlz ((own_x2 p3 (own_s p4)) - (1 : Int64))))))])) _
    refine XS.iconst X13.here hx rfl (hb hby at_117) ?_
    show Steps p.tables e below (T13.setTop (mkF m 118 #[.val (.int p1), .val (.int p2), .val (.int p3), .val (.int p4), .val (.int p5), .val (.int p6), .val (.int (own_n p1)), .val (.int (own_k p2)), .val (.int (own_m p1 p2)), .val (.int (own_s p4)), .val (.int (own_v p1 p4)), .val (.int (own_s p5)), .val (.ref b7), .val (.int (own_ad (0 : Int64))), .val (.int (own_ad (own_x1 p3 (own_s p4)))), .val (.int (p3 + ((64 : Int32) - (own_nlz ((own_x2 p3 (own_s p4)) - (1 : Int64)))))), .unset, .unset, .unset, .unset] [(.int (1 : Int32)), (.int (p3 + (own_s p4))), (.int (p3 + ((64 : Int32) - (own_nlz ((own_x2 p3 (own_s p4)) - (1 : Int64))))))])) _
    refine XS.iadd X13.here hx rfl (hb hby at_118) rfl ?_
    show Steps p.tables e below (T13.setTop (mkF m 119 #[.val (.int p1), .val (.int p2), .val (.int p3), .val (.int p4), .val (.int p5), .val (.int p6), .val (.int (own_n p1)), .val (.int (own_k p2)), .val (.int (own_m p1 p2)), .val (.int (own_s p4)), .val (.int (own_v p1 p4)), .val (.int (own_s p5)), .val (.ref b7), .val (.int (own_ad (0 : Int64))), .val (.int (own_ad (own_x1 p3 (own_s p4)))), .val (.int (p3 + ((64 : Int32) - (own_nlz ((own_x2 p3 (own_s p4)) - (1 : Int64)))))), .unset, .unset, .unset, .unset] [(.int ((p3 + (own_s p4)) + (1 : Int32))), (.int (p3 + ((64 : Int32) - (own_nlz ((own_x2 p3 (own_s p4)) - (1 : Int64))))))])) _
    refine XS.icmpNo X13.here hx rfl (hb hby at_119) rfl (teq (own_tk2 p3 p4 : (p3 + ((64 : Int32) - (own_nlz ((own_x2 p3 (own_s p4)) - (1 : Int64))))) = ((p3 + (own_s p4)) + (1 : Int32)))).2 ?_
    show Steps p.tables e below (T13.setTop (mkF m 122 #[.val (.int p1), .val (.int p2), .val (.int p3), .val (.int p4), .val (.int p5), .val (.int p6), .val (.int (own_n p1)), .val (.int (own_k p2)), .val (.int (own_m p1 p2)), .val (.int (own_s p4)), .val (.int (own_v p1 p4)), .val (.int (own_s p5)), .val (.ref b7), .val (.int (own_ad (0 : Int64))), .val (.int (own_ad (own_x1 p3 (own_s p4)))), .val (.int (p3 + ((64 : Int32) - (own_nlz ((own_x2 p3 (own_s p4)) - (1 : Int64)))))), .unset, .unset, .unset, .unset] [])) _
    refine XS.iconst X13.here hx rfl (hb hby at_122) ?_
    show Steps p.tables e below (T13.setTop (mkF m 123 #[.val (.int p1), .val (.int p2), .val (.int p3), .val (.int p4), .val (.int p5), .val (.int p6), .val (.int (own_n p1)), .val (.int (own_k p2)), .val (.int (own_m p1 p2)), .val (.int (own_s p4)), .val (.int (own_v p1 p4)), .val (.int (own_s p5)), .val (.ref b7), .val (.int (own_ad (0 : Int64))), .val (.int (own_ad (own_x1 p3 (own_s p4)))), .val (.int (p3 + ((64 : Int32) - (own_nlz ((own_x2 p3 (own_s p4)) - (1 : Int64)))))), .unset, .unset, .unset, .unset] [(.int (1 : Int32))])) _
    refine XS.goto X13.here hx rfl (pc0 := 123) (pc' := 127) rfl (hb hby at_123) (by decide) (by decide) ?_
    show Steps p.tables e below (T13.setTop (mkF m 127 #[.val (.int p1), .val (.int p2), .val (.int p3), .val (.int p4), .val (.int p5), .val (.int p6), .val (.int (own_n p1)), .val (.int (own_k p2)), .val (.int (own_m p1 p2)), .val (.int (own_s p4)), .val (.int (own_v p1 p4)), .val (.int (own_s p5)), .val (.ref b7), .val (.int (own_ad (0 : Int64))), .val (.int (own_ad (own_x1 p3 (own_s p4)))), .val (.int (p3 + ((64 : Int32) - (own_nlz ((own_x2 p3 (own_s p4)) - (1 : Int64)))))), .unset, .unset, .unset, .unset] [(.int (1 : Int32))])) _
    refine XS.istore X13.here hx rfl (hb hby at_127) rfl (l' := #[.val (.int p1), .val (.int p2), .val (.int p3), .val (.int p4), .val (.int p5), .val (.int p6), .val (.int (own_n p1)), .val (.int (own_k p2)), .val (.int (own_m p1 p2)), .val (.int (own_s p4)), .val (.int (own_v p1 p4)), .val (.int (own_s p5)), .val (.ref b7), .val (.int (own_ad (0 : Int64))), .val (.int (own_ad (own_x1 p3 (own_s p4)))), .val (.int (p3 + ((64 : Int32) - (own_nlz ((own_x2 p3 (own_s p4)) - (1 : Int64)))))), .val (.int (1 : Int32)), .unset, .unset, .unset]) rfl ?_
    show Steps p.tables e below (T13.setTop (mkF m 129 #[.val (.int p1), .val (.int p2), .val (.int p3), .val (.int p4), .val (.int p5), .val (.int p6), .val (.int (own_n p1)), .val (.int (own_k p2)), .val (.int (own_m p1 p2)), .val (.int (own_s p4)), .val (.int (own_v p1 p4)), .val (.int (own_s p5)), .val (.ref b7), .val (.int (own_ad (0 : Int64))), .val (.int (own_ad (own_x1 p3 (own_s p4)))), .val (.int (p3 + ((64 : Int32) - (own_nlz ((own_x2 p3 (own_s p4)) - (1 : Int64)))))), .val (.int (1 : Int32)), .unset, .unset, .unset] [])) _
    refine XS.iload X13.here hx rfl (hb hby at_129) rfl ?_
    show Steps p.tables e below (T13.setTop (mkF m 131 #[.val (.int p1), .val (.int p2), .val (.int p3), .val (.int p4), .val (.int p5), .val (.int p6), .val (.int (own_n p1)), .val (.int (own_k p2)), .val (.int (own_m p1 p2)), .val (.int (own_s p4)), .val (.int (own_v p1 p4)), .val (.int (own_s p5)), .val (.ref b7), .val (.int (own_ad (0 : Int64))), .val (.int (own_ad (own_x1 p3 (own_s p4)))), .val (.int (p3 + ((64 : Int32) - (own_nlz ((own_x2 p3 (own_s p4)) - (1 : Int64)))))), .val (.int (1 : Int32)), .unset, .unset, .unset] [(.int (own_k p2))])) _
    refine XS.ifYes X13.here hx rfl (pc0 := 131) (pc' := 194) rfl (hb hby at_131) rfl ((if0 _ _).trans (flt hc131).2.2.2) (by decide) (by decide) ?_
    show Steps p.tables e below (T13.setTop (mkF m 194 #[.val (.int p1), .val (.int p2), .val (.int p3), .val (.int p4), .val (.int p5), .val (.int p6), .val (.int (own_n p1)), .val (.int (own_k p2)), .val (.int (own_m p1 p2)), .val (.int (own_s p4)), .val (.int (own_v p1 p4)), .val (.int (own_s p5)), .val (.ref b7), .val (.int (own_ad (0 : Int64))), .val (.int (own_ad (own_x1 p3 (own_s p4)))), .val (.int (p3 + ((64 : Int32) - (own_nlz ((own_x2 p3 (own_s p4)) - (1 : Int64)))))), .val (.int (1 : Int32)), .unset, .unset, .unset] [])) _
    refine XS.iload X13.here hx rfl (hb hby at_194) rfl ?_
    show Steps p.tables e below (T13.setTop (mkF m 196 #[.val (.int p1), .val (.int p2), .val (.int p3), .val (.int p4), .val (.int p5), .val (.int p6), .val (.int (own_n p1)), .val (.int (own_k p2)), .val (.int (own_m p1 p2)), .val (.int (own_s p4)), .val (.int (own_v p1 p4)), .val (.int (own_s p5)), .val (.ref b7), .val (.int (own_ad (0 : Int64))), .val (.int (own_ad (own_x1 p3 (own_s p4)))), .val (.int (p3 + ((64 : Int32) - (own_nlz ((own_x2 p3 (own_s p4)) - (1 : Int64)))))), .val (.int (1 : Int32)), .unset, .unset, .unset] [(.int (1 : Int32))])) _
    exact retN X13 hx (t := .boolean) Bd.returns (by simp) (hb hby at_196) hr
  · show Q0 Z p1 p2 p3 p4 p5 p6 h0 n0 _ T13.heap _
    exact ⟨rfl, N13⟩
set_option maxRecDepth 65536 in
set_option maxHeartbeats 40000000 in
theorem rm0_p (l : Launch) (Z : State) (a0 : Array Value) (hw : ∀ d ∈ tables_1, d.before a0 Z = true) (ws : List Jvm.Cond) (p1 : Int32) (p2 : Int32) (p3 : Int32) (p4 : Int32) (p5 : Int32) (p6 : Int32) (h0 : Heap) (n0 : Nat) (Z0 : n0 ≤ h0.size) (hc131 : (0 : Int32) < (own_k p2)) :
    MetFree l x (head1 (Jvm.Cond.code x code maxLocals ret :: ws) room_1) (fun a U => a = #[(.int p1), (.int p2), (.int p3), (.int p4), (.int p5), (.int p6)] ∧ Z.Warmed39 U.vm ∧ U.heap = h0) (fun _ _ _ _ _ => True) (fun _ U o U' => ∃ v L, o = .returned v ∧ Q0 Z p1 p2 p3 p4 p5 p6 h0 n0 v U'.heap L ∧ FrameEnd U o U' L room_1.cells room_1.slots) := by
  refine MetFree.of_bodySF (plainFor_of_name pn_0) hisR ?_
  intro p e s m args below meth c s₁ Bd hml0 hP hK
  obtain ⟨rfl, hZ, hh⟩ := hP
  have hx := Bd.exec
  have hby := Bd.bytes
  have hml : c.maxLocals = 20 := hml0
  have hown : s.vm.findClass "com/example/tightknit/tightknit/density/PowerSumsGrowPinLaw" = some m.cls := findClass_of_methodNamed Bd.named
  have hnm := (name_of_methodNamed Bd.named Bd.method).1
  have X0 : Stand p l e room_1 s m #[(.int p1), (.int p2), (.int p3), (.int p4), (.int p5), (.int p6)] below meth c s₁ [] 0 0 := Stand.of_body Bd
  have e0 : s₁.heap = h0 := by rw [← hh, Bd.state]; rfl
  have N0 := Fr.nil n0
  have pre0 : ∀ t, Steps p.tables e below (s₁.setTop (mkF m 0 #[.val (.int p1), .val (.int p2), .val (.int p3), .val (.int p4), .val (.int p5), .val (.int p6), .unset, .unset, .unset, .unset, .unset, .unset, .unset, .unset, .unset, .unset, .unset, .unset, .unset, .unset] [])) t → Steps p.tables e below (s₁.setTop (entryFrame m #[(.int p1), (.int p2), (.int p3), (.int p4), (.int p5), (.int p6)] maxLocals)) t := fun t k => castTop (ef_0 m p1 p2 p3 p4 p5 p6) k
  obtain ⟨T7, h7, X7, e7, E7, A7, D7, -, st7⟩ := newO X0 hx hZ hown (hw _ (List.mem_of_getElem? (i := 0) rfl)) (hw _ (List.mem_of_getElem? (i := 1) rfl)) (hw _ (List.mem_of_getElem? (i := 2) rfl)) e0 (g := (mkF m 42 #[.val (.int p1), .val (.int p2), .val (.int p3), .val (.int p4), .val (.int p5), .val (.int p6), .val (.int (own_n p1)), .val (.int (own_k p2)), .val (.int (own_m p1 p2)), .val (.int (own_s p4)), .val (.int (own_v p1 p4)), .val (.int (own_s p5)), .unset, .unset, .unset, .unset, .unset, .unset, .unset, .unset] [])) rfl (hb hby at_42) (by decide) (by decide)
  obtain ⟨b7, g7⟩ : ∃ z, z = h0.size := ⟨_, rfl⟩
  rw [← g7] at A7 D7 st7
  have F_large_b7 : Fld Z h7 b7 "com/example/tightknit/tightknit/density/PowerSums" "large" "Ljava/util/Map;" .null := D7 (Or.inr (hw _ (List.mem_of_getElem? (i := 26) rfl))) (ty := (.object "java/util/Map")) (by decide)
  have F_small_b7 : Fld Z h7 b7 "com/example/tightknit/tightknit/density/PowerSums" "small" "[J" .null := D7 (Or.inl (hw _ (List.mem_of_getElem? (i := 29) rfl))) (ty := (.array .long)) (by decide)
  have F_least_b7 : Fld Z h7 b7 "com/example/tightknit/tightknit/density/PowerSums" "least" "I" (.int (0 : Int32)) := D7 (Or.inl (hw _ (List.mem_of_getElem? (i := 36) rfl))) (ty := .int) (by decide)
  have E_b7 := A7
  have g_b7 : n0 ≤ b7 := Nat.le_trans Z0 (Nat.le_of_eq g7.symm)
  have sz_b7 : h0.size ≤ b7 := (Nat.le_trans (Keep.refl h0 []).1 (Nat.le_of_eq g7.symm))
  have K7 : Keep h0 h7 [] := (Keep.refl h0 []).ext E7
  obtain ⟨ni, hnt, hnof, hn1, hn8⟩ := own_n_i p1
  obtain ⟨ki, hkt, hk7⟩ := own_k_i p2
  have hmt := own_m_i hnt hkt hn8 hk7
  obtain ⟨vi, hvt, hvn⟩ := own_v_i p1 p4 hnt hn1
  obtain ⟨_, _, ⟨T8, L8, k8, n8⟩, -, X8, ⟨Lc8, hQ8, l8, y8, z8⟩, st8⟩ := X7.specialBack hx (y := (⟨"com/example/tightknit/tightknit/density/PowerSums", "<init>", "(I)V"⟩ : MethodName)) rfl hown (mvT hZ (hw _ (List.mem_of_getElem? (i := 3) rfl))) (mvT hZ (hw _ (List.mem_of_getElem? (i := 4) rfl))) (mvT hZ (hw _ (List.mem_of_getElem? (i := 5) rfl))) (by decide) (backOf (W := 1) (rm1 l Z a0 hw [] b7 (own_n p1) .null .null h7 n0 (Nat.le_trans Z0 K7.1) ni hnof hn8 F_least_b7 E_b7 F_large_b7 g_b7 F_small_b7) hZ (hw _ (List.mem_of_getElem? (i := 5) rfl)) (hw _ (List.mem_of_getElem? (i := 2) rfl)) (by decide) (by decide)) (g := (mkF m 48 #[.val (.int p1), .val (.int p2), .val (.int p3), .val (.int p4), .val (.int p5), .val (.int p6), .val (.int (own_n p1)), .val (.int (own_k p2)), .val (.int (own_m p1 p2)), .val (.int (own_s p4)), .val (.int (own_v p1 p4)), .val (.int (own_s p5)), .unset, .unset, .unset, .unset, .unset, .unset, .unset, .unset] [(.int (own_n p1)), (.ref b7), (.ref b7)])) rfl (by rw [hml]; rfl) (Steps.refl _) (a := b7) (argsL := [(.int (own_n p1))]) (rest := [(.ref b7)]) (lenOf pd_0_0 rfl) rfl (by show 2 * 0 + _ ≤ _; exact Nat.le_of_eq rfl) (hb hby at_48) (fun _ _ => ⟨rfl, e7, (by decide : 1 + 2 ≤ _), (by decide : 3 + 16 ≤ _)⟩)
  dsimp only [Pt.U, Pt.locs, Pt.cells, Pt.slots] at X8 l8 y8 z8 st8 hQ8
  subst l8 y8 z8
  obtain ⟨bb, kB, rfl, N8q, K8q, gbb, hcl, S8⟩ := hQ8
  have N8 := Fr.app N0 N8q
  have Z8 : n0 ≤ T8.heap.size := Nat.le_trans (Nat.le_trans Z0 K7.1) K8q.1
  obtain ⟨cq9, kq9, q9a, q9b, q9c⟩ := isOf hZ rfl S8.1
  obtain ⟨_, _, ⟨T9, L9, k9, n9⟩, -, X9, ⟨Lc9, hQ9, l9, y9, z9⟩, st9⟩ := X8.virtualBack hx (y := (⟨"com/example/tightknit/tightknit/density/PowerSums", "start", "(I)V"⟩ : MethodName)) (z := (⟨"com/example/tightknit/tightknit/density/PowerSums", "start", "(I)V"⟩ : MethodName)) hown (mvT hZ (hw _ (List.mem_of_getElem? (i := 30) rfl))) (mvT hZ (hw _ (List.mem_of_getElem? (i := 31) rfl))) (notFace_of_selects (args := #[]) (mvT hZ (hw _ (List.mem_of_getElem? (i := 33) rfl)))) (mvT hZ (hw _ (List.mem_of_getElem? (i := 33) rfl))) (mvT hZ (hw _ (List.mem_of_getElem? (i := 32) rfl))) (by decide) (backOf (W := 0) (rm5 l Z a0 hw [] b7 p3 (.int (0 : Int32)) T8.heap n0 Z8 S8.1 S8.2.2.1 g_b7) hZ (hw _ (List.mem_of_getElem? (i := 34) rfl)) (hw _ (List.mem_of_getElem? (i := 2) rfl)) (by decide) (by decide)) q9a q9c (g := (mkF m 56 #[.val (.int p1), .val (.int p2), .val (.int p3), .val (.int p4), .val (.int p5), .val (.int p6), .val (.int (own_n p1)), .val (.int (own_k p2)), .val (.int (own_m p1 p2)), .val (.int (own_s p4)), .val (.int (own_v p1 p4)), .val (.int (own_s p5)), .val (.ref b7), .unset, .unset, .unset, .unset, .unset, .unset, .unset] [(.int p3), (.ref b7)])) rfl (by rw [hml]; rfl) (Steps.refl _) (argsL := [(.int p3)]) (rest := []) (lenOf pd_0_0 rfl) rfl (by show 2 * 0 + _ ≤ _; exact Nat.le_of_eq rfl) (hb hby at_56) (fun _ _ => ⟨rfl, rfl, (by decide : 3 + 0 ≤ _), (by decide : 19 + 0 ≤ _)⟩)
  dsimp only [Pt.U, Pt.locs, Pt.cells, Pt.slots] at X9 l9 y9 z9 st9 hQ9
  subst l9 y9 z9
  obtain ⟨rfl, N9q, K9q, E9q, Fl9, Fs9⟩ := hQ9
  have N9 := Fr.app N8 N9q
  have hne : b7 ≠ bb := by
    obtain ⟨c0, A0, -⟩ := S8.2.2.2
    exact ne_arr S8.1 (hw _ (List.mem_of_getElem? (i := 1) rfl)) A0
  have hnb : bb ∉ [b7] := fun q => hne (List.mem_singleton.mp q).symm
  have hnc : b7 ∉ [bb] := fun q => hne (List.mem_singleton.mp q)
  have S9 : own_S Z T9.heap b7 bb kB p3 (own_n p1) own_zz := ⟨E9q, Fs9 _ S8.2.1, Fl9, S8.2.2.2.keep K9q hnb⟩
  have Z9 : n0 ≤ T9.heap.size := Nat.le_trans Z8 K9q.1
  obtain ⟨cq10, kq10, q10a, q10b, q10c⟩ := isOf hZ rfl S9.1
  obtain ⟨_, _, ⟨T10, L10, k10, n10⟩, -, X10, ⟨Lc10, hQ10, l10, y10, z10⟩, st10⟩ := X9.virtualBack hx (y := (⟨"com/example/tightknit/tightknit/density/PowerSums", "add", "(II)Z"⟩ : MethodName)) (z := (⟨"com/example/tightknit/tightknit/density/PowerSums", "add", "(II)Z"⟩ : MethodName)) hown (mvT hZ (hw _ (List.mem_of_getElem? (i := 37) rfl))) (mvT hZ (hw _ (List.mem_of_getElem? (i := 38) rfl))) (notFace_of_selects (args := #[]) (mvT hZ (hw _ (List.mem_of_getElem? (i := 40) rfl)))) (mvT hZ (hw _ (List.mem_of_getElem? (i := 40) rfl))) (mvT hZ (hw _ (List.mem_of_getElem? (i := 39) rfl))) (by decide) (backOf (W := 0) (rm6 l Z a0 hw [] b7 (own_v p1 p4) (p3 + (own_s p4)) p3 bb (0 : Int64) kB (own_n p1) own_zz vi T9.heap n0 Z9 S9.2.2.1 S9.2.1 S9.2.2.2 hvt (by rw [hnt]; omega) (by show vi < 16; omega) (own_zg vi) gbb own_m1 (own_all p3 p4).1 (own_all p3 p4).2.1) hZ (hw _ (List.mem_of_getElem? (i := 41) rfl)) (hw _ (List.mem_of_getElem? (i := 2) rfl)) (by decide) (by decide)) q10a q10c (g := (mkF m 67 #[.val (.int p1), .val (.int p2), .val (.int p3), .val (.int p4), .val (.int p5), .val (.int p6), .val (.int (own_n p1)), .val (.int (own_k p2)), .val (.int (own_m p1 p2)), .val (.int (own_s p4)), .val (.int (own_v p1 p4)), .val (.int (own_s p5)), .val (.ref b7), .unset, .unset, .unset, .unset, .unset, .unset, .unset] [(.int (p3 + (own_s p4))), (.int (own_v p1 p4)), (.ref b7)])) rfl (by rw [hml]; rfl) (Steps.refl _) (argsL := [(.int (own_v p1 p4)), (.int (p3 + (own_s p4)))]) (rest := []) (lenOf pd_0_2 rfl) rfl (by show 2 * 0 + _ ≤ _; exact Nat.le_of_eq rfl) (hb hby at_67) (fun _ _ => ⟨rfl, rfl, (by decide : 3 + 0 ≤ _), (by decide : 19 + 0 ≤ _)⟩)
  dsimp only [Pt.U, Pt.locs, Pt.cells, Pt.slots] at X10 l10 y10 z10 st10 hQ10
  subst l10 y10 z10
  obtain ⟨rfl, N10q, K10q, V10q⟩ := hQ10
  have N10 := Fr.app N9 N10q
  have S10 : own_S Z T10.heap b7 bb kB p3 (own_n p1) (own_zz.set vi (.long (own_x1 p3 (own_s p4)))) := ⟨S9.1.keep K10q, S9.2.1.keep K10q hnc, S9.2.2.1.keep K10q hnc, V10q⟩
  have Z10 : n0 ≤ T10.heap.size := Nat.le_trans Z9 K10q.1
  obtain ⟨cq11, kq11, q11a, q11b, q11c⟩ := isOf hZ rfl S10.1
  obtain ⟨_, _, ⟨T11, L11, k11, n11⟩, -, X11, ⟨Lc11, hQ11, l11, y11, z11⟩, st11⟩ := X10.virtualBack hx (y := (⟨"com/example/tightknit/tightknit/density/PowerSums", "grow", "(I)V"⟩ : MethodName)) (z := (⟨"com/example/tightknit/tightknit/density/PowerSums", "grow", "(I)V"⟩ : MethodName)) hown (mvT hZ (hw _ (List.mem_of_getElem? (i := 44) rfl))) (mvT hZ (hw _ (List.mem_of_getElem? (i := 45) rfl))) (notFace_of_selects (args := #[]) (mvT hZ (hw _ (List.mem_of_getElem? (i := 47) rfl)))) (mvT hZ (hw _ (List.mem_of_getElem? (i := 47) rfl))) (mvT hZ (hw _ (List.mem_of_getElem? (i := 46) rfl))) (by decide) (backOf (W := 0) (rm7 l Z a0 hw [] b7 (own_m p1 p2) bb kB (own_n p1) (own_zz.set vi (.long (own_x1 p3 (own_s p4)))) (ni + ki) p3 T10.heap n0 Z10 S10.2.2.2 hcl (own_of hmt) (by omega) (fun j hj => by rw [own_gn (by rw [hnt] at hj; omega)]; exact own_zg j) S10.2.2.1 S10.2.1 S10.1 g_b7) hZ (hw _ (List.mem_of_getElem? (i := 48) rfl)) (hw _ (List.mem_of_getElem? (i := 2) rfl)) (by decide) (by decide)) q11a q11c (g := (mkF m 76 #[.val (.int p1), .val (.int p2), .val (.int p3), .val (.int p4), .val (.int p5), .val (.int p6), .val (.int (own_n p1)), .val (.int (own_k p2)), .val (.int (own_m p1 p2)), .val (.int (own_s p4)), .val (.int (own_v p1 p4)), .val (.int (own_s p5)), .val (.ref b7), .val (.int (own_ad (0 : Int64))), .unset, .unset, .unset, .unset, .unset, .unset] [(.int (own_m p1 p2)), (.ref b7)])) rfl (by rw [hml]; rfl) (Steps.refl _) (argsL := [(.int (own_m p1 p2))]) (rest := []) (lenOf pd_0_0 rfl) rfl (by show 2 * 0 + _ ≤ _; exact Nat.le_of_eq rfl) (hb hby at_76) (fun _ _ => ⟨rfl, rfl, (by decide : 3 + 1 ≤ _), (by decide : 19 + 15 ≤ _)⟩)
  dsimp only [Pt.U, Pt.locs, Pt.cells, Pt.slots] at X11 l11 y11 z11 st11 hQ11
  subst l11 y11 z11
  obtain ⟨bc, kC, rfl, N11q, K11q, gbc, S11⟩ := hQ11
  have N11 := Fr.app N10 N11q
  have hne2 : b7 ≠ bc := by
    obtain ⟨c0, A0, -⟩ := S11.2.2.2
    exact ne_arr S11.1 (hw _ (List.mem_of_getElem? (i := 1) rfl)) A0
  have hnd : b7 ∉ [bc] := fun q => hne2 (List.mem_singleton.mp q)
  have Z11 : n0 ≤ T11.heap.size := Nat.le_trans Z10 K11q.1
  obtain ⟨cq12, kq12, q12a, q12b, q12c⟩ := isOf hZ rfl S11.1
  obtain ⟨_, _, ⟨T12, L12, k12, n12⟩, -, X12, ⟨Lc12, hQ12, l12, y12, z12⟩, st12⟩ := X11.virtualBack hx (y := (⟨"com/example/tightknit/tightknit/density/PowerSums", "add", "(II)Z"⟩ : MethodName)) (z := (⟨"com/example/tightknit/tightknit/density/PowerSums", "add", "(II)Z"⟩ : MethodName)) hown (mvT hZ (hw _ (List.mem_of_getElem? (i := 37) rfl))) (mvT hZ (hw _ (List.mem_of_getElem? (i := 38) rfl))) (notFace_of_selects (args := #[]) (mvT hZ (hw _ (List.mem_of_getElem? (i := 40) rfl)))) (mvT hZ (hw _ (List.mem_of_getElem? (i := 40) rfl))) (mvT hZ (hw _ (List.mem_of_getElem? (i := 39) rfl))) (by decide) (backOf (W := 0) (rm6 l Z a0 hw [] b7 (own_v p1 p4) (p3 + (own_s p4)) p3 bc (own_x1 p3 (own_s p4)) kC (own_m p1 p2) (own_zz.set vi (.long (own_x1 p3 (own_s p4)))) vi T11.heap n0 Z11 S11.2.2.1 S11.2.1 S11.2.2.2 hvt (by rw [hmt]; omega) (by simp only [List.length_set]; show vi < 16; omega) (own_gs (by show vi < 16; omega)) gbc (own_all p3 p4).2.2.1 (own_all p3 p4).1 (own_all p3 p4).2.2.2.1) hZ (hw _ (List.mem_of_getElem? (i := 41) rfl)) (hw _ (List.mem_of_getElem? (i := 2) rfl)) (by decide) (by decide)) q12a q12c (g := (mkF m 87 #[.val (.int p1), .val (.int p2), .val (.int p3), .val (.int p4), .val (.int p5), .val (.int p6), .val (.int (own_n p1)), .val (.int (own_k p2)), .val (.int (own_m p1 p2)), .val (.int (own_s p4)), .val (.int (own_v p1 p4)), .val (.int (own_s p5)), .val (.ref b7), .val (.int (own_ad (0 : Int64))), .unset, .unset, .unset, .unset, .unset, .unset] [(.int (p3 + (own_s p4))), (.int (own_v p1 p4)), (.ref b7)])) rfl (by rw [hml]; rfl) (Steps.refl _) (argsL := [(.int (own_v p1 p4)), (.int (p3 + (own_s p4)))]) (rest := []) (lenOf pd_0_2 rfl) rfl (by show 2 * 0 + _ ≤ _; exact Nat.le_of_eq rfl) (hb hby at_87) (fun _ _ => ⟨rfl, rfl, (by decide : 4 + 0 ≤ _), (by decide : 34 + 0 ≤ _)⟩)
  dsimp only [Pt.U, Pt.locs, Pt.cells, Pt.slots] at X12 l12 y12 z12 st12 hQ12
  subst l12 y12 z12
  obtain ⟨rfl, N12q, K12q, V12q⟩ := hQ12
  have N12 := Fr.app N11 N12q
  have S12 : own_S Z T12.heap b7 bc kC p3 (own_m p1 p2) ((own_zz.set vi (.long (own_x1 p3 (own_s p4)))).set vi (.long (own_x2 p3 (own_s p4)))) := ⟨S11.1.keep K12q, S11.2.1.keep K12q hnd, S11.2.2.1.keep K12q hnd, V12q⟩
  have Z12 : n0 ≤ T12.heap.size := Nat.le_trans Z11 K12q.1
  obtain ⟨cq13, kq13, q13a, q13b, q13c⟩ := isOf hZ rfl S12.1
  obtain ⟨_, _, ⟨T13, L13, k13, n13⟩, -, X13, ⟨Lc13, hQ13, l13, y13, z13⟩, st13⟩ := X12.virtualBack hx (y := (⟨"com/example/tightknit/tightknit/density/PowerSums", "takeCeilingPower", "(I)I"⟩ : MethodName)) (z := (⟨"com/example/tightknit/tightknit/density/PowerSums", "takeCeilingPower", "(I)I"⟩ : MethodName)) hown (mvT hZ (hw _ (List.mem_of_getElem? (i := 61) rfl))) (mvT hZ (hw _ (List.mem_of_getElem? (i := 62) rfl))) (notFace_of_selects (args := #[]) (mvT hZ (hw _ (List.mem_of_getElem? (i := 64) rfl)))) (mvT hZ (hw _ (List.mem_of_getElem? (i := 64) rfl))) (mvT hZ (hw _ (List.mem_of_getElem? (i := 63) rfl))) (by decide) (backOf (W := 0) (rm10 l Z a0 hw [] b7 (own_v p1 p4) bc (own_x2 p3 (own_s p4)) kC (own_m p1 p2) ((own_zz.set vi (.long (own_x1 p3 (own_s p4)))).set vi (.long (own_x2 p3 (own_s p4)))) vi p3 T12.heap n0 Z12 S12.1 S12.2.1 S12.2.2.2 hvt (by rw [hmt]; omega) (by simp only [List.length_set]; show vi < 16; omega) (own_gs (by simp only [List.length_set]; show vi < 16; omega)) gbc S12.2.2.1 (own_all p3 p4).2.2.2.2.2.1) hZ (hw _ (List.mem_of_getElem? (i := 65) rfl)) (hw _ (List.mem_of_getElem? (i := 2) rfl)) (by decide) (by decide)) q13a q13c (g := (mkF m 96 #[.val (.int p1), .val (.int p2), .val (.int p3), .val (.int p4), .val (.int p5), .val (.int p6), .val (.int (own_n p1)), .val (.int (own_k p2)), .val (.int (own_m p1 p2)), .val (.int (own_s p4)), .val (.int (own_v p1 p4)), .val (.int (own_s p5)), .val (.ref b7), .val (.int (own_ad (0 : Int64))), .val (.int (own_ad (own_x1 p3 (own_s p4)))), .unset, .unset, .unset, .unset, .unset] [(.int (own_v p1 p4)), (.ref b7)])) rfl (by rw [hml]; rfl) (Steps.refl _) (argsL := [(.int (own_v p1 p4))]) (rest := []) (lenOf pd_0_6 rfl) rfl (by show 2 * 0 + _ ≤ _; exact Nat.le_of_eq rfl) (hb hby at_96) (fun _ _ => ⟨rfl, rfl, (by decide : 4 + 0 ≤ _), (by decide : 34 + 0 ≤ _)⟩)
  dsimp only [Pt.U, Pt.locs, Pt.cells, Pt.slots] at X13 l13 y13 z13 st13 hQ13
  subst l13 y13 z13
  obtain ⟨rfl, N13q, K13q, V13q⟩ := hQ13
  have N13 := Fr.app N12 N13q
  have S13 : own_S Z T13.heap b7 bc kC p3 (own_m p1 p2) (((own_zz.set vi (.long (own_x1 p3 (own_s p4)))).set vi (.long (own_x2 p3 (own_s p4)))).set vi (.long (0 : Int64))) := ⟨S12.1.keep K13q, S12.2.1.keep K13q hnd, S12.2.2.1.keep K13q hnd, V13q⟩
  have Z13 : n0 ≤ T13.heap.size := Nat.le_trans Z12 K13q.1
  obtain ⟨wi, hwt, hwn, hwm⟩ := own_w_i p6 hnt hkt hn8 hk7 hc131
  obtain ⟨cq14, kq14, q14a, q14b, q14c⟩ := isOf hZ rfl S13.1
  obtain ⟨_, _, ⟨T14, L14, k14, n14⟩, -, X14, ⟨Lc14, hQ14, l14, y14, z14⟩, st14⟩ := X13.virtualBack hx (y := (⟨"com/example/tightknit/tightknit/density/PowerSums", "add", "(II)Z"⟩ : MethodName)) (z := (⟨"com/example/tightknit/tightknit/density/PowerSums", "add", "(II)Z"⟩ : MethodName)) hown (mvT hZ (hw _ (List.mem_of_getElem? (i := 37) rfl))) (mvT hZ (hw _ (List.mem_of_getElem? (i := 38) rfl))) (notFace_of_selects (args := #[]) (mvT hZ (hw _ (List.mem_of_getElem? (i := 40) rfl)))) (mvT hZ (hw _ (List.mem_of_getElem? (i := 40) rfl))) (mvT hZ (hw _ (List.mem_of_getElem? (i := 39) rfl))) (by decide) (backOf (W := 0) (rm6 l Z a0 hw [] b7 (own_w p1 p2 p6) (p3 + (own_s p5)) p3 bc (0 : Int64) kC (own_m p1 p2) (((own_zz.set vi (.long (own_x1 p3 (own_s p4)))).set vi (.long (own_x2 p3 (own_s p4)))).set vi (.long (0 : Int64))) wi T13.heap n0 Z13 S13.2.2.1 S13.2.1 S13.2.2.2 hwt (by rw [hmt]; omega) (by simp only [List.length_set]; show wi < 16; omega) (by rw [own_gn (by omega), own_gn (by omega), own_gn (by omega)]; exact own_zg wi) gbc own_m1 (own_all p3 p5).1 (own_all p3 p5).2.1) hZ (hw _ (List.mem_of_getElem? (i := 41) rfl)) (hw _ (List.mem_of_getElem? (i := 2) rfl)) (by decide) (by decide)) q14a q14c (g := (mkF m 154 #[.val (.int p1), .val (.int p2), .val (.int p3), .val (.int p4), .val (.int p5), .val (.int p6), .val (.int (own_n p1)), .val (.int (own_k p2)), .val (.int (own_m p1 p2)), .val (.int (own_s p4)), .val (.int (own_v p1 p4)), .val (.int (own_s p5)), .val (.ref b7), .val (.int (own_ad (0 : Int64))), .val (.int (own_ad (own_x1 p3 (own_s p4)))), .val (.int (p3 + ((64 : Int32) - (own_nlz ((own_x2 p3 (own_s p4)) - (1 : Int64)))))), .val (.int (1 : Int32)), .val (.int (own_w p1 p2 p6)), .unset, .unset] [(.int (p3 + (own_s p5))), (.int (own_w p1 p2 p6)), (.ref b7)])) rfl (by rw [hml]; rfl) (Steps.refl _) (argsL := [(.int (own_w p1 p2 p6)), (.int (p3 + (own_s p5)))]) (rest := []) (lenOf pd_0_2 rfl) rfl (by show 2 * 0 + _ ≤ _; exact Nat.le_of_eq rfl) (hb hby at_154) (fun _ _ => ⟨rfl, rfl, (by decide : 4 + 0 ≤ _), (by decide : 34 + 0 ≤ _)⟩)
  dsimp only [Pt.U, Pt.locs, Pt.cells, Pt.slots] at X14 l14 y14 z14 st14 hQ14
  subst l14 y14 z14
  obtain ⟨rfl, N14q, K14q, V14q⟩ := hQ14
  have N14 := Fr.app N13 N14q
  have S14 : own_S Z T14.heap b7 bc kC p3 (own_m p1 p2) ((((own_zz.set vi (.long (own_x1 p3 (own_s p4)))).set vi (.long (own_x2 p3 (own_s p4)))).set vi (.long (0 : Int64))).set wi (.long (own_x1 p3 (own_s p5)))) := ⟨S13.1.keep K14q, S13.2.1.keep K14q hnd, S13.2.2.1.keep K14q hnd, V14q⟩
  have Z14 : n0 ≤ T14.heap.size := Nat.le_trans Z13 K14q.1
  obtain ⟨cq15, kq15, q15a, q15b, q15c⟩ := isOf hZ rfl S14.1
  obtain ⟨_, _, ⟨T15, L15, k15, n15⟩, -, X15, ⟨Lc15, hQ15, l15, y15, z15⟩, st15⟩ := X14.virtualBack hx (y := (⟨"com/example/tightknit/tightknit/density/PowerSums", "takeCeilingPower", "(I)I"⟩ : MethodName)) (z := (⟨"com/example/tightknit/tightknit/density/PowerSums", "takeCeilingPower", "(I)I"⟩ : MethodName)) hown (mvT hZ (hw _ (List.mem_of_getElem? (i := 61) rfl))) (mvT hZ (hw _ (List.mem_of_getElem? (i := 62) rfl))) (notFace_of_selects (args := #[]) (mvT hZ (hw _ (List.mem_of_getElem? (i := 64) rfl)))) (mvT hZ (hw _ (List.mem_of_getElem? (i := 64) rfl))) (mvT hZ (hw _ (List.mem_of_getElem? (i := 63) rfl))) (by decide) (backOf (W := 0) (rm10 l Z a0 hw [] b7 (own_w p1 p2 p6) bc (own_x1 p3 (own_s p5)) kC (own_m p1 p2) ((((own_zz.set vi (.long (own_x1 p3 (own_s p4)))).set vi (.long (own_x2 p3 (own_s p4)))).set vi (.long (0 : Int64))).set wi (.long (own_x1 p3 (own_s p5)))) wi p3 T14.heap n0 Z14 S14.1 S14.2.1 S14.2.2.2 hwt (by rw [hmt]; omega) (by simp only [List.length_set]; show wi < 16; omega) (own_gs (by simp only [List.length_set]; show wi < 16; omega)) gbc S14.2.2.1 (own_all p3 p5).2.2.1) hZ (hw _ (List.mem_of_getElem? (i := 65) rfl)) (hw _ (List.mem_of_getElem? (i := 2) rfl)) (by decide) (by decide)) q15a q15c (g := (mkF m 163 #[.val (.int p1), .val (.int p2), .val (.int p3), .val (.int p4), .val (.int p5), .val (.int p6), .val (.int (own_n p1)), .val (.int (own_k p2)), .val (.int (own_m p1 p2)), .val (.int (own_s p4)), .val (.int (own_v p1 p4)), .val (.int (own_s p5)), .val (.ref b7), .val (.int (own_ad (0 : Int64))), .val (.int (own_ad (own_x1 p3 (own_s p4)))), .val (.int (p3 + ((64 : Int32) - (own_nlz ((own_x2 p3 (own_s p4)) - (1 : Int64)))))), .val (.int (1 : Int32)), .val (.int (own_w p1 p2 p6)), .val (.int (own_ad (0 : Int64))), .unset] [(.int (own_w p1 p2 p6)), (.ref b7)])) rfl (by rw [hml]; rfl) (Steps.refl _) (argsL := [(.int (own_w p1 p2 p6))]) (rest := []) (lenOf pd_0_6 rfl) rfl (by show 2 * 0 + _ ≤ _; exact Nat.le_of_eq rfl) (hb hby at_163) (fun _ _ => ⟨rfl, rfl, (by decide : 4 + 0 ≤ _), (by decide : 34 + 0 ≤ _)⟩)
  dsimp only [Pt.U, Pt.locs, Pt.cells, Pt.slots] at X15 l15 y15 z15 st15 hQ15
  subst l15 y15 z15
  obtain ⟨rfl, N15q, K15q, V15q⟩ := hQ15
  have N15 := Fr.app N14 N15q
  obtain ⟨fs, hr, hrun, hended, hW, hsame⟩ := X15.leave (v := some (.int (1 : Int32))) (fun h => by rw [Bd.returns] at h; cases h)
  refine ⟨_, _, pre0 _ ?_, hrun, hended, _, _, rfl, ?_, ⟨_, rfl⟩, hW, hsame.mono (by decide) (by decide)⟩
  · show Steps p.tables e below (s₁.setTop (mkF m 0 #[.val (.int p1), .val (.int p2), .val (.int p3), .val (.int p4), .val (.int p5), .val (.int p6), .unset, .unset, .unset, .unset, .unset, .unset, .unset, .unset, .unset, .unset, .unset, .unset, .unset, .unset] [])) _
    refine XS.iconst X0.here hx rfl (hb hby at_0) ?_
    show Steps p.tables e below (s₁.setTop (mkF m 1 #[.val (.int p1), .val (.int p2), .val (.int p3), .val (.int p4), .val (.int p5), .val (.int p6), .unset, .unset, .unset, .unset, .unset, .unset, .unset, .unset, .unset, .unset, .unset, .unset, .unset, .unset] [(.int (1 : Int32))])) _
    refine XS.iloadN X0.here hx rfl (hb hby at_1) rfl ?_
    show Steps p.tables e below (s₁.setTop (mkF m 2 #[.val (.int p1), .val (.int p2), .val (.int p3), .val (.int p4), .val (.int p5), .val (.int p6), .unset, .unset, .unset, .unset, .unset, .unset, .unset, .unset, .unset, .unset, .unset, .unset, .unset, .unset] [(.int p1), (.int (1 : Int32))])) _
    refine XS.bipush X0.here hx rfl (hb hby at_2) ?_
    show Steps p.tables e below (s₁.setTop (mkF m 4 #[.val (.int p1), .val (.int p2), .val (.int p3), .val (.int p4), .val (.int p5), .val (.int p6), .unset, .unset, .unset, .unset, .unset, .unset, .unset, .unset, .unset, .unset, .unset, .unset, .unset, .unset] [(.int (7 : Int32)), (.int p1), (.int (1 : Int32))])) _
    refine XS.iand X0.here hx rfl (hb hby at_4) rfl ?_
    show Steps p.tables e below (s₁.setTop (mkF m 5 #[.val (.int p1), .val (.int p2), .val (.int p3), .val (.int p4), .val (.int p5), .val (.int p6), .unset, .unset, .unset, .unset, .unset, .unset, .unset, .unset, .unset, .unset, .unset, .unset, .unset, .unset] [(.int (p1 &&& (7 : Int32))), (.int (1 : Int32))])) _
    refine XS.iadd X0.here hx rfl (hb hby at_5) rfl ?_
    show Steps p.tables e below (s₁.setTop (mkF m 6 #[.val (.int p1), .val (.int p2), .val (.int p3), .val (.int p4), .val (.int p5), .val (.int p6), .unset, .unset, .unset, .unset, .unset, .unset, .unset, .unset, .unset, .unset, .unset, .unset, .unset, .unset] [(.int ((1 : Int32) + (p1 &&& (7 : Int32))))])) _
    refine XS.istore X0.here hx rfl (hb hby at_6) rfl (l' := #[.val (.int p1), .val (.int p2), .val (.int p3), .val (.int p4), .val (.int p5), .val (.int p6), .val (.int ((1 : Int32) + (p1 &&& (7 : Int32)))), .unset, .unset, .unset, .unset, .unset, .unset, .unset, .unset, .unset, .unset, .unset, .unset, .unset]) rfl ?_
    show Steps p.tables e below (s₁.setTop (mkF m 8 #[.val (.int p1), .val (.int p2), .val (.int p3), .val (.int p4), .val (.int p5), .val (.int p6), .val (.int (own_n p1)), .unset, .unset, .unset, .unset, .unset, .unset, .unset, .unset, .unset, .unset, .unset, .unset, .unset] [])) _
    refine XS.iloadN X0.here hx rfl (hb hby at_8) rfl ?_
    show Steps p.tables e below (s₁.setTop (mkF m 9 #[.val (.int p1), .val (.int p2), .val (.int p3), .val (.int p4), .val (.int p5), .val (.int p6), .val (.int (own_n p1)), .unset, .unset, .unset, .unset, .unset, .unset, .unset, .unset, .unset, .unset, .unset, .unset, .unset] [(.int p2)])) _
    refine XS.bipush X0.here hx rfl (hb hby at_9) ?_
    show Steps p.tables e below (s₁.setTop (mkF m 11 #[.val (.int p1), .val (.int p2), .val (.int p3), .val (.int p4), .val (.int p5), .val (.int p6), .val (.int (own_n p1)), .unset, .unset, .unset, .unset, .unset, .unset, .unset, .unset, .unset, .unset, .unset, .unset, .unset] [(.int (7 : Int32)), (.int p2)])) _
    refine XS.iand X0.here hx rfl (hb hby at_11) rfl ?_
    show Steps p.tables e below (s₁.setTop (mkF m 12 #[.val (.int p1), .val (.int p2), .val (.int p3), .val (.int p4), .val (.int p5), .val (.int p6), .val (.int (own_n p1)), .unset, .unset, .unset, .unset, .unset, .unset, .unset, .unset, .unset, .unset, .unset, .unset, .unset] [(.int (p2 &&& (7 : Int32)))])) _
    refine XS.istore X0.here hx rfl (hb hby at_12) rfl (l' := #[.val (.int p1), .val (.int p2), .val (.int p3), .val (.int p4), .val (.int p5), .val (.int p6), .val (.int (own_n p1)), .val (.int (p2 &&& (7 : Int32))), .unset, .unset, .unset, .unset, .unset, .unset, .unset, .unset, .unset, .unset, .unset, .unset]) rfl ?_
    show Steps p.tables e below (s₁.setTop (mkF m 14 #[.val (.int p1), .val (.int p2), .val (.int p3), .val (.int p4), .val (.int p5), .val (.int p6), .val (.int (own_n p1)), .val (.int (own_k p2)), .unset, .unset, .unset, .unset, .unset, .unset, .unset, .unset, .unset, .unset, .unset, .unset] [])) _
    refine XS.iload X0.here hx rfl (hb hby at_14) rfl ?_
    show Steps p.tables e below (s₁.setTop (mkF m 16 #[.val (.int p1), .val (.int p2), .val (.int p3), .val (.int p4), .val (.int p5), .val (.int p6), .val (.int (own_n p1)), .val (.int (own_k p2)), .unset, .unset, .unset, .unset, .unset, .unset, .unset, .unset, .unset, .unset, .unset, .unset] [(.int (own_n p1))])) _
    refine XS.iload X0.here hx rfl (hb hby at_16) rfl ?_
    show Steps p.tables e below (s₁.setTop (mkF m 18 #[.val (.int p1), .val (.int p2), .val (.int p3), .val (.int p4), .val (.int p5), .val (.int p6), .val (.int (own_n p1)), .val (.int (own_k p2)), .unset, .unset, .unset, .unset, .unset, .unset, .unset, .unset, .unset, .unset, .unset, .unset] [(.int (own_k p2)), (.int (own_n p1))])) _
    refine XS.iadd X0.here hx rfl (hb hby at_18) rfl ?_
    show Steps p.tables e below (s₁.setTop (mkF m 19 #[.val (.int p1), .val (.int p2), .val (.int p3), .val (.int p4), .val (.int p5), .val (.int p6), .val (.int (own_n p1)), .val (.int (own_k p2)), .unset, .unset, .unset, .unset, .unset, .unset, .unset, .unset, .unset, .unset, .unset, .unset] [(.int ((own_n p1) + (own_k p2)))])) _
    refine XS.istore X0.here hx rfl (hb hby at_19) rfl (l' := #[.val (.int p1), .val (.int p2), .val (.int p3), .val (.int p4), .val (.int p5), .val (.int p6), .val (.int (own_n p1)), .val (.int (own_k p2)), .val (.int ((own_n p1) + (own_k p2))), .unset, .unset, .unset, .unset, .unset, .unset, .unset, .unset, .unset, .unset, .unset]) rfl ?_
    show Steps p.tables e below (s₁.setTop (mkF m 21 #[.val (.int p1), .val (.int p2), .val (.int p3), .val (.int p4), .val (.int p5), .val (.int p6), .val (.int (own_n p1)), .val (.int (own_k p2)), .val (.int (own_m p1 p2)), .unset, .unset, .unset, .unset, .unset, .unset, .unset, .unset, .unset, .unset, .unset] [])) _
    refine XS.iloadN X0.here hx rfl (hb hby at_21) rfl ?_
    show Steps p.tables e below (s₁.setTop (mkF m 22 #[.val (.int p1), .val (.int p2), .val (.int p3), .val (.int p4), .val (.int p5), .val (.int p6), .val (.int (own_n p1)), .val (.int (own_k p2)), .val (.int (own_m p1 p2)), .unset, .unset, .unset, .unset, .unset, .unset, .unset, .unset, .unset, .unset, .unset] [(.int p4)])) _
    refine XS.bipush X0.here hx rfl (hb hby at_22) ?_
    show Steps p.tables e below (s₁.setTop (mkF m 24 #[.val (.int p1), .val (.int p2), .val (.int p3), .val (.int p4), .val (.int p5), .val (.int p6), .val (.int (own_n p1)), .val (.int (own_k p2)), .val (.int (own_m p1 p2)), .unset, .unset, .unset, .unset, .unset, .unset, .unset, .unset, .unset, .unset, .unset] [(.int (31 : Int32)), (.int p4)])) _
    refine XS.iand X0.here hx rfl (hb hby at_24) rfl ?_
    show Steps p.tables e below (s₁.setTop (mkF m 25 #[.val (.int p1), .val (.int p2), .val (.int p3), .val (.int p4), .val (.int p5), .val (.int p6), .val (.int (own_n p1)), .val (.int (own_k p2)), .val (.int (own_m p1 p2)), .unset, .unset, .unset, .unset, .unset, .unset, .unset, .unset, .unset, .unset, .unset] [(.int (p4 &&& (31 : Int32)))])) _
    refine XS.istore X0.here hx rfl (hb hby at_25) rfl (l' := #[.val (.int p1), .val (.int p2), .val (.int p3), .val (.int p4), .val (.int p5), .val (.int p6), .val (.int (own_n p1)), .val (.int (own_k p2)), .val (.int (own_m p1 p2)), .val (.int (p4 &&& (31 : Int32))), .unset, .unset, .unset, .unset, .unset, .unset, .unset, .unset, .unset, .unset]) rfl ?_
    show Steps p.tables e below (s₁.setTop (mkF m 27 #[.val (.int p1), .val (.int p2), .val (.int p3), .val (.int p4), .val (.int p5), .val (.int p6), .val (.int (own_n p1)), .val (.int (own_k p2)), .val (.int (own_m p1 p2)), .val (.int (own_s p4)), .unset, .unset, .unset, .unset, .unset, .unset, .unset, .unset, .unset, .unset] [])) _
    refine XS.iloadN X0.here hx rfl (hb hby at_27) rfl ?_
    show Steps p.tables e below (s₁.setTop (mkF m 28 #[.val (.int p1), .val (.int p2), .val (.int p3), .val (.int p4), .val (.int p5), .val (.int p6), .val (.int (own_n p1)), .val (.int (own_k p2)), .val (.int (own_m p1 p2)), .val (.int (own_s p4)), .unset, .unset, .unset, .unset, .unset, .unset, .unset, .unset, .unset, .unset] [(.int p4)])) _
    refine XS.iconst X0.here hx rfl (hb hby at_28) ?_
    show Steps p.tables e below (s₁.setTop (mkF m 29 #[.val (.int p1), .val (.int p2), .val (.int p3), .val (.int p4), .val (.int p5), .val (.int p6), .val (.int (own_n p1)), .val (.int (own_k p2)), .val (.int (own_m p1 p2)), .val (.int (own_s p4)), .unset, .unset, .unset, .unset, .unset, .unset, .unset, .unset, .unset, .unset] [(.int (5 : Int32)), (.int p4)])) _
    refine XS.iushr X0.here hx rfl (hb hby at_29) rfl ?_
    show Steps p.tables e below (s₁.setTop (mkF m 30 #[.val (.int p1), .val (.int p2), .val (.int p3), .val (.int p4), .val (.int p5), .val (.int p6), .val (.int (own_n p1)), .val (.int (own_k p2)), .val (.int (own_m p1 p2)), .val (.int (own_s p4)), .unset, .unset, .unset, .unset, .unset, .unset, .unset, .unset, .unset, .unset] [(.int ((p4.toUInt32 >>> ((5 : Int32) &&& 31).toUInt32).toInt32))])) _
    refine XS.iload X0.here hx rfl (hb hby at_30) rfl ?_
    show Steps p.tables e below (s₁.setTop (mkF m 32 #[.val (.int p1), .val (.int p2), .val (.int p3), .val (.int p4), .val (.int p5), .val (.int p6), .val (.int (own_n p1)), .val (.int (own_k p2)), .val (.int (own_m p1 p2)), .val (.int (own_s p4)), .unset, .unset, .unset, .unset, .unset, .unset, .unset, .unset, .unset, .unset] [(.int (own_n p1)), (.int ((p4.toUInt32 >>> ((5 : Int32) &&& 31).toUInt32).toInt32))])) _
    refine Jvm.RoadKit.iremM X0 hx rfl (hb hby at_32) rfl own_nz ?_
    show Steps p.tables e below (s₁.setTop (mkF m 33 #[.val (.int p1), .val (.int p2), .val (.int p3), .val (.int p4), .val (.int p5), .val (.int p6), .val (.int (own_n p1)), .val (.int (own_k p2)), .val (.int (own_m p1 p2)), .val (.int (own_s p4)), .unset, .unset, .unset, .unset, .unset, .unset, .unset, .unset, .unset, .unset] [(.int (((p4.toUInt32 >>> ((5 : Int32) &&& 31).toUInt32).toInt32) % (own_n p1)))])) _
    refine XS.istore X0.here hx rfl (hb hby at_33) rfl (l' := #[.val (.int p1), .val (.int p2), .val (.int p3), .val (.int p4), .val (.int p5), .val (.int p6), .val (.int (own_n p1)), .val (.int (own_k p2)), .val (.int (own_m p1 p2)), .val (.int (own_s p4)), .val (.int (((p4.toUInt32 >>> ((5 : Int32) &&& 31).toUInt32).toInt32) % (own_n p1))), .unset, .unset, .unset, .unset, .unset, .unset, .unset, .unset, .unset]) rfl ?_
    show Steps p.tables e below (s₁.setTop (mkF m 35 #[.val (.int p1), .val (.int p2), .val (.int p3), .val (.int p4), .val (.int p5), .val (.int p6), .val (.int (own_n p1)), .val (.int (own_k p2)), .val (.int (own_m p1 p2)), .val (.int (own_s p4)), .val (.int (own_v p1 p4)), .unset, .unset, .unset, .unset, .unset, .unset, .unset, .unset, .unset] [])) _
    refine XS.iload X0.here hx rfl (hb hby at_35) rfl ?_
    show Steps p.tables e below (s₁.setTop (mkF m 37 #[.val (.int p1), .val (.int p2), .val (.int p3), .val (.int p4), .val (.int p5), .val (.int p6), .val (.int (own_n p1)), .val (.int (own_k p2)), .val (.int (own_m p1 p2)), .val (.int (own_s p4)), .val (.int (own_v p1 p4)), .unset, .unset, .unset, .unset, .unset, .unset, .unset, .unset, .unset] [(.int p5)])) _
    refine XS.bipush X0.here hx rfl (hb hby at_37) ?_
    show Steps p.tables e below (s₁.setTop (mkF m 39 #[.val (.int p1), .val (.int p2), .val (.int p3), .val (.int p4), .val (.int p5), .val (.int p6), .val (.int (own_n p1)), .val (.int (own_k p2)), .val (.int (own_m p1 p2)), .val (.int (own_s p4)), .val (.int (own_v p1 p4)), .unset, .unset, .unset, .unset, .unset, .unset, .unset, .unset, .unset] [(.int (31 : Int32)), (.int p5)])) _
    refine XS.iand X0.here hx rfl (hb hby at_39) rfl ?_
    show Steps p.tables e below (s₁.setTop (mkF m 40 #[.val (.int p1), .val (.int p2), .val (.int p3), .val (.int p4), .val (.int p5), .val (.int p6), .val (.int (own_n p1)), .val (.int (own_k p2)), .val (.int (own_m p1 p2)), .val (.int (own_s p4)), .val (.int (own_v p1 p4)), .unset, .unset, .unset, .unset, .unset, .unset, .unset, .unset, .unset] [(.int (p5 &&& (31 : Int32)))])) _
    refine XS.istore X0.here hx rfl (hb hby at_40) rfl (l' := #[.val (.int p1), .val (.int p2), .val (.int p3), .val (.int p4), .val (.int p5), .val (.int p6), .val (.int (own_n p1)), .val (.int (own_k p2)), .val (.int (own_m p1 p2)), .val (.int (own_s p4)), .val (.int (own_v p1 p4)), .val (.int (p5 &&& (31 : Int32))), .unset, .unset, .unset, .unset, .unset, .unset, .unset, .unset]) rfl ?_
    show Steps p.tables e below (s₁.setTop (mkF m 42 #[.val (.int p1), .val (.int p2), .val (.int p3), .val (.int p4), .val (.int p5), .val (.int p6), .val (.int (own_n p1)), .val (.int (own_k p2)), .val (.int (own_m p1 p2)), .val (.int (own_s p4)), .val (.int (own_v p1 p4)), .val (.int (own_s p5)), .unset, .unset, .unset, .unset, .unset, .unset, .unset, .unset] [])) _
    refine st7 _ ?_
    show Steps p.tables e below (T7.setTop (mkF m 45 #[.val (.int p1), .val (.int p2), .val (.int p3), .val (.int p4), .val (.int p5), .val (.int p6), .val (.int (own_n p1)), .val (.int (own_k p2)), .val (.int (own_m p1 p2)), .val (.int (own_s p4)), .val (.int (own_v p1 p4)), .val (.int (own_s p5)), .unset, .unset, .unset, .unset, .unset, .unset, .unset, .unset] [(.ref b7)])) _
    refine XS.dup X7.here hx rfl (hb hby at_45) rfl rfl ?_
    show Steps p.tables e below (T7.setTop (mkF m 46 #[.val (.int p1), .val (.int p2), .val (.int p3), .val (.int p4), .val (.int p5), .val (.int p6), .val (.int (own_n p1)), .val (.int (own_k p2)), .val (.int (own_m p1 p2)), .val (.int (own_s p4)), .val (.int (own_v p1 p4)), .val (.int (own_s p5)), .unset, .unset, .unset, .unset, .unset, .unset, .unset, .unset] [(.ref b7), (.ref b7)])) _
    refine XS.iload X7.here hx rfl (hb hby at_46) rfl ?_
    show Steps p.tables e below (T7.setTop (mkF m 48 #[.val (.int p1), .val (.int p2), .val (.int p3), .val (.int p4), .val (.int p5), .val (.int p6), .val (.int (own_n p1)), .val (.int (own_k p2)), .val (.int (own_m p1 p2)), .val (.int (own_s p4)), .val (.int (own_v p1 p4)), .val (.int (own_s p5)), .unset, .unset, .unset, .unset, .unset, .unset, .unset, .unset] [(.int (own_n p1)), (.ref b7), (.ref b7)])) _
    refine st8.trans ?_
    show Steps p.tables e below (T8.setTop (mkF m 51 #[.val (.int p1), .val (.int p2), .val (.int p3), .val (.int p4), .val (.int p5), .val (.int p6), .val (.int (own_n p1)), .val (.int (own_k p2)), .val (.int (own_m p1 p2)), .val (.int (own_s p4)), .val (.int (own_v p1 p4)), .val (.int (own_s p5)), .unset, .unset, .unset, .unset, .unset, .unset, .unset, .unset] [(.ref b7)])) _
    refine XS.astore X8.here hx rfl (hb hby at_51) rfl rfl (l' := #[.val (.int p1), .val (.int p2), .val (.int p3), .val (.int p4), .val (.int p5), .val (.int p6), .val (.int (own_n p1)), .val (.int (own_k p2)), .val (.int (own_m p1 p2)), .val (.int (own_s p4)), .val (.int (own_v p1 p4)), .val (.int (own_s p5)), .val (.ref b7), .unset, .unset, .unset, .unset, .unset, .unset, .unset]) rfl ?_
    show Steps p.tables e below (T8.setTop (mkF m 53 #[.val (.int p1), .val (.int p2), .val (.int p3), .val (.int p4), .val (.int p5), .val (.int p6), .val (.int (own_n p1)), .val (.int (own_k p2)), .val (.int (own_m p1 p2)), .val (.int (own_s p4)), .val (.int (own_v p1 p4)), .val (.int (own_s p5)), .val (.ref b7), .unset, .unset, .unset, .unset, .unset, .unset, .unset] [])) _
    refine XS.aload X8.here hx rfl (hb hby at_53) rfl rfl ?_
    show Steps p.tables e below (T8.setTop (mkF m 55 #[.val (.int p1), .val (.int p2), .val (.int p3), .val (.int p4), .val (.int p5), .val (.int p6), .val (.int (own_n p1)), .val (.int (own_k p2)), .val (.int (own_m p1 p2)), .val (.int (own_s p4)), .val (.int (own_v p1 p4)), .val (.int (own_s p5)), .val (.ref b7), .unset, .unset, .unset, .unset, .unset, .unset, .unset] [(.ref b7)])) _
    refine XS.iloadN X8.here hx rfl (hb hby at_55) rfl ?_
    show Steps p.tables e below (T8.setTop (mkF m 56 #[.val (.int p1), .val (.int p2), .val (.int p3), .val (.int p4), .val (.int p5), .val (.int p6), .val (.int (own_n p1)), .val (.int (own_k p2)), .val (.int (own_m p1 p2)), .val (.int (own_s p4)), .val (.int (own_v p1 p4)), .val (.int (own_s p5)), .val (.ref b7), .unset, .unset, .unset, .unset, .unset, .unset, .unset] [(.int p3), (.ref b7)])) _
    refine st9.trans ?_
    show Steps p.tables e below (T9.setTop (mkF m 59 #[.val (.int p1), .val (.int p2), .val (.int p3), .val (.int p4), .val (.int p5), .val (.int p6), .val (.int (own_n p1)), .val (.int (own_k p2)), .val (.int (own_m p1 p2)), .val (.int (own_s p4)), .val (.int (own_v p1 p4)), .val (.int (own_s p5)), .val (.ref b7), .unset, .unset, .unset, .unset, .unset, .unset, .unset] [])) _
    refine XS.aload X9.here hx rfl (hb hby at_59) rfl rfl ?_
    show Steps p.tables e below (T9.setTop (mkF m 61 #[.val (.int p1), .val (.int p2), .val (.int p3), .val (.int p4), .val (.int p5), .val (.int p6), .val (.int (own_n p1)), .val (.int (own_k p2)), .val (.int (own_m p1 p2)), .val (.int (own_s p4)), .val (.int (own_v p1 p4)), .val (.int (own_s p5)), .val (.ref b7), .unset, .unset, .unset, .unset, .unset, .unset, .unset] [(.ref b7)])) _
    refine XS.iload X9.here hx rfl (hb hby at_61) rfl ?_
    show Steps p.tables e below (T9.setTop (mkF m 63 #[.val (.int p1), .val (.int p2), .val (.int p3), .val (.int p4), .val (.int p5), .val (.int p6), .val (.int (own_n p1)), .val (.int (own_k p2)), .val (.int (own_m p1 p2)), .val (.int (own_s p4)), .val (.int (own_v p1 p4)), .val (.int (own_s p5)), .val (.ref b7), .unset, .unset, .unset, .unset, .unset, .unset, .unset] [(.int (own_v p1 p4)), (.ref b7)])) _
    refine XS.iloadN X9.here hx rfl (hb hby at_63) rfl ?_
    show Steps p.tables e below (T9.setTop (mkF m 64 #[.val (.int p1), .val (.int p2), .val (.int p3), .val (.int p4), .val (.int p5), .val (.int p6), .val (.int (own_n p1)), .val (.int (own_k p2)), .val (.int (own_m p1 p2)), .val (.int (own_s p4)), .val (.int (own_v p1 p4)), .val (.int (own_s p5)), .val (.ref b7), .unset, .unset, .unset, .unset, .unset, .unset, .unset] [(.int p3), (.int (own_v p1 p4)), (.ref b7)])) _
    refine XS.iload X9.here hx rfl (hb hby at_64) rfl ?_
    show Steps p.tables e below (T9.setTop (mkF m 66 #[.val (.int p1), .val (.int p2), .val (.int p3), .val (.int p4), .val (.int p5), .val (.int p6), .val (.int (own_n p1)), .val (.int (own_k p2)), .val (.int (own_m p1 p2)), .val (.int (own_s p4)), .val (.int (own_v p1 p4)), .val (.int (own_s p5)), .val (.ref b7), .unset, .unset, .unset, .unset, .unset, .unset, .unset] [(.int (own_s p4)), (.int p3), (.int (own_v p1 p4)), (.ref b7)])) _
    refine XS.iadd X9.here hx rfl (hb hby at_66) rfl ?_
    show Steps p.tables e below (T9.setTop (mkF m 67 #[.val (.int p1), .val (.int p2), .val (.int p3), .val (.int p4), .val (.int p5), .val (.int p6), .val (.int (own_n p1)), .val (.int (own_k p2)), .val (.int (own_m p1 p2)), .val (.int (own_s p4)), .val (.int (own_v p1 p4)), .val (.int (own_s p5)), .val (.ref b7), .unset, .unset, .unset, .unset, .unset, .unset, .unset] [(.int (p3 + (own_s p4))), (.int (own_v p1 p4)), (.ref b7)])) _
    refine st10.trans ?_
    show Steps p.tables e below (T10.setTop (mkF m 70 #[.val (.int p1), .val (.int p2), .val (.int p3), .val (.int p4), .val (.int p5), .val (.int p6), .val (.int (own_n p1)), .val (.int (own_k p2)), .val (.int (own_m p1 p2)), .val (.int (own_s p4)), .val (.int (own_v p1 p4)), .val (.int (own_s p5)), .val (.ref b7), .unset, .unset, .unset, .unset, .unset, .unset, .unset] [(.int (own_ad (0 : Int64)))])) _
    refine XS.istore X10.here hx rfl (hb hby at_70) rfl (l' := #[.val (.int p1), .val (.int p2), .val (.int p3), .val (.int p4), .val (.int p5), .val (.int p6), .val (.int (own_n p1)), .val (.int (own_k p2)), .val (.int (own_m p1 p2)), .val (.int (own_s p4)), .val (.int (own_v p1 p4)), .val (.int (own_s p5)), .val (.ref b7), .val (.int (own_ad (0 : Int64))), .unset, .unset, .unset, .unset, .unset, .unset]) rfl ?_
    show Steps p.tables e below (T10.setTop (mkF m 72 #[.val (.int p1), .val (.int p2), .val (.int p3), .val (.int p4), .val (.int p5), .val (.int p6), .val (.int (own_n p1)), .val (.int (own_k p2)), .val (.int (own_m p1 p2)), .val (.int (own_s p4)), .val (.int (own_v p1 p4)), .val (.int (own_s p5)), .val (.ref b7), .val (.int (own_ad (0 : Int64))), .unset, .unset, .unset, .unset, .unset, .unset] [])) _
    refine XS.aload X10.here hx rfl (hb hby at_72) rfl rfl ?_
    show Steps p.tables e below (T10.setTop (mkF m 74 #[.val (.int p1), .val (.int p2), .val (.int p3), .val (.int p4), .val (.int p5), .val (.int p6), .val (.int (own_n p1)), .val (.int (own_k p2)), .val (.int (own_m p1 p2)), .val (.int (own_s p4)), .val (.int (own_v p1 p4)), .val (.int (own_s p5)), .val (.ref b7), .val (.int (own_ad (0 : Int64))), .unset, .unset, .unset, .unset, .unset, .unset] [(.ref b7)])) _
    refine XS.iload X10.here hx rfl (hb hby at_74) rfl ?_
    show Steps p.tables e below (T10.setTop (mkF m 76 #[.val (.int p1), .val (.int p2), .val (.int p3), .val (.int p4), .val (.int p5), .val (.int p6), .val (.int (own_n p1)), .val (.int (own_k p2)), .val (.int (own_m p1 p2)), .val (.int (own_s p4)), .val (.int (own_v p1 p4)), .val (.int (own_s p5)), .val (.ref b7), .val (.int (own_ad (0 : Int64))), .unset, .unset, .unset, .unset, .unset, .unset] [(.int (own_m p1 p2)), (.ref b7)])) _
    refine st11.trans ?_
    show Steps p.tables e below (T11.setTop (mkF m 79 #[.val (.int p1), .val (.int p2), .val (.int p3), .val (.int p4), .val (.int p5), .val (.int p6), .val (.int (own_n p1)), .val (.int (own_k p2)), .val (.int (own_m p1 p2)), .val (.int (own_s p4)), .val (.int (own_v p1 p4)), .val (.int (own_s p5)), .val (.ref b7), .val (.int (own_ad (0 : Int64))), .unset, .unset, .unset, .unset, .unset, .unset] [])) _
    refine XS.aload X11.here hx rfl (hb hby at_79) rfl rfl ?_
    show Steps p.tables e below (T11.setTop (mkF m 81 #[.val (.int p1), .val (.int p2), .val (.int p3), .val (.int p4), .val (.int p5), .val (.int p6), .val (.int (own_n p1)), .val (.int (own_k p2)), .val (.int (own_m p1 p2)), .val (.int (own_s p4)), .val (.int (own_v p1 p4)), .val (.int (own_s p5)), .val (.ref b7), .val (.int (own_ad (0 : Int64))), .unset, .unset, .unset, .unset, .unset, .unset] [(.ref b7)])) _
    refine XS.iload X11.here hx rfl (hb hby at_81) rfl ?_
    show Steps p.tables e below (T11.setTop (mkF m 83 #[.val (.int p1), .val (.int p2), .val (.int p3), .val (.int p4), .val (.int p5), .val (.int p6), .val (.int (own_n p1)), .val (.int (own_k p2)), .val (.int (own_m p1 p2)), .val (.int (own_s p4)), .val (.int (own_v p1 p4)), .val (.int (own_s p5)), .val (.ref b7), .val (.int (own_ad (0 : Int64))), .unset, .unset, .unset, .unset, .unset, .unset] [(.int (own_v p1 p4)), (.ref b7)])) _
    refine XS.iloadN X11.here hx rfl (hb hby at_83) rfl ?_
    show Steps p.tables e below (T11.setTop (mkF m 84 #[.val (.int p1), .val (.int p2), .val (.int p3), .val (.int p4), .val (.int p5), .val (.int p6), .val (.int (own_n p1)), .val (.int (own_k p2)), .val (.int (own_m p1 p2)), .val (.int (own_s p4)), .val (.int (own_v p1 p4)), .val (.int (own_s p5)), .val (.ref b7), .val (.int (own_ad (0 : Int64))), .unset, .unset, .unset, .unset, .unset, .unset] [(.int p3), (.int (own_v p1 p4)), (.ref b7)])) _
    refine XS.iload X11.here hx rfl (hb hby at_84) rfl ?_
    show Steps p.tables e below (T11.setTop (mkF m 86 #[.val (.int p1), .val (.int p2), .val (.int p3), .val (.int p4), .val (.int p5), .val (.int p6), .val (.int (own_n p1)), .val (.int (own_k p2)), .val (.int (own_m p1 p2)), .val (.int (own_s p4)), .val (.int (own_v p1 p4)), .val (.int (own_s p5)), .val (.ref b7), .val (.int (own_ad (0 : Int64))), .unset, .unset, .unset, .unset, .unset, .unset] [(.int (own_s p4)), (.int p3), (.int (own_v p1 p4)), (.ref b7)])) _
    refine XS.iadd X11.here hx rfl (hb hby at_86) rfl ?_
    show Steps p.tables e below (T11.setTop (mkF m 87 #[.val (.int p1), .val (.int p2), .val (.int p3), .val (.int p4), .val (.int p5), .val (.int p6), .val (.int (own_n p1)), .val (.int (own_k p2)), .val (.int (own_m p1 p2)), .val (.int (own_s p4)), .val (.int (own_v p1 p4)), .val (.int (own_s p5)), .val (.ref b7), .val (.int (own_ad (0 : Int64))), .unset, .unset, .unset, .unset, .unset, .unset] [(.int (p3 + (own_s p4))), (.int (own_v p1 p4)), (.ref b7)])) _
    refine st12.trans ?_
    show Steps p.tables e below (T12.setTop (mkF m 90 #[.val (.int p1), .val (.int p2), .val (.int p3), .val (.int p4), .val (.int p5), .val (.int p6), .val (.int (own_n p1)), .val (.int (own_k p2)), .val (.int (own_m p1 p2)), .val (.int (own_s p4)), .val (.int (own_v p1 p4)), .val (.int (own_s p5)), .val (.ref b7), .val (.int (own_ad (0 : Int64))), .unset, .unset, .unset, .unset, .unset, .unset] [(.int (own_ad (own_x1 p3 (own_s p4))))])) _
    refine XS.istore X12.here hx rfl (hb hby at_90) rfl (l' := #[.val (.int p1), .val (.int p2), .val (.int p3), .val (.int p4), .val (.int p5), .val (.int p6), .val (.int (own_n p1)), .val (.int (own_k p2)), .val (.int (own_m p1 p2)), .val (.int (own_s p4)), .val (.int (own_v p1 p4)), .val (.int (own_s p5)), .val (.ref b7), .val (.int (own_ad (0 : Int64))), .val (.int (own_ad (own_x1 p3 (own_s p4)))), .unset, .unset, .unset, .unset, .unset]) rfl ?_
    show Steps p.tables e below (T12.setTop (mkF m 92 #[.val (.int p1), .val (.int p2), .val (.int p3), .val (.int p4), .val (.int p5), .val (.int p6), .val (.int (own_n p1)), .val (.int (own_k p2)), .val (.int (own_m p1 p2)), .val (.int (own_s p4)), .val (.int (own_v p1 p4)), .val (.int (own_s p5)), .val (.ref b7), .val (.int (own_ad (0 : Int64))), .val (.int (own_ad (own_x1 p3 (own_s p4)))), .unset, .unset, .unset, .unset, .unset] [])) _
    refine XS.aload X12.here hx rfl (hb hby at_92) rfl rfl ?_
    show Steps p.tables e below (T12.setTop (mkF m 94 #[.val (.int p1), .val (.int p2), .val (.int p3), .val (.int p4), .val (.int p5), .val (.int p6), .val (.int (own_n p1)), .val (.int (own_k p2)), .val (.int (own_m p1 p2)), .val (.int (own_s p4)), .val (.int (own_v p1 p4)), .val (.int (own_s p5)), .val (.ref b7), .val (.int (own_ad (0 : Int64))), .val (.int (own_ad (own_x1 p3 (own_s p4)))), .unset, .unset, .unset, .unset, .unset] [(.ref b7)])) _
    refine XS.iload X12.here hx rfl (hb hby at_94) rfl ?_
    show Steps p.tables e below (T12.setTop (mkF m 96 #[.val (.int p1), .val (.int p2), .val (.int p3), .val (.int p4), .val (.int p5), .val (.int p6), .val (.int (own_n p1)), .val (.int (own_k p2)), .val (.int (own_m p1 p2)), .val (.int (own_s p4)), .val (.int (own_v p1 p4)), .val (.int (own_s p5)), .val (.ref b7), .val (.int (own_ad (0 : Int64))), .val (.int (own_ad (own_x1 p3 (own_s p4)))), .unset, .unset, .unset, .unset, .unset] [(.int (own_v p1 p4)), (.ref b7)])) _
    refine st13.trans ?_
    show Steps p.tables e below (T13.setTop (mkF m 99 #[.val (.int p1), .val (.int p2), .val (.int p3), .val (.int p4), .val (.int p5), .val (.int p6), .val (.int (own_n p1)), .val (.int (own_k p2)), .val (.int (own_m p1 p2)), .val (.int (own_s p4)), .val (.int (own_v p1 p4)), .val (.int (own_s p5)), .val (.ref b7), .val (.int (own_ad (0 : Int64))), .val (.int (own_ad (own_x1 p3 (own_s p4)))), .unset, .unset, .unset, .unset, .unset] [(.int (p3 + ((64 : Int32) - (own_nlz ((own_x2 p3 (own_s p4)) - (1 : Int64))))))])) _
    refine XS.istore X13.here hx rfl (hb hby at_99) rfl (l' := #[.val (.int p1), .val (.int p2), .val (.int p3), .val (.int p4), .val (.int p5), .val (.int p6), .val (.int (own_n p1)), .val (.int (own_k p2)), .val (.int (own_m p1 p2)), .val (.int (own_s p4)), .val (.int (own_v p1 p4)), .val (.int (own_s p5)), .val (.ref b7), .val (.int (own_ad (0 : Int64))), .val (.int (own_ad (own_x1 p3 (own_s p4)))), .val (.int (p3 + ((64 : Int32) - (own_nlz ((own_x2 p3 (own_s p4)) - (1 : Int64)))))), .unset, .unset, .unset, .unset]) rfl ?_
    show Steps p.tables e below (T13.setTop (mkF m 101 #[.val (.int p1), .val (.int p2), .val (.int p3), .val (.int p4), .val (.int p5), .val (.int p6), .val (.int (own_n p1)), .val (.int (own_k p2)), .val (.int (own_m p1 p2)), .val (.int (own_s p4)), .val (.int (own_v p1 p4)), .val (.int (own_s p5)), .val (.ref b7), .val (.int (own_ad (0 : Int64))), .val (.int (own_ad (own_x1 p3 (own_s p4)))), .val (.int (p3 + ((64 : Int32) - (own_nlz ((own_x2 p3 (own_s p4)) - (1 : Int64)))))), .unset, .unset, .unset, .unset] [])) _
    refine XS.iload X13.here hx rfl (hb hby at_101) rfl ?_
    show Steps p.tables e below (T13.setTop (mkF m 103 #[.val (.int p1), .val (.int p2), .val (.int p3), .val (.int p4), .val (.int p5), .val (.int p6), .val (.int (own_n p1)), .val (.int (own_k p2)), .val (.int (own_m p1 p2)), .val (.int (own_s p4)), .val (.int (own_v p1 p4)), .val (.int (own_s p5)), .val (.ref b7), .val (.int (own_ad (0 : Int64))), .val (.int (own_ad (own_x1 p3 (own_s p4)))), .val (.int (p3 + ((64 : Int32) - (own_nlz ((own_x2 p3 (own_s p4)) - (1 : Int64)))))), .unset, .unset, .unset, .unset] [(.int (own_ad (0 : Int64)))])) _
    refine XS.ifNo X13.here hx rfl (hb hby at_103) rfl ((if0 _ _).trans (feq (own_ad0 : ¬ ((own_ad (0 : Int64)) = (0 : Int32)))).1) ?_
    show Steps p.tables e below (T13.setTop (mkF m 106 #[.val (.int p1), .val (.int p2), .val (.int p3), .val (.int p4), .val (.int p5), .val (.int p6), .val (.int (own_n p1)), .val (.int (own_k p2)), .val (.int (own_m p1 p2)), .val (.int (own_s p4)), .val (.int (own_v p1 p4)), .val (.int (own_s p5)), .val (.ref b7), .val (.int (own_ad (0 : Int64))), .val (.int (own_ad (own_x1 p3 (own_s p4)))), .val (.int (p3 + ((64 : Int32) - (own_nlz ((own_x2 p3 (own_s p4)) - (1 : Int64)))))), .unset, .unset, .unset, .unset] [])) _
    refine XS.iload X13.here hx rfl (hb hby at_106) rfl ?_
    show Steps p.tables e below (T13.setTop (mkF m 108 #[.val (.int p1), .val (.int p2), .val (.int p3), .val (.int p4), .val (.int p5), .val (.int p6), .val (.int (own_n p1)), .val (.int (own_k p2)), .val (.int (own_m p1 p2)), .val (.int (own_s p4)), .val (.int (own_v p1 p4)), .val (.int (own_s p5)), .val (.ref b7), .val (.int (own_ad (0 : Int64))), .val (.int (own_ad (own_x1 p3 (own_s p4)))), .val (.int (p3 + ((64 : Int32) - (own_nlz ((own_x2 p3 (own_s p4)) - (1 : Int64)))))), .unset, .unset, .unset, .unset] [(.int (own_ad (own_x1 p3 (own_s p4))))])) _
    refine XS.ifNo X13.here hx rfl (hb hby at_108) rfl ((if0 _ _).trans (teq ((own_all p3 p4).2.2.2.2.1 : (own_ad (own_x1 p3 (own_s p4))) = (0 : Int32))).2) ?_
    show Steps p.tables e below (T13.setTop (mkF m 111 #[.val (.int p1), .val (.int p2), .val (.int p3), .val (.int p4), .val (.int p5), .val (.int p6), .val (.int (own_n p1)), .val (.int (own_k p2)), .val (.int (own_m p1 p2)), .val (.int (own_s p4)), .val (.int (own_v p1 p4)), .val (.int (own_s p5)), .val (.ref b7), .val (.int (own_ad (0 : Int64))), .val (.int (own_ad (own_x1 p3 (own_s p4)))), .val (.int (p3 + ((64 : Int32) - (own_nlz ((own_x2 p3 (own_s p4)) - (1 : Int64)))))), .unset, .unset, .unset, .unset] [])) _
    refine XS.iload X13.here hx rfl (hb hby at_111) rfl ?_
    show Steps p.tables e below (T13.setTop (mkF m 113 #[.val (.int p1), .val (.int p2), .val (.int p3), .val (.int p4), .val (.int p5), .val (.int p6), .val (.int (own_n p1)), .val (.int (own_k p2)), .val (.int (own_m p1 p2)), .val (.int (own_s p4)), .val (.int (own_v p1 p4)), .val (.int (own_s p5)), .val (.ref b7), .val (.int (own_ad (0 : Int64))), .val (.int (own_ad (own_x1 p3 (own_s p4)))), .val (.int (p3 + ((64 : Int32) - (own_nlz ((own_x2 p3 (own_s p4)) - (1 : Int64)))))), .unset, .unset, .unset, .unset] [(.int (p3 + ((64 : Int32) - (own_nlz ((own_x2 p3 (own_s p4)) - (1 : Int64))))))])) _
    refine XS.iloadN X13.here hx rfl (hb hby at_113) rfl ?_
    show Steps p.tables e below (T13.setTop (mkF m 114 #[.val (.int p1), .val (.int p2), .val (.int p3), .val (.int p4), .val (.int p5), .val (.int p6), .val (.int (own_n p1)), .val (.int (own_k p2)), .val (.int (own_m p1 p2)), .val (.int (own_s p4)), .val (.int (own_v p1 p4)), .val (.int (own_s p5)), .val (.ref b7), .val (.int (own_ad (0 : Int64))), .val (.int (own_ad (own_x1 p3 (own_s p4)))), .val (.int (p3 + ((64 : Int32) - (own_nlz ((own_x2 p3 (own_s p4)) - (1 : Int64)))))), .unset, .unset, .unset, .unset] [(.int p3), (.int (p3 + ((64 : Int32) - (own_nlz ((own_x2 p3 (own_s p4)) - (1 : Int64))))))])) _
    refine XS.iload X13.here hx rfl (hb hby at_114) rfl ?_
    show Steps p.tables e below (T13.setTop (mkF m 116 #[.val (.int p1), .val (.int p2), .val (.int p3), .val (.int p4), .val (.int p5), .val (.int p6), .val (.int (own_n p1)), .val (.int (own_k p2)), .val (.int (own_m p1 p2)), .val (.int (own_s p4)), .val (.int (own_v p1 p4)), .val (.int (own_s p5)), .val (.ref b7), .val (.int (own_ad (0 : Int64))), .val (.int (own_ad (own_x1 p3 (own_s p4)))), .val (.int (p3 + ((64 : Int32) - (own_nlz ((own_x2 p3 (own_s p4)) - (1 : Int64)))))), .unset, .unset, .unset, .unset] [(.int (own_s p4)), (.int p3), (.int (p3 + ((64 : Int32) - (own_nlz ((own_x2 p3 (own_s p4)) - (1 : Int64))))))])) _
    refine XS.iadd X13.here hx rfl (hb hby at_116) rfl ?_
    show Steps p.tables e below (T13.setTop (mkF m 117 #[.val (.int p1), .val (.int p2), .val (.int p3), .val (.int p4), .val (.int p5), .val (.int p6), .val (.int (own_n p1)), .val (.int (own_k p2)), .val (.int (own_m p1 p2)), .val (.int (own_s p4)), .val (.int (own_v p1 p4)), .val (.int (own_s p5)), .val (.ref b7), .val (.int (own_ad (0 : Int64))), .val (.int (own_ad (own_x1 p3 (own_s p4)))), .val (.int (p3 + ((64 : Int32) - (own_nlz ((own_x2 p3 (own_s p4)) - (1 : Int64)))))), .unset, .unset, .unset, .unset] [(.int (p3 + (own_s p4))), (.int (p3 + ((64 : Int32) - (own_nlz ((own_x2 p3 (own_s p4)) - (1 : Int64))))))])) _
    refine XS.iconst X13.here hx rfl (hb hby at_117) ?_
    show Steps p.tables e below (T13.setTop (mkF m 118 #[.val (.int p1), .val (.int p2), .val (.int p3), .val (.int p4), .val (.int p5), .val (.int p6), .val (.int (own_n p1)), .val (.int (own_k p2)), .val (.int (own_m p1 p2)), .val (.int (own_s p4)), .val (.int (own_v p1 p4)), .val (.int (own_s p5)), .val (.ref b7), .val (.int (own_ad (0 : Int64))), .val (.int (own_ad (own_x1 p3 (own_s p4)))), .val (.int (p3 + ((64 : Int32) - (own_nlz ((own_x2 p3 (own_s p4)) - (1 : Int64)))))), .unset, .unset, .unset, .unset] [(.int (1 : Int32)), (.int (p3 + (own_s p4))), (.int (p3 + ((64 : Int32) - (own_nlz ((own_x2 p3 (own_s p4)) - (1 : Int64))))))])) _
    refine XS.iadd X13.here hx rfl (hb hby at_118) rfl ?_
    show Steps p.tables e below (T13.setTop (mkF m 119 #[.val (.int p1), .val (.int p2), .val (.int p3), .val (.int p4), .val (.int p5), .val (.int p6), .val (.int (own_n p1)), .val (.int (own_k p2)), .val (.int (own_m p1 p2)), .val (.int (own_s p4)), .val (.int (own_v p1 p4)), .val (.int (own_s p5)), .val (.ref b7), .val (.int (own_ad (0 : Int64))), .val (.int (own_ad (own_x1 p3 (own_s p4)))), .val (.int (p3 + ((64 : Int32) - (own_nlz ((own_x2 p3 (own_s p4)) - (1 : Int64)))))), .unset, .unset, .unset, .unset] [(.int ((p3 + (own_s p4)) + (1 : Int32))), (.int (p3 + ((64 : Int32) - (own_nlz ((own_x2 p3 (own_s p4)) - (1 : Int64))))))])) _
    refine XS.icmpNo X13.here hx rfl (hb hby at_119) rfl (teq (own_tk2 p3 p4 : (p3 + ((64 : Int32) - (own_nlz ((own_x2 p3 (own_s p4)) - (1 : Int64))))) = ((p3 + (own_s p4)) + (1 : Int32)))).2 ?_
    show Steps p.tables e below (T13.setTop (mkF m 122 #[.val (.int p1), .val (.int p2), .val (.int p3), .val (.int p4), .val (.int p5), .val (.int p6), .val (.int (own_n p1)), .val (.int (own_k p2)), .val (.int (own_m p1 p2)), .val (.int (own_s p4)), .val (.int (own_v p1 p4)), .val (.int (own_s p5)), .val (.ref b7), .val (.int (own_ad (0 : Int64))), .val (.int (own_ad (own_x1 p3 (own_s p4)))), .val (.int (p3 + ((64 : Int32) - (own_nlz ((own_x2 p3 (own_s p4)) - (1 : Int64)))))), .unset, .unset, .unset, .unset] [])) _
    refine XS.iconst X13.here hx rfl (hb hby at_122) ?_
    show Steps p.tables e below (T13.setTop (mkF m 123 #[.val (.int p1), .val (.int p2), .val (.int p3), .val (.int p4), .val (.int p5), .val (.int p6), .val (.int (own_n p1)), .val (.int (own_k p2)), .val (.int (own_m p1 p2)), .val (.int (own_s p4)), .val (.int (own_v p1 p4)), .val (.int (own_s p5)), .val (.ref b7), .val (.int (own_ad (0 : Int64))), .val (.int (own_ad (own_x1 p3 (own_s p4)))), .val (.int (p3 + ((64 : Int32) - (own_nlz ((own_x2 p3 (own_s p4)) - (1 : Int64)))))), .unset, .unset, .unset, .unset] [(.int (1 : Int32))])) _
    refine XS.goto X13.here hx rfl (pc0 := 123) (pc' := 127) rfl (hb hby at_123) (by decide) (by decide) ?_
    show Steps p.tables e below (T13.setTop (mkF m 127 #[.val (.int p1), .val (.int p2), .val (.int p3), .val (.int p4), .val (.int p5), .val (.int p6), .val (.int (own_n p1)), .val (.int (own_k p2)), .val (.int (own_m p1 p2)), .val (.int (own_s p4)), .val (.int (own_v p1 p4)), .val (.int (own_s p5)), .val (.ref b7), .val (.int (own_ad (0 : Int64))), .val (.int (own_ad (own_x1 p3 (own_s p4)))), .val (.int (p3 + ((64 : Int32) - (own_nlz ((own_x2 p3 (own_s p4)) - (1 : Int64)))))), .unset, .unset, .unset, .unset] [(.int (1 : Int32))])) _
    refine XS.istore X13.here hx rfl (hb hby at_127) rfl (l' := #[.val (.int p1), .val (.int p2), .val (.int p3), .val (.int p4), .val (.int p5), .val (.int p6), .val (.int (own_n p1)), .val (.int (own_k p2)), .val (.int (own_m p1 p2)), .val (.int (own_s p4)), .val (.int (own_v p1 p4)), .val (.int (own_s p5)), .val (.ref b7), .val (.int (own_ad (0 : Int64))), .val (.int (own_ad (own_x1 p3 (own_s p4)))), .val (.int (p3 + ((64 : Int32) - (own_nlz ((own_x2 p3 (own_s p4)) - (1 : Int64)))))), .val (.int (1 : Int32)), .unset, .unset, .unset]) rfl ?_
    show Steps p.tables e below (T13.setTop (mkF m 129 #[.val (.int p1), .val (.int p2), .val (.int p3), .val (.int p4), .val (.int p5), .val (.int p6), .val (.int (own_n p1)), .val (.int (own_k p2)), .val (.int (own_m p1 p2)), .val (.int (own_s p4)), .val (.int (own_v p1 p4)), .val (.int (own_s p5)), .val (.ref b7), .val (.int (own_ad (0 : Int64))), .val (.int (own_ad (own_x1 p3 (own_s p4)))), .val (.int (p3 + ((64 : Int32) - (own_nlz ((own_x2 p3 (own_s p4)) - (1 : Int64)))))), .val (.int (1 : Int32)), .unset, .unset, .unset] [])) _
    refine XS.iload X13.here hx rfl (hb hby at_129) rfl ?_
    show Steps p.tables e below (T13.setTop (mkF m 131 #[.val (.int p1), .val (.int p2), .val (.int p3), .val (.int p4), .val (.int p5), .val (.int p6), .val (.int (own_n p1)), .val (.int (own_k p2)), .val (.int (own_m p1 p2)), .val (.int (own_s p4)), .val (.int (own_v p1 p4)), .val (.int (own_s p5)), .val (.ref b7), .val (.int (own_ad (0 : Int64))), .val (.int (own_ad (own_x1 p3 (own_s p4)))), .val (.int (p3 + ((64 : Int32) - (own_nlz ((own_x2 p3 (own_s p4)) - (1 : Int64)))))), .val (.int (1 : Int32)), .unset, .unset, .unset] [(.int (own_k p2))])) _
    refine XS.ifNo X13.here hx rfl (hb hby at_131) rfl ((if0 _ _).trans (tlt hc131).2.2.2) ?_
    show Steps p.tables e below (T13.setTop (mkF m 134 #[.val (.int p1), .val (.int p2), .val (.int p3), .val (.int p4), .val (.int p5), .val (.int p6), .val (.int (own_n p1)), .val (.int (own_k p2)), .val (.int (own_m p1 p2)), .val (.int (own_s p4)), .val (.int (own_v p1 p4)), .val (.int (own_s p5)), .val (.ref b7), .val (.int (own_ad (0 : Int64))), .val (.int (own_ad (own_x1 p3 (own_s p4)))), .val (.int (p3 + ((64 : Int32) - (own_nlz ((own_x2 p3 (own_s p4)) - (1 : Int64)))))), .val (.int (1 : Int32)), .unset, .unset, .unset] [])) _
    refine XS.iload X13.here hx rfl (hb hby at_134) rfl ?_
    show Steps p.tables e below (T13.setTop (mkF m 136 #[.val (.int p1), .val (.int p2), .val (.int p3), .val (.int p4), .val (.int p5), .val (.int p6), .val (.int (own_n p1)), .val (.int (own_k p2)), .val (.int (own_m p1 p2)), .val (.int (own_s p4)), .val (.int (own_v p1 p4)), .val (.int (own_s p5)), .val (.ref b7), .val (.int (own_ad (0 : Int64))), .val (.int (own_ad (own_x1 p3 (own_s p4)))), .val (.int (p3 + ((64 : Int32) - (own_nlz ((own_x2 p3 (own_s p4)) - (1 : Int64)))))), .val (.int (1 : Int32)), .unset, .unset, .unset] [(.int (own_n p1))])) _
    refine XS.iload X13.here hx rfl (hb hby at_136) rfl ?_
    show Steps p.tables e below (T13.setTop (mkF m 138 #[.val (.int p1), .val (.int p2), .val (.int p3), .val (.int p4), .val (.int p5), .val (.int p6), .val (.int (own_n p1)), .val (.int (own_k p2)), .val (.int (own_m p1 p2)), .val (.int (own_s p4)), .val (.int (own_v p1 p4)), .val (.int (own_s p5)), .val (.ref b7), .val (.int (own_ad (0 : Int64))), .val (.int (own_ad (own_x1 p3 (own_s p4)))), .val (.int (p3 + ((64 : Int32) - (own_nlz ((own_x2 p3 (own_s p4)) - (1 : Int64)))))), .val (.int (1 : Int32)), .unset, .unset, .unset] [(.int p6), (.int (own_n p1))])) _
    refine XS.iconst X13.here hx rfl (hb hby at_138) ?_
    show Steps p.tables e below (T13.setTop (mkF m 139 #[.val (.int p1), .val (.int p2), .val (.int p3), .val (.int p4), .val (.int p5), .val (.int p6), .val (.int (own_n p1)), .val (.int (own_k p2)), .val (.int (own_m p1 p2)), .val (.int (own_s p4)), .val (.int (own_v p1 p4)), .val (.int (own_s p5)), .val (.ref b7), .val (.int (own_ad (0 : Int64))), .val (.int (own_ad (own_x1 p3 (own_s p4)))), .val (.int (p3 + ((64 : Int32) - (own_nlz ((own_x2 p3 (own_s p4)) - (1 : Int64)))))), .val (.int (1 : Int32)), .unset, .unset, .unset] [(.int (1 : Int32)), (.int p6), (.int (own_n p1))])) _
    refine XS.iushr X13.here hx rfl (hb hby at_139) rfl ?_
    show Steps p.tables e below (T13.setTop (mkF m 140 #[.val (.int p1), .val (.int p2), .val (.int p3), .val (.int p4), .val (.int p5), .val (.int p6), .val (.int (own_n p1)), .val (.int (own_k p2)), .val (.int (own_m p1 p2)), .val (.int (own_s p4)), .val (.int (own_v p1 p4)), .val (.int (own_s p5)), .val (.ref b7), .val (.int (own_ad (0 : Int64))), .val (.int (own_ad (own_x1 p3 (own_s p4)))), .val (.int (p3 + ((64 : Int32) - (own_nlz ((own_x2 p3 (own_s p4)) - (1 : Int64)))))), .val (.int (1 : Int32)), .unset, .unset, .unset] [(.int ((p6.toUInt32 >>> ((1 : Int32) &&& 31).toUInt32).toInt32)), (.int (own_n p1))])) _
    refine XS.iload X13.here hx rfl (hb hby at_140) rfl ?_
    show Steps p.tables e below (T13.setTop (mkF m 142 #[.val (.int p1), .val (.int p2), .val (.int p3), .val (.int p4), .val (.int p5), .val (.int p6), .val (.int (own_n p1)), .val (.int (own_k p2)), .val (.int (own_m p1 p2)), .val (.int (own_s p4)), .val (.int (own_v p1 p4)), .val (.int (own_s p5)), .val (.ref b7), .val (.int (own_ad (0 : Int64))), .val (.int (own_ad (own_x1 p3 (own_s p4)))), .val (.int (p3 + ((64 : Int32) - (own_nlz ((own_x2 p3 (own_s p4)) - (1 : Int64)))))), .val (.int (1 : Int32)), .unset, .unset, .unset] [(.int (own_k p2)), (.int ((p6.toUInt32 >>> ((1 : Int32) &&& 31).toUInt32).toInt32)), (.int (own_n p1))])) _
    refine Jvm.RoadKit.iremM X13 hx rfl (hb hby at_142) rfl (own_knz hc131) ?_
    show Steps p.tables e below (T13.setTop (mkF m 143 #[.val (.int p1), .val (.int p2), .val (.int p3), .val (.int p4), .val (.int p5), .val (.int p6), .val (.int (own_n p1)), .val (.int (own_k p2)), .val (.int (own_m p1 p2)), .val (.int (own_s p4)), .val (.int (own_v p1 p4)), .val (.int (own_s p5)), .val (.ref b7), .val (.int (own_ad (0 : Int64))), .val (.int (own_ad (own_x1 p3 (own_s p4)))), .val (.int (p3 + ((64 : Int32) - (own_nlz ((own_x2 p3 (own_s p4)) - (1 : Int64)))))), .val (.int (1 : Int32)), .unset, .unset, .unset] [(.int (((p6.toUInt32 >>> ((1 : Int32) &&& 31).toUInt32).toInt32) % (own_k p2))), (.int (own_n p1))])) _
    refine XS.iadd X13.here hx rfl (hb hby at_143) rfl ?_
    show Steps p.tables e below (T13.setTop (mkF m 144 #[.val (.int p1), .val (.int p2), .val (.int p3), .val (.int p4), .val (.int p5), .val (.int p6), .val (.int (own_n p1)), .val (.int (own_k p2)), .val (.int (own_m p1 p2)), .val (.int (own_s p4)), .val (.int (own_v p1 p4)), .val (.int (own_s p5)), .val (.ref b7), .val (.int (own_ad (0 : Int64))), .val (.int (own_ad (own_x1 p3 (own_s p4)))), .val (.int (p3 + ((64 : Int32) - (own_nlz ((own_x2 p3 (own_s p4)) - (1 : Int64)))))), .val (.int (1 : Int32)), .unset, .unset, .unset] [(.int ((own_n p1) + (((p6.toUInt32 >>> ((1 : Int32) &&& 31).toUInt32).toInt32) % (own_k p2))))])) _
    refine XS.istore X13.here hx rfl (hb hby at_144) rfl (l' := #[.val (.int p1), .val (.int p2), .val (.int p3), .val (.int p4), .val (.int p5), .val (.int p6), .val (.int (own_n p1)), .val (.int (own_k p2)), .val (.int (own_m p1 p2)), .val (.int (own_s p4)), .val (.int (own_v p1 p4)), .val (.int (own_s p5)), .val (.ref b7), .val (.int (own_ad (0 : Int64))), .val (.int (own_ad (own_x1 p3 (own_s p4)))), .val (.int (p3 + ((64 : Int32) - (own_nlz ((own_x2 p3 (own_s p4)) - (1 : Int64)))))), .val (.int (1 : Int32)), .val (.int ((own_n p1) + (((p6.toUInt32 >>> ((1 : Int32) &&& 31).toUInt32).toInt32) % (own_k p2)))), .unset, .unset]) rfl ?_
    show Steps p.tables e below (T13.setTop (mkF m 146 #[.val (.int p1), .val (.int p2), .val (.int p3), .val (.int p4), .val (.int p5), .val (.int p6), .val (.int (own_n p1)), .val (.int (own_k p2)), .val (.int (own_m p1 p2)), .val (.int (own_s p4)), .val (.int (own_v p1 p4)), .val (.int (own_s p5)), .val (.ref b7), .val (.int (own_ad (0 : Int64))), .val (.int (own_ad (own_x1 p3 (own_s p4)))), .val (.int (p3 + ((64 : Int32) - (own_nlz ((own_x2 p3 (own_s p4)) - (1 : Int64)))))), .val (.int (1 : Int32)), .val (.int (own_w p1 p2 p6)), .unset, .unset] [])) _
    refine XS.aload X13.here hx rfl (hb hby at_146) rfl rfl ?_
    show Steps p.tables e below (T13.setTop (mkF m 148 #[.val (.int p1), .val (.int p2), .val (.int p3), .val (.int p4), .val (.int p5), .val (.int p6), .val (.int (own_n p1)), .val (.int (own_k p2)), .val (.int (own_m p1 p2)), .val (.int (own_s p4)), .val (.int (own_v p1 p4)), .val (.int (own_s p5)), .val (.ref b7), .val (.int (own_ad (0 : Int64))), .val (.int (own_ad (own_x1 p3 (own_s p4)))), .val (.int (p3 + ((64 : Int32) - (own_nlz ((own_x2 p3 (own_s p4)) - (1 : Int64)))))), .val (.int (1 : Int32)), .val (.int (own_w p1 p2 p6)), .unset, .unset] [(.ref b7)])) _
    refine XS.iload X13.here hx rfl (hb hby at_148) rfl ?_
    show Steps p.tables e below (T13.setTop (mkF m 150 #[.val (.int p1), .val (.int p2), .val (.int p3), .val (.int p4), .val (.int p5), .val (.int p6), .val (.int (own_n p1)), .val (.int (own_k p2)), .val (.int (own_m p1 p2)), .val (.int (own_s p4)), .val (.int (own_v p1 p4)), .val (.int (own_s p5)), .val (.ref b7), .val (.int (own_ad (0 : Int64))), .val (.int (own_ad (own_x1 p3 (own_s p4)))), .val (.int (p3 + ((64 : Int32) - (own_nlz ((own_x2 p3 (own_s p4)) - (1 : Int64)))))), .val (.int (1 : Int32)), .val (.int (own_w p1 p2 p6)), .unset, .unset] [(.int (own_w p1 p2 p6)), (.ref b7)])) _
    refine XS.iloadN X13.here hx rfl (hb hby at_150) rfl ?_
    show Steps p.tables e below (T13.setTop (mkF m 151 #[.val (.int p1), .val (.int p2), .val (.int p3), .val (.int p4), .val (.int p5), .val (.int p6), .val (.int (own_n p1)), .val (.int (own_k p2)), .val (.int (own_m p1 p2)), .val (.int (own_s p4)), .val (.int (own_v p1 p4)), .val (.int (own_s p5)), .val (.ref b7), .val (.int (own_ad (0 : Int64))), .val (.int (own_ad (own_x1 p3 (own_s p4)))), .val (.int (p3 + ((64 : Int32) - (own_nlz ((own_x2 p3 (own_s p4)) - (1 : Int64)))))), .val (.int (1 : Int32)), .val (.int (own_w p1 p2 p6)), .unset, .unset] [(.int p3), (.int (own_w p1 p2 p6)), (.ref b7)])) _
    refine XS.iload X13.here hx rfl (hb hby at_151) rfl ?_
    show Steps p.tables e below (T13.setTop (mkF m 153 #[.val (.int p1), .val (.int p2), .val (.int p3), .val (.int p4), .val (.int p5), .val (.int p6), .val (.int (own_n p1)), .val (.int (own_k p2)), .val (.int (own_m p1 p2)), .val (.int (own_s p4)), .val (.int (own_v p1 p4)), .val (.int (own_s p5)), .val (.ref b7), .val (.int (own_ad (0 : Int64))), .val (.int (own_ad (own_x1 p3 (own_s p4)))), .val (.int (p3 + ((64 : Int32) - (own_nlz ((own_x2 p3 (own_s p4)) - (1 : Int64)))))), .val (.int (1 : Int32)), .val (.int (own_w p1 p2 p6)), .unset, .unset] [(.int (own_s p5)), (.int p3), (.int (own_w p1 p2 p6)), (.ref b7)])) _
    refine XS.iadd X13.here hx rfl (hb hby at_153) rfl ?_
    show Steps p.tables e below (T13.setTop (mkF m 154 #[.val (.int p1), .val (.int p2), .val (.int p3), .val (.int p4), .val (.int p5), .val (.int p6), .val (.int (own_n p1)), .val (.int (own_k p2)), .val (.int (own_m p1 p2)), .val (.int (own_s p4)), .val (.int (own_v p1 p4)), .val (.int (own_s p5)), .val (.ref b7), .val (.int (own_ad (0 : Int64))), .val (.int (own_ad (own_x1 p3 (own_s p4)))), .val (.int (p3 + ((64 : Int32) - (own_nlz ((own_x2 p3 (own_s p4)) - (1 : Int64)))))), .val (.int (1 : Int32)), .val (.int (own_w p1 p2 p6)), .unset, .unset] [(.int (p3 + (own_s p5))), (.int (own_w p1 p2 p6)), (.ref b7)])) _
    refine st14.trans ?_
    show Steps p.tables e below (T14.setTop (mkF m 157 #[.val (.int p1), .val (.int p2), .val (.int p3), .val (.int p4), .val (.int p5), .val (.int p6), .val (.int (own_n p1)), .val (.int (own_k p2)), .val (.int (own_m p1 p2)), .val (.int (own_s p4)), .val (.int (own_v p1 p4)), .val (.int (own_s p5)), .val (.ref b7), .val (.int (own_ad (0 : Int64))), .val (.int (own_ad (own_x1 p3 (own_s p4)))), .val (.int (p3 + ((64 : Int32) - (own_nlz ((own_x2 p3 (own_s p4)) - (1 : Int64)))))), .val (.int (1 : Int32)), .val (.int (own_w p1 p2 p6)), .unset, .unset] [(.int (own_ad (0 : Int64)))])) _
    refine XS.istore X14.here hx rfl (hb hby at_157) rfl (l' := #[.val (.int p1), .val (.int p2), .val (.int p3), .val (.int p4), .val (.int p5), .val (.int p6), .val (.int (own_n p1)), .val (.int (own_k p2)), .val (.int (own_m p1 p2)), .val (.int (own_s p4)), .val (.int (own_v p1 p4)), .val (.int (own_s p5)), .val (.ref b7), .val (.int (own_ad (0 : Int64))), .val (.int (own_ad (own_x1 p3 (own_s p4)))), .val (.int (p3 + ((64 : Int32) - (own_nlz ((own_x2 p3 (own_s p4)) - (1 : Int64)))))), .val (.int (1 : Int32)), .val (.int (own_w p1 p2 p6)), .val (.int (own_ad (0 : Int64))), .unset]) rfl ?_
    show Steps p.tables e below (T14.setTop (mkF m 159 #[.val (.int p1), .val (.int p2), .val (.int p3), .val (.int p4), .val (.int p5), .val (.int p6), .val (.int (own_n p1)), .val (.int (own_k p2)), .val (.int (own_m p1 p2)), .val (.int (own_s p4)), .val (.int (own_v p1 p4)), .val (.int (own_s p5)), .val (.ref b7), .val (.int (own_ad (0 : Int64))), .val (.int (own_ad (own_x1 p3 (own_s p4)))), .val (.int (p3 + ((64 : Int32) - (own_nlz ((own_x2 p3 (own_s p4)) - (1 : Int64)))))), .val (.int (1 : Int32)), .val (.int (own_w p1 p2 p6)), .val (.int (own_ad (0 : Int64))), .unset] [])) _
    refine XS.aload X14.here hx rfl (hb hby at_159) rfl rfl ?_
    show Steps p.tables e below (T14.setTop (mkF m 161 #[.val (.int p1), .val (.int p2), .val (.int p3), .val (.int p4), .val (.int p5), .val (.int p6), .val (.int (own_n p1)), .val (.int (own_k p2)), .val (.int (own_m p1 p2)), .val (.int (own_s p4)), .val (.int (own_v p1 p4)), .val (.int (own_s p5)), .val (.ref b7), .val (.int (own_ad (0 : Int64))), .val (.int (own_ad (own_x1 p3 (own_s p4)))), .val (.int (p3 + ((64 : Int32) - (own_nlz ((own_x2 p3 (own_s p4)) - (1 : Int64)))))), .val (.int (1 : Int32)), .val (.int (own_w p1 p2 p6)), .val (.int (own_ad (0 : Int64))), .unset] [(.ref b7)])) _
    refine XS.iload X14.here hx rfl (hb hby at_161) rfl ?_
    show Steps p.tables e below (T14.setTop (mkF m 163 #[.val (.int p1), .val (.int p2), .val (.int p3), .val (.int p4), .val (.int p5), .val (.int p6), .val (.int (own_n p1)), .val (.int (own_k p2)), .val (.int (own_m p1 p2)), .val (.int (own_s p4)), .val (.int (own_v p1 p4)), .val (.int (own_s p5)), .val (.ref b7), .val (.int (own_ad (0 : Int64))), .val (.int (own_ad (own_x1 p3 (own_s p4)))), .val (.int (p3 + ((64 : Int32) - (own_nlz ((own_x2 p3 (own_s p4)) - (1 : Int64)))))), .val (.int (1 : Int32)), .val (.int (own_w p1 p2 p6)), .val (.int (own_ad (0 : Int64))), .unset] [(.int (own_w p1 p2 p6)), (.ref b7)])) _
    refine st15.trans ?_
    show Steps p.tables e below (T15.setTop (mkF m 166 #[.val (.int p1), .val (.int p2), .val (.int p3), .val (.int p4), .val (.int p5), .val (.int p6), .val (.int (own_n p1)), .val (.int (own_k p2)), .val (.int (own_m p1 p2)), .val (.int (own_s p4)), .val (.int (own_v p1 p4)), .val (.int (own_s p5)), .val (.ref b7), .val (.int (own_ad (0 : Int64))), .val (.int (own_ad (own_x1 p3 (own_s p4)))), .val (.int (p3 + ((64 : Int32) - (own_nlz ((own_x2 p3 (own_s p4)) - (1 : Int64)))))), .val (.int (1 : Int32)), .val (.int (own_w p1 p2 p6)), .val (.int (own_ad (0 : Int64))), .unset] [(.int (p3 + ((64 : Int32) - (own_nlz ((own_x1 p3 (own_s p5)) - (1 : Int64))))))])) _
    refine XS.istore X15.here hx rfl (hb hby at_166) rfl (l' := #[.val (.int p1), .val (.int p2), .val (.int p3), .val (.int p4), .val (.int p5), .val (.int p6), .val (.int (own_n p1)), .val (.int (own_k p2)), .val (.int (own_m p1 p2)), .val (.int (own_s p4)), .val (.int (own_v p1 p4)), .val (.int (own_s p5)), .val (.ref b7), .val (.int (own_ad (0 : Int64))), .val (.int (own_ad (own_x1 p3 (own_s p4)))), .val (.int (p3 + ((64 : Int32) - (own_nlz ((own_x2 p3 (own_s p4)) - (1 : Int64)))))), .val (.int (1 : Int32)), .val (.int (own_w p1 p2 p6)), .val (.int (own_ad (0 : Int64))), .val (.int (p3 + ((64 : Int32) - (own_nlz ((own_x1 p3 (own_s p5)) - (1 : Int64))))))]) rfl ?_
    show Steps p.tables e below (T15.setTop (mkF m 168 #[.val (.int p1), .val (.int p2), .val (.int p3), .val (.int p4), .val (.int p5), .val (.int p6), .val (.int (own_n p1)), .val (.int (own_k p2)), .val (.int (own_m p1 p2)), .val (.int (own_s p4)), .val (.int (own_v p1 p4)), .val (.int (own_s p5)), .val (.ref b7), .val (.int (own_ad (0 : Int64))), .val (.int (own_ad (own_x1 p3 (own_s p4)))), .val (.int (p3 + ((64 : Int32) - (own_nlz ((own_x2 p3 (own_s p4)) - (1 : Int64)))))), .val (.int (1 : Int32)), .val (.int (own_w p1 p2 p6)), .val (.int (own_ad (0 : Int64))), .val (.int (p3 + ((64 : Int32) - (own_nlz ((own_x1 p3 (own_s p5)) - (1 : Int64))))))] [])) _
    refine XS.iload X15.here hx rfl (hb hby at_168) rfl ?_
    show Steps p.tables e below (T15.setTop (mkF m 170 #[.val (.int p1), .val (.int p2), .val (.int p3), .val (.int p4), .val (.int p5), .val (.int p6), .val (.int (own_n p1)), .val (.int (own_k p2)), .val (.int (own_m p1 p2)), .val (.int (own_s p4)), .val (.int (own_v p1 p4)), .val (.int (own_s p5)), .val (.ref b7), .val (.int (own_ad (0 : Int64))), .val (.int (own_ad (own_x1 p3 (own_s p4)))), .val (.int (p3 + ((64 : Int32) - (own_nlz ((own_x2 p3 (own_s p4)) - (1 : Int64)))))), .val (.int (1 : Int32)), .val (.int (own_w p1 p2 p6)), .val (.int (own_ad (0 : Int64))), .val (.int (p3 + ((64 : Int32) - (own_nlz ((own_x1 p3 (own_s p5)) - (1 : Int64))))))] [(.int (1 : Int32))])) _
    refine XS.ifNo X15.here hx rfl (hb hby at_170) rfl ((if0 _ _).trans (feq (by decide : ¬ ((1 : Int32) = (0 : Int32)))).1) ?_
    show Steps p.tables e below (T15.setTop (mkF m 173 #[.val (.int p1), .val (.int p2), .val (.int p3), .val (.int p4), .val (.int p5), .val (.int p6), .val (.int (own_n p1)), .val (.int (own_k p2)), .val (.int (own_m p1 p2)), .val (.int (own_s p4)), .val (.int (own_v p1 p4)), .val (.int (own_s p5)), .val (.ref b7), .val (.int (own_ad (0 : Int64))), .val (.int (own_ad (own_x1 p3 (own_s p4)))), .val (.int (p3 + ((64 : Int32) - (own_nlz ((own_x2 p3 (own_s p4)) - (1 : Int64)))))), .val (.int (1 : Int32)), .val (.int (own_w p1 p2 p6)), .val (.int (own_ad (0 : Int64))), .val (.int (p3 + ((64 : Int32) - (own_nlz ((own_x1 p3 (own_s p5)) - (1 : Int64))))))] [])) _
    refine XS.iload X15.here hx rfl (hb hby at_173) rfl ?_
    show Steps p.tables e below (T15.setTop (mkF m 175 #[.val (.int p1), .val (.int p2), .val (.int p3), .val (.int p4), .val (.int p5), .val (.int p6), .val (.int (own_n p1)), .val (.int (own_k p2)), .val (.int (own_m p1 p2)), .val (.int (own_s p4)), .val (.int (own_v p1 p4)), .val (.int (own_s p5)), .val (.ref b7), .val (.int (own_ad (0 : Int64))), .val (.int (own_ad (own_x1 p3 (own_s p4)))), .val (.int (p3 + ((64 : Int32) - (own_nlz ((own_x2 p3 (own_s p4)) - (1 : Int64)))))), .val (.int (1 : Int32)), .val (.int (own_w p1 p2 p6)), .val (.int (own_ad (0 : Int64))), .val (.int (p3 + ((64 : Int32) - (own_nlz ((own_x1 p3 (own_s p5)) - (1 : Int64))))))] [(.int (own_ad (0 : Int64)))])) _
    refine XS.ifNo X15.here hx rfl (hb hby at_175) rfl ((if0 _ _).trans (feq (own_ad0 : ¬ ((own_ad (0 : Int64)) = (0 : Int32)))).1) ?_
    show Steps p.tables e below (T15.setTop (mkF m 178 #[.val (.int p1), .val (.int p2), .val (.int p3), .val (.int p4), .val (.int p5), .val (.int p6), .val (.int (own_n p1)), .val (.int (own_k p2)), .val (.int (own_m p1 p2)), .val (.int (own_s p4)), .val (.int (own_v p1 p4)), .val (.int (own_s p5)), .val (.ref b7), .val (.int (own_ad (0 : Int64))), .val (.int (own_ad (own_x1 p3 (own_s p4)))), .val (.int (p3 + ((64 : Int32) - (own_nlz ((own_x2 p3 (own_s p4)) - (1 : Int64)))))), .val (.int (1 : Int32)), .val (.int (own_w p1 p2 p6)), .val (.int (own_ad (0 : Int64))), .val (.int (p3 + ((64 : Int32) - (own_nlz ((own_x1 p3 (own_s p5)) - (1 : Int64))))))] [])) _
    refine XS.iload X15.here hx rfl (hb hby at_178) rfl ?_
    show Steps p.tables e below (T15.setTop (mkF m 180 #[.val (.int p1), .val (.int p2), .val (.int p3), .val (.int p4), .val (.int p5), .val (.int p6), .val (.int (own_n p1)), .val (.int (own_k p2)), .val (.int (own_m p1 p2)), .val (.int (own_s p4)), .val (.int (own_v p1 p4)), .val (.int (own_s p5)), .val (.ref b7), .val (.int (own_ad (0 : Int64))), .val (.int (own_ad (own_x1 p3 (own_s p4)))), .val (.int (p3 + ((64 : Int32) - (own_nlz ((own_x2 p3 (own_s p4)) - (1 : Int64)))))), .val (.int (1 : Int32)), .val (.int (own_w p1 p2 p6)), .val (.int (own_ad (0 : Int64))), .val (.int (p3 + ((64 : Int32) - (own_nlz ((own_x1 p3 (own_s p5)) - (1 : Int64))))))] [(.int (p3 + ((64 : Int32) - (own_nlz ((own_x1 p3 (own_s p5)) - (1 : Int64))))))])) _
    refine XS.iloadN X15.here hx rfl (hb hby at_180) rfl ?_
    show Steps p.tables e below (T15.setTop (mkF m 181 #[.val (.int p1), .val (.int p2), .val (.int p3), .val (.int p4), .val (.int p5), .val (.int p6), .val (.int (own_n p1)), .val (.int (own_k p2)), .val (.int (own_m p1 p2)), .val (.int (own_s p4)), .val (.int (own_v p1 p4)), .val (.int (own_s p5)), .val (.ref b7), .val (.int (own_ad (0 : Int64))), .val (.int (own_ad (own_x1 p3 (own_s p4)))), .val (.int (p3 + ((64 : Int32) - (own_nlz ((own_x2 p3 (own_s p4)) - (1 : Int64)))))), .val (.int (1 : Int32)), .val (.int (own_w p1 p2 p6)), .val (.int (own_ad (0 : Int64))), .val (.int (p3 + ((64 : Int32) - (own_nlz ((own_x1 p3 (own_s p5)) - (1 : Int64))))))] [(.int p3), (.int (p3 + ((64 : Int32) - (own_nlz ((own_x1 p3 (own_s p5)) - (1 : Int64))))))])) _
    refine XS.iload X15.here hx rfl (hb hby at_181) rfl ?_
    show Steps p.tables e below (T15.setTop (mkF m 183 #[.val (.int p1), .val (.int p2), .val (.int p3), .val (.int p4), .val (.int p5), .val (.int p6), .val (.int (own_n p1)), .val (.int (own_k p2)), .val (.int (own_m p1 p2)), .val (.int (own_s p4)), .val (.int (own_v p1 p4)), .val (.int (own_s p5)), .val (.ref b7), .val (.int (own_ad (0 : Int64))), .val (.int (own_ad (own_x1 p3 (own_s p4)))), .val (.int (p3 + ((64 : Int32) - (own_nlz ((own_x2 p3 (own_s p4)) - (1 : Int64)))))), .val (.int (1 : Int32)), .val (.int (own_w p1 p2 p6)), .val (.int (own_ad (0 : Int64))), .val (.int (p3 + ((64 : Int32) - (own_nlz ((own_x1 p3 (own_s p5)) - (1 : Int64))))))] [(.int (own_s p5)), (.int p3), (.int (p3 + ((64 : Int32) - (own_nlz ((own_x1 p3 (own_s p5)) - (1 : Int64))))))])) _
    refine XS.iadd X15.here hx rfl (hb hby at_183) rfl ?_
    show Steps p.tables e below (T15.setTop (mkF m 184 #[.val (.int p1), .val (.int p2), .val (.int p3), .val (.int p4), .val (.int p5), .val (.int p6), .val (.int (own_n p1)), .val (.int (own_k p2)), .val (.int (own_m p1 p2)), .val (.int (own_s p4)), .val (.int (own_v p1 p4)), .val (.int (own_s p5)), .val (.ref b7), .val (.int (own_ad (0 : Int64))), .val (.int (own_ad (own_x1 p3 (own_s p4)))), .val (.int (p3 + ((64 : Int32) - (own_nlz ((own_x2 p3 (own_s p4)) - (1 : Int64)))))), .val (.int (1 : Int32)), .val (.int (own_w p1 p2 p6)), .val (.int (own_ad (0 : Int64))), .val (.int (p3 + ((64 : Int32) - (own_nlz ((own_x1 p3 (own_s p5)) - (1 : Int64))))))] [(.int (p3 + (own_s p5))), (.int (p3 + ((64 : Int32) - (own_nlz ((own_x1 p3 (own_s p5)) - (1 : Int64))))))])) _
    refine XS.icmpNo X15.here hx rfl (hb hby at_184) rfl (teq (own_tk1 p3 p5 : (p3 + ((64 : Int32) - (own_nlz ((own_x1 p3 (own_s p5)) - (1 : Int64))))) = (p3 + (own_s p5)))).2 ?_
    show Steps p.tables e below (T15.setTop (mkF m 187 #[.val (.int p1), .val (.int p2), .val (.int p3), .val (.int p4), .val (.int p5), .val (.int p6), .val (.int (own_n p1)), .val (.int (own_k p2)), .val (.int (own_m p1 p2)), .val (.int (own_s p4)), .val (.int (own_v p1 p4)), .val (.int (own_s p5)), .val (.ref b7), .val (.int (own_ad (0 : Int64))), .val (.int (own_ad (own_x1 p3 (own_s p4)))), .val (.int (p3 + ((64 : Int32) - (own_nlz ((own_x2 p3 (own_s p4)) - (1 : Int64)))))), .val (.int (1 : Int32)), .val (.int (own_w p1 p2 p6)), .val (.int (own_ad (0 : Int64))), .val (.int (p3 + ((64 : Int32) - (own_nlz ((own_x1 p3 (own_s p5)) - (1 : Int64))))))] [])) _
    refine XS.iconst X15.here hx rfl (hb hby at_187) ?_
    show Steps p.tables e below (T15.setTop (mkF m 188 #[.val (.int p1), .val (.int p2), .val (.int p3), .val (.int p4), .val (.int p5), .val (.int p6), .val (.int (own_n p1)), .val (.int (own_k p2)), .val (.int (own_m p1 p2)), .val (.int (own_s p4)), .val (.int (own_v p1 p4)), .val (.int (own_s p5)), .val (.ref b7), .val (.int (own_ad (0 : Int64))), .val (.int (own_ad (own_x1 p3 (own_s p4)))), .val (.int (p3 + ((64 : Int32) - (own_nlz ((own_x2 p3 (own_s p4)) - (1 : Int64)))))), .val (.int (1 : Int32)), .val (.int (own_w p1 p2 p6)), .val (.int (own_ad (0 : Int64))), .val (.int (p3 + ((64 : Int32) - (own_nlz ((own_x1 p3 (own_s p5)) - (1 : Int64))))))] [(.int (1 : Int32))])) _
    refine XS.goto X15.here hx rfl (pc0 := 188) (pc' := 192) rfl (hb hby at_188) (by decide) (by decide) ?_
    show Steps p.tables e below (T15.setTop (mkF m 192 #[.val (.int p1), .val (.int p2), .val (.int p3), .val (.int p4), .val (.int p5), .val (.int p6), .val (.int (own_n p1)), .val (.int (own_k p2)), .val (.int (own_m p1 p2)), .val (.int (own_s p4)), .val (.int (own_v p1 p4)), .val (.int (own_s p5)), .val (.ref b7), .val (.int (own_ad (0 : Int64))), .val (.int (own_ad (own_x1 p3 (own_s p4)))), .val (.int (p3 + ((64 : Int32) - (own_nlz ((own_x2 p3 (own_s p4)) - (1 : Int64)))))), .val (.int (1 : Int32)), .val (.int (own_w p1 p2 p6)), .val (.int (own_ad (0 : Int64))), .val (.int (p3 + ((64 : Int32) - (own_nlz ((own_x1 p3 (own_s p5)) - (1 : Int64))))))] [(.int (1 : Int32))])) _
    refine XS.istore X15.here hx rfl (hb hby at_192) rfl (l' := #[.val (.int p1), .val (.int p2), .val (.int p3), .val (.int p4), .val (.int p5), .val (.int p6), .val (.int (own_n p1)), .val (.int (own_k p2)), .val (.int (own_m p1 p2)), .val (.int (own_s p4)), .val (.int (own_v p1 p4)), .val (.int (own_s p5)), .val (.ref b7), .val (.int (own_ad (0 : Int64))), .val (.int (own_ad (own_x1 p3 (own_s p4)))), .val (.int (p3 + ((64 : Int32) - (own_nlz ((own_x2 p3 (own_s p4)) - (1 : Int64)))))), .val (.int (1 : Int32)), .val (.int (own_w p1 p2 p6)), .val (.int (own_ad (0 : Int64))), .val (.int (p3 + ((64 : Int32) - (own_nlz ((own_x1 p3 (own_s p5)) - (1 : Int64))))))]) rfl ?_
    show Steps p.tables e below (T15.setTop (mkF m 194 #[.val (.int p1), .val (.int p2), .val (.int p3), .val (.int p4), .val (.int p5), .val (.int p6), .val (.int (own_n p1)), .val (.int (own_k p2)), .val (.int (own_m p1 p2)), .val (.int (own_s p4)), .val (.int (own_v p1 p4)), .val (.int (own_s p5)), .val (.ref b7), .val (.int (own_ad (0 : Int64))), .val (.int (own_ad (own_x1 p3 (own_s p4)))), .val (.int (p3 + ((64 : Int32) - (own_nlz ((own_x2 p3 (own_s p4)) - (1 : Int64)))))), .val (.int (1 : Int32)), .val (.int (own_w p1 p2 p6)), .val (.int (own_ad (0 : Int64))), .val (.int (p3 + ((64 : Int32) - (own_nlz ((own_x1 p3 (own_s p5)) - (1 : Int64))))))] [])) _
    refine XS.iload X15.here hx rfl (hb hby at_194) rfl ?_
    show Steps p.tables e below (T15.setTop (mkF m 196 #[.val (.int p1), .val (.int p2), .val (.int p3), .val (.int p4), .val (.int p5), .val (.int p6), .val (.int (own_n p1)), .val (.int (own_k p2)), .val (.int (own_m p1 p2)), .val (.int (own_s p4)), .val (.int (own_v p1 p4)), .val (.int (own_s p5)), .val (.ref b7), .val (.int (own_ad (0 : Int64))), .val (.int (own_ad (own_x1 p3 (own_s p4)))), .val (.int (p3 + ((64 : Int32) - (own_nlz ((own_x2 p3 (own_s p4)) - (1 : Int64)))))), .val (.int (1 : Int32)), .val (.int (own_w p1 p2 p6)), .val (.int (own_ad (0 : Int64))), .val (.int (p3 + ((64 : Int32) - (own_nlz ((own_x1 p3 (own_s p5)) - (1 : Int64))))))] [(.int (1 : Int32))])) _
    exact retN X15 hx (t := .boolean) Bd.returns (by simp) (hb hby at_196) hr
  · show Q0 Z p1 p2 p3 p4 p5 p6 h0 n0 _ T15.heap _
    exact ⟨rfl, N15⟩
set_option maxHeartbeats 4000000 in
theorem rm0 (l : Launch) (Z : State) (a0 : Array Value) (hw : ∀ d ∈ tables_1, d.before a0 Z = true) (ws : List Jvm.Cond) (p1 : Int32) (p2 : Int32) (p3 : Int32) (p4 : Int32) (p5 : Int32) (p6 : Int32) (h0 : Heap) (n0 : Nat) (Z0 : n0 ≤ h0.size) :
    MetFree l x (head1 (Jvm.Cond.code x code maxLocals ret :: ws) room_1) (fun a U => a = #[(.int p1), (.int p2), (.int p3), (.int p4), (.int p5), (.int p6)] ∧ Z.Warmed39 U.vm ∧ U.heap = h0) (fun _ _ _ _ _ => True) (fun _ U o U' => ∃ v L, o = .returned v ∧ Q0 Z p1 p2 p3 p4 p5 p6 h0 n0 v U'.heap L ∧ FrameEnd U o U' L room_1.cells room_1.slots) := by
  by_cases g1 : (0 : Int32) < (own_k p2)
  · exact rm0_p l Z a0 hw ws p1 p2 p3 p4 p5 p6 h0 n0 Z0 g1
  · exact rm0_z l Z a0 hw ws p1 p2 p3 p4 p5 p6 h0 n0 Z0 g1
set_option maxRecDepth 65536 in
set_option maxHeartbeats 40000000 in
theorem comes_1 {Post : Tables → Env → Array Value → State → Outcome → State → Prop} (hpost : ∀ tb e args s v u, (limb_1_1.after args s (.returned v) u = true ∧ limb_1_2.after args s (.returned v) u = true ∧ True) → FrameEnd s (.returned v) u (Jvm.fieldLocs frame_1_writes args s ++ Jvm.arrayLocs frame_1_arrays args s ++ Jvm.staticLocs frame_1_statics s) 16 192 → Post tb e args s (.returned v) u) :
    ArmFor flags0 classFile x code maxLocals ret World_1 tables_1 room_1 Calls_1 rest_1 Pre_1 Post := by
  intro l hfl _ _ p e ha hc hk s m args below hf hA hF happ hP
  obtain ⟨hcalls, hrest, hpre⟩ := hP
  obtain ⟨-, -, -, hnamed, -, -, -, hat⟩ := (Spec.applies_iff hf).mp happ
  obtain ⟨hg, hn⟩ := and_e (Cond.before_iff.mp (show (Jvm.Cond.and given_1 narrow_1).before args s = true from hpre))
  obtain ⟨g14, g15⟩ := and_e hg
  obtain ⟨g16, g17⟩ := and_e g15
  obtain ⟨g18, g19⟩ := and_e g17
  obtain ⟨g20, g21⟩ := and_e g19
  obtain ⟨g22, g23⟩ := and_e g21
  obtain ⟨g24, g25⟩ := and_e g23
  obtain ⟨w0, w1, w2, w3, w4, w5, rfl⟩ : ∃ w0 w1 w2 w3 w4 w5 : Value, args = #[w0, w1, w2, w3, w4, w5] := by
    have hs : args.size = 6 := by simpa [Cond.value, given_1] using g14
    obtain ⟨L⟩ := args
    match L, hs with
    | [w0, w1, w2, w3, w4, w5], _ => exact ⟨w0, w1, w2, w3, w4, w5, rfl⟩
  have hw := fun d (hd : d ∈ tables_1) => atoms_spec (ws := Jvm.Cond.code x code maxLocals ret :: tables_1) hat d (List.mem_cons_of_mem _ hd)
  have hfit : Fit s := fun {y c} hc i hi => by
    obtain ⟨ha, rfl⟩ := Array.getElem?_eq_some_iff.mp hc
    have q := List.all_eq_true.mp ((Array.all_eq_true_iff_forall_mem.mp hF) _ (Array.getElem_mem ha)) i (List.mem_range.mpr hi)
    simpa [Array.getElem?_eq_getElem hi] using q
  obtain ⟨i0, ei0⟩ := is_v g16
  obtain rfl : w0 = (.int i0) := Option.some.inj ei0
  obtain ⟨i1, ei1⟩ := is_v g18
  obtain rfl : w1 = (.int i1) := Option.some.inj ei1
  obtain ⟨i2, ei2⟩ := is_v g20
  obtain rfl : w2 = (.int i2) := Option.some.inj ei2
  obtain ⟨i3, ei3⟩ := is_v g22
  obtain rfl : w3 = (.int i3) := Option.some.inj ei3
  obtain ⟨i4, ei4⟩ := is_v g24
  obtain rfl : w4 = (.int i4) := Option.some.inj ei4
  obtain ⟨i5, ei5⟩ := is_v g25
  obtain rfl : w5 = (.int i5) := Option.some.inj ei5
  obtain ⟨n, o, h1, h2, h3, _, L, rfl, ⟨rfl, N⟩, hq⟩ := rm0 l s _ hw tables_1 i0 i1 i2 i3 i4 i5 s.heap s.heap.size (Nat.le_refl _) p e ha hc hk s m _ below hf ((Spec.applies_iff_loose hf).mp happ).1 ⟨rfl, State.Warmed39.refl s, rfl⟩ trivial
  refine ⟨n, _, h1, h2, h3, hpost _ _ _ _ _ _ ⟨Cond.after_iff.mpr rfl, Cond.after_iff.mpr (eq_i res_at (Term.int_eval (1)) rfl), trivial⟩ ⟨hq.1, hq.2.1, (hq.2.2.sift fun y hy => Or.inr (N y hy)).mono (by decide) (by decide)⟩⟩
theorem main_1_1 : Claimed_1_1 := comes_1 fun _ _ _ _ _ _ h hF => ⟨h.1, hF⟩
theorem main_1_2 : Claimed_1_2 := comes_1 fun _ _ _ _ _ _ h hF => ⟨h.2.1, hF⟩
end Jvm.Pilot.@@N@@
namespace Jvm.Pilot.@@N@@
open Jvm Jvm.ClassFile Sem Op Lib Jvm.Free Jvm.Stand Jvm.Pilot.@@N@@.Jvm.D
/-! MADE BY PROGRAM (witnessworld.py) out of the Statement's table words and the real class files: 23 classes; the members and pool entries that the words name. The judged class is class 1, her method 1. -/
namespace start1
open Jvm.ClassFile
def u (s : String) : CpInfo := .utf8 (stringToUtf16 s)
/-- a pool by its gaps: so many unusable entries, then the entry; so many at the end -/
def gap : Nat → List CpInfo → List CpInfo
  | 0, r => r
  | n + 1, r => .unusable :: gap n r
def poolList (es : List (Nat × CpInfo)) (last : Nat) : List CpInfo := es.foldr (fun e r => gap e.1 (e.2 :: r)) (gap last [])
def pool (es : List (Nat × CpInfo)) (last : Nat) : Array CpInfo := ⟨poolList es last⟩
def fileOf (pool : Array CpInfo) (this : Nat) (attrs : Array Attribute := #[]) (ms : Array MethodInfo := #[]) (fl : Nat := 33) (sup : Nat := 0) (ifs : Array Nat := #[]) (fds : Array FieldInfo := #[]) : ClassFile where
  minorVersion := 0
  majorVersion := 65
  constantPool := pool
  accessFlags := fl
  thisClass := this
  superClass := sup
  interfaces := ifs
  fields := fds
  methods := ms
  attributes := attrs
def plain (name : String) (sup : Option ClassId) : Class where
  name := name
  kind := .ordinary
  loader := none
  accessFlags := 33
  super := sup
  interfaces := #[]
  cf := none
  fields := #[]
  methods := #[]
  instanceTypes := #[]
  staticTypes := #[]
  resolved := #[]
  callSites := []
  init := .initialized
  statics := none
  mirror := none

def pool0 : Array CpInfo := pool [(5, u "<init>"), (0, u "()V"), (1, .class_ 10), (1, u "java/lang/Object"), (85, u "clone"), (0, u "()Ljava/lang/Object;")] 26

def k0c0 : Code := { maxStack := 0, maxLocals := 1, code := object_method_1_code, exceptionTable := #[], attributes := #[] }
def k0m0 : Method := { name := "<init>", desc := "()V", sig := { parameters := [], returnType := none }, accessFlags := 1, code := some k0c0 }
def k0m1 : Method := { name := "clone", desc := "()Ljava/lang/Object;", sig := { parameters := [], returnType := some (.object "java/lang/Object") }, accessFlags := 260, code := none }
/-- java/lang/Object -/
def k0 : Class := { plain "java/lang/Object" none with
  accessFlags := 33
  interfaces := #[]
  cf := some (fileOf pool0 8 #[] #[{ accessFlags := 1, nameIndex := 5, descriptorIndex := 6, attributes := #[] }, { accessFlags := 260, nameIndex := 96, descriptorIndex := 97, attributes := #[] }] 33 0 #[] #[])
  fields := #[]
  methods := #[k0m0, k0m1]
  instanceTypes := #[]
  staticTypes := #[]
  resolved := Array.replicate 124 none
  statics := none }

def pool1 : Array CpInfo := pool [(2, .class_ 4), (1, u "java/lang/Object"), (0, u "<init>"), (0, u "()V"), (0, .class_ 8), (0, u "com/example/tightknit/tightknit/density/PowerSums"), (0, .methodref 7 10), (0, .nameAndType 5 11), (0, u "(I)V"), (0, .methodref 7 13), (0, .nameAndType 14 11), (0, u "start"), (0, .methodref 7 16), (0, .nameAndType 17 18), (0, u "add"), (0, u "(II)Z"), (0, .methodref 7 20), (0, .nameAndType 21 11), (0, u "grow"), (0, .methodref 7 23), (0, .nameAndType 24 25), (0, u "takeCeilingPower"), (0, u "(I)I"), (0, .class_ 27), (0, u "com/example/tightknit/tightknit/density/PowerSumsGrowPinLaw"), (2, u "law"), (0, u "(IIIIII)Z")] 3

def k1m0 : Method := { name := "<init>", desc := "()V", sig := { parameters := [], returnType := none }, accessFlags := 1, code := none }
def k1c1 : Code := { maxStack := 4, maxLocals := 20, code := code, exceptionTable := #[], attributes := #[] }
def k1m1 : Method := { name := "law", desc := "(IIIIII)Z", sig := { parameters := [.int, .int, .int, .int, .int, .int], returnType := some .boolean }, accessFlags := 9, code := some k1c1 }
/-- com/example/tightknit/tightknit/density/PowerSumsGrowPinLaw -/
def k1 : Class := { plain "com/example/tightknit/tightknit/density/PowerSumsGrowPinLaw" (some 0) with
  accessFlags := 49
  interfaces := #[]
  cf := some (fileOf pool1 26 #[] #[{ accessFlags := 1, nameIndex := 5, descriptorIndex := 6, attributes := #[] }, { accessFlags := 9, nameIndex := 30, descriptorIndex := 31, attributes := #[] }] 49 2 #[] #[])
  fields := #[]
  methods := #[k1m0, k1m1]
  instanceTypes := #[]
  staticTypes := #[]
  resolved := Array.replicate 35 none
  statics := none }

def pool2 : Array CpInfo := pool [(1, .methodref 2 3), (0, .class_ 4), (0, .nameAndType 5 6), (0, u "java/lang/Object"), (0, u "<init>"), (0, u "()V"), (0, .class_ 8), (0, u "java/util/HashMap"), (0, .methodref 7 3), (0, .fieldref 11 12), (0, .class_ 13), (0, .nameAndType 14 15), (0, u "com/example/tightknit/tightknit/density/PowerSums"), (0, u "large"), (0, u "Ljava/util/Map;"), (0, .fieldref 11 17), (0, .nameAndType 18 19), (0, u "small"), (0, u "[J"), (0, .methodref 21 22), (0, .class_ 23), (0, .nameAndType 24 25), (0, u "java/util/Arrays"), (0, u "copyOf"), (0, u "([JI)[J"), (0, .fieldref 11 27), (0, .nameAndType 28 29), (0, u "least"), (0, u "I"), (0, .long 18446744073709551615), (1, .class_ 33), (0, u "java/lang/Long"), (0, .long 9223372036854775807), (32, u "add"), (16, .methodref 32 85), (0, .nameAndType 86 87), (0, u "numberOfLeadingZeros"), (0, u "(J)I"), (0, u "SPILLED"), (0, u "J"), (3, u "(I)V"), (2, u "grow"), (0, u "start"), (0, u "(II)Z"), (1, u "takeCeilingPower"), (0, u "(I)I")] 20

def k2c0 : Code := { maxStack := 3, maxLocals := 2, code := prog_35_method_1_code, exceptionTable := #[], attributes := #[] }
def k2m0 : Method := { name := "<init>", desc := "(I)V", sig := { parameters := [.int], returnType := none }, accessFlags := 0, code := some k2c0 }
def k2c1 : Code := { maxStack := 3, maxLocals := 2, code := prog_35_method_2_code, exceptionTable := #[], attributes := #[] }
def k2m1 : Method := { name := "grow", desc := "(I)V", sig := { parameters := [.int], returnType := none }, accessFlags := 0, code := some k2c1 }
def k2c2 : Code := { maxStack := 2, maxLocals := 2, code := prog_35_method_3_code, exceptionTable := #[], attributes := #[] }
def k2m2 : Method := { name := "start", desc := "(I)V", sig := { parameters := [.int], returnType := none }, accessFlags := 0, code := some k2c2 }
def k2c3 : Code := { maxStack := 7, maxLocals := 6, code := prog_35_method_4_code, exceptionTable := #[], attributes := #[] }
def k2m3 : Method := { name := "add", desc := "(II)Z", sig := { parameters := [.int, .int], returnType := some .boolean }, accessFlags := 0, code := some k2c3 }
def k2c4 : Code := { maxStack := 5, maxLocals := 5, code := prog_35_method_5_code, exceptionTable := #[], attributes := #[] }
def k2m4 : Method := { name := "takeCeilingPower", desc := "(I)I", sig := { parameters := [.int], returnType := some .int }, accessFlags := 0, code := some k2c4 }
/-- com/example/tightknit/tightknit/density/PowerSums -/
def k2 : Class := { plain "com/example/tightknit/tightknit/density/PowerSums" (some 0) with
  accessFlags := 32
  interfaces := #[]
  cf := some (fileOf pool2 11 #[] #[{ accessFlags := 0, nameIndex := 5, descriptorIndex := 93, attributes := #[] }, { accessFlags := 0, nameIndex := 96, descriptorIndex := 93, attributes := #[] }, { accessFlags := 0, nameIndex := 97, descriptorIndex := 93, attributes := #[] }, { accessFlags := 0, nameIndex := 67, descriptorIndex := 98, attributes := #[] }, { accessFlags := 0, nameIndex := 100, descriptorIndex := 101, attributes := #[] }] 32 2 #[] #[{ accessFlags := 26, nameIndex := 88, descriptorIndex := 89, attributes := #[] }, { accessFlags := 2, nameIndex := 18, descriptorIndex := 19, attributes := #[] }, { accessFlags := 18, nameIndex := 14, descriptorIndex := 15, attributes := #[] }, { accessFlags := 2, nameIndex := 28, descriptorIndex := 29, attributes := #[] }])
  fields := #[{ name := "SPILLED", type := .long, accessFlags := 26, slot := 0, constantValue := 0 }, { name := "small", type := (.array .long), accessFlags := 2, slot := 0, constantValue := 0 }, { name := "large", type := (.object "java/util/Map"), accessFlags := 18, slot := 1, constantValue := 0 }, { name := "least", type := .int, accessFlags := 2, slot := 2, constantValue := 0 }]
  methods := #[k2m0, k2m1, k2m2, k2m3, k2m4]
  instanceTypes := #[(.array .long), (.object "java/util/Map"), .int]
  staticTypes := #[.long]
  resolved := Array.replicate 122 none
  statics := none }

def pool3 : Array CpInfo := pool [(2, .class_ 4), (1, u "java/util/Map"), (31, .class_ 37), (0, u "java/util/Map$Entry"), (55, .class_ 94), (0, u "java/lang/Object")] 168

/-- java/util/Map -/
def k3 : Class := { plain "java/util/Map" (some 0) with
  accessFlags := 1537
  interfaces := #[]
  cf := some (fileOf pool3 2 #[.nestMembers #[36]] #[] 1537 93 #[] #[])
  fields := #[]
  methods := #[]
  instanceTypes := #[]
  staticTypes := #[]
  resolved := Array.replicate 263 none
  statics := none }

def pool4 : Array CpInfo := pool [(1, .methodref 2 3), (0, .class_ 4), (0, .nameAndType 5 6), (0, u "java/lang/Object"), (0, u "<init>"), (0, u "()V"), (1, .class_ 10), (1, u "java/util/AbstractMap"), (42, .class_ 54), (0, u "java/util/Map"), (9, u "keySet"), (0, u "Ljava/util/Set;"), (0, .class_ 67), (0, u "java/util/AbstractMap$1"), (5, u "values"), (0, u "Ljava/util/Collection;"), (0, .class_ 76), (0, u "java/util/AbstractMap$2"), (104, .class_ 182), (0, u "java/util/AbstractMap$ViewCollection"), (0, .class_ 184), (0, u "java/util/AbstractMap$SimpleImmutableEntry"), (0, .class_ 186), (0, u "java/util/AbstractMap$SimpleEntry"), (0, .class_ 188), (0, u "java/util/AbstractMap$2$1"), (0, .class_ 190), (0, u "java/util/AbstractMap$1$1")] 5

def k4c0 : Code := { maxStack := 1, maxLocals := 1, code := jdk_71_method_1_code, exceptionTable := #[], attributes := #[] }
def k4m0 : Method := { name := "<init>", desc := "()V", sig := { parameters := [], returnType := none }, accessFlags := 4, code := some k4c0 }
/-- java/util/AbstractMap -/
def k4 : Class := { plain "java/util/AbstractMap" (some 0) with
  accessFlags := 1057
  interfaces := #[3]
  cf := some (fileOf pool4 8 #[.nestMembers #[181, 183, 185, 75, 187, 66, 189]] #[{ accessFlags := 4, nameIndex := 5, descriptorIndex := 6, attributes := #[] }] 1057 2 #[53] #[{ accessFlags := 128, nameIndex := 64, descriptorIndex := 65, attributes := #[] }, { accessFlags := 128, nameIndex := 73, descriptorIndex := 74, attributes := #[] }])
  fields := #[{ name := "keySet", type := (.object "java/util/Set"), accessFlags := 128, slot := 0, constantValue := 0 }, { name := "values", type := (.object "java/util/Collection"), accessFlags := 128, slot := 1, constantValue := 0 }]
  methods := #[k4m0]
  instanceTypes := #[(.object "java/util/Set"), (.object "java/util/Collection")]
  staticTypes := #[]
  resolved := Array.replicate 196 none
  statics := none }

def pool5 : Array CpInfo := pool [(1, .class_ 2), (0, u "java/lang/Cloneable"), (0, .class_ 4), (0, u "java/lang/Object")] 2

/-- java/lang/Cloneable -/
def k5 : Class := { plain "java/lang/Cloneable" (some 0) with
  accessFlags := 1537
  interfaces := #[]
  cf := some (fileOf pool5 1 #[] #[] 1537 3 #[] #[])
  fields := #[]
  methods := #[]
  instanceTypes := #[]
  staticTypes := #[]
  resolved := Array.replicate 7 none
  statics := none }

def pool6 : Array CpInfo := pool [(1, .class_ 2), (0, u "java/io/Serializable"), (0, .class_ 4), (0, u "java/lang/Object")] 2

/-- java/io/Serializable -/
def k6 : Class := { plain "java/io/Serializable" (some 0) with
  accessFlags := 1537
  interfaces := #[]
  cf := some (fileOf pool6 1 #[] #[] 1537 3 #[] #[])
  fields := #[]
  methods := #[]
  instanceTypes := #[]
  staticTypes := #[]
  resolved := Array.replicate 7 none
  statics := none }

def pool7 : Array CpInfo := pool [(40, .class_ 41), (0, u "java/util/HashMap"), (1, .methodref 44 45), (0, .class_ 46), (0, .nameAndType 47 48), (0, u "java/util/AbstractMap"), (0, u "<init>"), (0, u "()V"), (32, .fieldref 40 82), (0, .nameAndType 83 84), (0, u "loadFactor"), (0, u "F"), (5, u "threshold"), (0, u "I"), (0, .float 1061158912), (8, .class_ 103), (1, u "java/util/Map"), (0, u "size"), (2, u "table"), (0, u "[Ljava/util/HashMap$Node;"), (14, u "entrySet"), (39, .class_ 165), (1, u "java/util/HashMap$Node"), (14, .class_ 181), (0, u "java/util/HashMap$TreeNode"), (22, u "modCount"), (37, u "Ljava/util/Set;"), (0, .class_ 244), (0, u "java/util/HashMap$KeySet"), (18, .class_ 264), (0, u "java/util/HashMap$Values"), (3, .class_ 269), (0, u "java/util/HashMap$EntrySet"), (76, .class_ 348), (1, u "java/util/HashMap$UnsafeHolder"), (43, .class_ 393), (0, u "java/lang/Cloneable"), (0, .class_ 395), (0, u "java/io/Serializable"), (0, u "serialVersionUID"), (0, u "J"), (3, u "DEFAULT_INITIAL_CAPACITY"), (1, u "MAXIMUM_CAPACITY"), (0, u "DEFAULT_LOAD_FACTOR"), (0, u "TREEIFY_THRESHOLD"), (1, u "UNTREEIFY_THRESHOLD"), (1, u "MIN_TREEIFY_CAPACITY"), (186, .class_ 597), (0, u "java/util/HashMap$EntrySpliterator"), (0, .class_ 599), (0, u "java/util/HashMap$ValueSpliterator"), (0, .class_ 601), (0, u "java/util/HashMap$KeySpliterator"), (0, .class_ 603), (0, u "java/util/HashMap$HashMapSpliterator"), (0, .class_ 605), (0, u "java/util/HashMap$EntryIterator"), (0, .class_ 607), (0, u "java/util/HashMap$ValueIterator"), (0, .class_ 609), (0, u "java/util/HashMap$KeyIterator"), (0, .class_ 611), (0, u "java/util/HashMap$HashIterator")] 17

def k7c0 : Code := { maxStack := 2, maxLocals := 1, code := jdk_69_method_7_code, exceptionTable := #[], attributes := #[] }
def k7m0 : Method := { name := "<init>", desc := "()V", sig := { parameters := [], returnType := none }, accessFlags := 1, code := some k7c0 }
/-- java/util/HashMap -/
def k7 : Class := { plain "java/util/HashMap" (some 4) with
  accessFlags := 33
  interfaces := #[3, 5, 6]
  cf := some (fileOf pool7 40 #[.nestMembers #[180, 596, 598, 600, 602, 604, 606, 608, 610, 346, 268, 263, 243, 163]] #[{ accessFlags := 1, nameIndex := 47, descriptorIndex := 48, attributes := #[] }] 33 44 #[101, 392, 394] #[{ accessFlags := 26, nameIndex := 396, descriptorIndex := 397, attributes := #[] }, { accessFlags := 24, nameIndex := 401, descriptorIndex := 91, attributes := #[] }, { accessFlags := 24, nameIndex := 403, descriptorIndex := 91, attributes := #[] }, { accessFlags := 24, nameIndex := 404, descriptorIndex := 84, attributes := #[] }, { accessFlags := 24, nameIndex := 405, descriptorIndex := 91, attributes := #[] }, { accessFlags := 24, nameIndex := 407, descriptorIndex := 91, attributes := #[] }, { accessFlags := 24, nameIndex := 409, descriptorIndex := 91, attributes := #[] }, { accessFlags := 128, nameIndex := 107, descriptorIndex := 108, attributes := #[] }, { accessFlags := 128, nameIndex := 123, descriptorIndex := 242, attributes := #[] }, { accessFlags := 128, nameIndex := 104, descriptorIndex := 91, attributes := #[] }, { accessFlags := 128, nameIndex := 204, descriptorIndex := 91, attributes := #[] }, { accessFlags := 0, nameIndex := 90, descriptorIndex := 91, attributes := #[] }, { accessFlags := 16, nameIndex := 83, descriptorIndex := 84, attributes := #[] }])
  fields := #[{ name := "serialVersionUID", type := .long, accessFlags := 26, slot := 0, constantValue := 0 }, { name := "DEFAULT_INITIAL_CAPACITY", type := .int, accessFlags := 24, slot := 1, constantValue := 0 }, { name := "MAXIMUM_CAPACITY", type := .int, accessFlags := 24, slot := 2, constantValue := 0 }, { name := "DEFAULT_LOAD_FACTOR", type := .float, accessFlags := 24, slot := 3, constantValue := 0 }, { name := "TREEIFY_THRESHOLD", type := .int, accessFlags := 24, slot := 4, constantValue := 0 }, { name := "UNTREEIFY_THRESHOLD", type := .int, accessFlags := 24, slot := 5, constantValue := 0 }, { name := "MIN_TREEIFY_CAPACITY", type := .int, accessFlags := 24, slot := 6, constantValue := 0 }, { name := "table", type := (.array (.object "java/util/HashMap$Node")), accessFlags := 128, slot := 2, constantValue := 0 }, { name := "entrySet", type := (.object "java/util/Set"), accessFlags := 128, slot := 3, constantValue := 0 }, { name := "size", type := .int, accessFlags := 128, slot := 4, constantValue := 0 }, { name := "modCount", type := .int, accessFlags := 128, slot := 5, constantValue := 0 }, { name := "threshold", type := .int, accessFlags := 0, slot := 6, constantValue := 0 }, { name := "loadFactor", type := .float, accessFlags := 16, slot := 7, constantValue := 0 }]
  methods := #[k7m0]
  instanceTypes := #[(.object "java/util/Set"), (.object "java/util/Collection"), (.array (.object "java/util/HashMap$Node")), (.object "java/util/Set"), .int, .int, .int, .float]
  staticTypes := #[.long, .int, .int, .float, .int, .int, .int]
  resolved := Array.replicate 629 none
  statics := none }

def pool8 : Array CpInfo := pool [(2, .class_ 4), (1, u "java/lang/Object"), (0, u "<init>"), (0, u "()V"), (7, .class_ 16), (1, u "java/util/Arrays"), (57, .class_ 76), (1, u "java/util/Arrays$NaturalOrder"), (32, u "()Ljava/lang/Object;"), (3, .class_ 115), (1, u "java/util/Arrays$LegacyMergeSort"), (1, u "Z"), (10, .nameAndType 129 109), (0, u "clone"), (20, .methodref 151 152), (0, .class_ 153), (0, .nameAndType 154 155), (0, u "java/lang/System"), (0, u "arraycopy"), (0, u "(Ljava/lang/Object;ILjava/lang/Object;II)V"), (146, u "copyOf"), (1, .methodref 305 306), (0, .class_ 307), (0, .nameAndType 308 309), (0, u "java/lang/Math"), (0, u "min"), (0, u "(II)I"), (9, .methodref 320 128), (0, .class_ 321), (0, u "[J"), (53, .class_ 376), (0, u "java/util/Arrays$ArrayList"), (68, u "$assertionsDisabled"), (269, u "MIN_ARRAY_SORT_GRAN"), (0, u "I"), (2, u "INSERTIONSORT_THRESHOLD"), (152, u "([JI)[J"), (102, .class_ 976), (0, u "java/util/Arrays$ArrayItr")] 52

def k8m0 : Method := { name := "<init>", desc := "()V", sig := { parameters := [], returnType := none }, accessFlags := 2, code := none }
def k8c1 : Code := { maxStack := 6, maxLocals := 3, code := jdk_65_method_124_code, exceptionTable := #[], attributes := #[] }
def k8m1 : Method := { name := "copyOf", desc := "([JI)[J", sig := { parameters := [(.array .long), .int], returnType := some (.array .long) }, accessFlags := 9, code := some k8c1 }
/-- java/util/Arrays -/
def k8 : Class := { plain "java/util/Arrays" (some 0) with
  accessFlags := 49
  interfaces := #[]
  cf := some (fileOf pool8 14 #[.nestMembers #[975, 375, 113, 74]] #[{ accessFlags := 2, nameIndex := 5, descriptorIndex := 6, attributes := #[] }, { accessFlags := 9, nameIndex := 302, descriptorIndex := 872, attributes := #[] }] 49 2 #[] #[{ accessFlags := 26, nameIndex := 715, descriptorIndex := 716, attributes := #[] }, { accessFlags := 26, nameIndex := 719, descriptorIndex := 716, attributes := #[] }, { accessFlags := 4120, nameIndex := 445, descriptorIndex := 117, attributes := #[] }])
  fields := #[{ name := "MIN_ARRAY_SORT_GRAN", type := .int, accessFlags := 26, slot := 0, constantValue := 0 }, { name := "INSERTIONSORT_THRESHOLD", type := .int, accessFlags := 26, slot := 1, constantValue := 0 }, { name := "$assertionsDisabled", type := .boolean, accessFlags := 4120, slot := 2, constantValue := 0 }]
  methods := #[k8m0, k8m1]
  instanceTypes := #[]
  staticTypes := #[.int, .int, .boolean]
  resolved := Array.replicate 1029 none
  statics := none }

def pool9 : Array CpInfo := pool [(1, .class_ 2), (0, u "java/lang/Math"), (1, .class_ 6), (1, u "java/lang/Object"), (0, u "<init>"), (0, u "()V"), (89, .class_ 100), (1, u "java/lang/Math$RandomNumberGeneratorHolder"), (71, u "negativeZeroFloatBits"), (0, u "J"), (2, u "negativeZeroDoubleBits"), (24, u "min"), (43, u "$assertionsDisabled"), (0, u "Z"), (88, u "(II)I"), (2, u "twoToTheDoubleScaleDown"), (0, u "D"), (4, u "twoToTheDoubleScaleUp"), (9, u "E"), (3, u "PI"), (2, u "TAU"), (2, u "DEGREES_TO_RADIANS"), (0, u "RADIANS_TO_DEGREES")] 94

def k9m0 : Method := { name := "<init>", desc := "()V", sig := { parameters := [], returnType := none }, accessFlags := 2, code := none }
def k9c1 : Code := { maxStack := 2, maxLocals := 2, code := jdk_29_method_69_code, exceptionTable := #[], attributes := #[] }
def k9m1 : Method := { name := "min", desc := "(II)I", sig := { parameters := [.int, .int], returnType := some .int }, accessFlags := 9, code := some k9c1 }
/-- java/lang/Math -/
def k9 : Class := { plain "java/lang/Math" (some 0) with
  accessFlags := 49
  interfaces := #[]
  cf := some (fileOf pool9 1 #[.nestMembers #[98]] #[{ accessFlags := 2, nameIndex := 7, descriptorIndex := 8, attributes := #[] }, { accessFlags := 9, nameIndex := 201, descriptorIndex := 335, attributes := #[] }] 49 4 #[] #[{ accessFlags := 25, nameIndex := 354, descriptorIndex := 339, attributes := #[] }, { accessFlags := 25, nameIndex := 358, descriptorIndex := 339, attributes := #[] }, { accessFlags := 25, nameIndex := 361, descriptorIndex := 339, attributes := #[] }, { accessFlags := 26, nameIndex := 364, descriptorIndex := 339, attributes := #[] }, { accessFlags := 26, nameIndex := 365, descriptorIndex := 339, attributes := #[] }, { accessFlags := 26, nameIndex := 172, descriptorIndex := 173, attributes := #[] }, { accessFlags := 26, nameIndex := 176, descriptorIndex := 173, attributes := #[] }, { accessFlags := 8, nameIndex := 344, descriptorIndex := 339, attributes := #[] }, { accessFlags := 8, nameIndex := 338, descriptorIndex := 339, attributes := #[] }, { accessFlags := 4120, nameIndex := 245, descriptorIndex := 246, attributes := #[] }])
  fields := #[{ name := "E", type := .double, accessFlags := 25, slot := 0, constantValue := 0 }, { name := "PI", type := .double, accessFlags := 25, slot := 1, constantValue := 0 }, { name := "TAU", type := .double, accessFlags := 25, slot := 2, constantValue := 0 }, { name := "DEGREES_TO_RADIANS", type := .double, accessFlags := 26, slot := 3, constantValue := 0 }, { name := "RADIANS_TO_DEGREES", type := .double, accessFlags := 26, slot := 4, constantValue := 0 }, { name := "negativeZeroFloatBits", type := .long, accessFlags := 26, slot := 5, constantValue := 0 }, { name := "negativeZeroDoubleBits", type := .long, accessFlags := 26, slot := 6, constantValue := 0 }, { name := "twoToTheDoubleScaleUp", type := .double, accessFlags := 8, slot := 7, constantValue := 0 }, { name := "twoToTheDoubleScaleDown", type := .double, accessFlags := 8, slot := 8, constantValue := 0 }, { name := "$assertionsDisabled", type := .boolean, accessFlags := 4120, slot := 9, constantValue := 0 }]
  methods := #[k9m0, k9m1]
  instanceTypes := #[]
  staticTypes := #[.double, .double, .double, .double, .double, .long, .long, .double, .double, .boolean]
  resolved := Array.replicate 460 none
  statics := none }

def pool10 : Array CpInfo := pool [(2, .class_ 4), (1, u "java/lang/Object"), (0, u "<init>"), (0, u "()V"), (1, .class_ 10), (1, u "java/lang/System"), (0, u "allowSecurityManager"), (0, u "I"), (16, u "cons"), (0, u "Ljava/io/Console;"), (77, .class_ 110), (1, u "java/lang/System$CallersHolder"), (43, u "initialErrStream"), (0, u "Ljava/io/PrintStream;"), (19, u "security"), (0, u "Ljava/lang/SecurityManager;"), (31, .class_ 209), (0, u "java/lang/System$1"), (7, u "props"), (0, u "Ljava/util/Properties;"), (2, u "lineSeparator"), (0, u "Ljava/lang/String;"), (96, .class_ 321), (1, u "java/lang/System$LoggerFinder"), (5, .class_ 328), (0, u "java/lang/System$Logger"), (67, u "err"), (2, u "out"), (91, u "notSupportedJnuEncoding"), (15, u "in"), (17, u "initialIn"), (0, u "Ljava/io/InputStream;"), (35, u "bootLayer"), (0, u "Ljava/lang/ModuleLayer;"), (99, .class_ 664), (0, u "java/lang/System$2"), (9, u "NEVER"), (2, u "MAYBE"), (49, u "arraycopy"), (0, u "(Ljava/lang/Object;ILjava/lang/Object;II)V"), (72, .class_ 802), (0, u "java/lang/System$Logger$Level")] 31

def k10m0 : Method := { name := "<init>", desc := "()V", sig := { parameters := [], returnType := none }, accessFlags := 2, code := none }
def k10m1 : Method := { name := "arraycopy", desc := "(Ljava/lang/Object;ILjava/lang/Object;II)V", sig := { parameters := [(.object "java/lang/Object"), .int, (.object "java/lang/Object"), .int, .int], returnType := none }, accessFlags := 265, code := none }
/-- java/lang/System -/
def k10 : Class := { plain "java/lang/System" (some 0) with
  accessFlags := 49
  interfaces := #[]
  cf := some (fileOf pool10 8 #[.nestMembers #[319, 327, 801, 108, 663, 208]] #[{ accessFlags := 2, nameIndex := 5, descriptorIndex := 6, attributes := #[] }, { accessFlags := 265, nameIndex := 727, descriptorIndex := 728, attributes := #[] }] 49 2 #[] #[{ accessFlags := 25, nameIndex := 507, descriptorIndex := 526, attributes := #[] }, { accessFlags := 25, nameIndex := 399, descriptorIndex := 155, attributes := #[] }, { accessFlags := 25, nameIndex := 396, descriptorIndex := 155, attributes := #[] }, { accessFlags := 10, nameIndex := 525, descriptorIndex := 526, attributes := #[] }, { accessFlags := 26, nameIndex := 674, descriptorIndex := 12, attributes := #[] }, { accessFlags := 26, nameIndex := 677, descriptorIndex := 12, attributes := #[] }, { accessFlags := 10, nameIndex := 11, descriptorIndex := 12, attributes := #[] }, { accessFlags := 74, nameIndex := 175, descriptorIndex := 176, attributes := #[] }, { accessFlags := 10, nameIndex := 491, descriptorIndex := 222, attributes := #[] }, { accessFlags := 74, nameIndex := 29, descriptorIndex := 30, attributes := #[] }, { accessFlags := 74, nameIndex := 154, descriptorIndex := 155, attributes := #[] }, { accessFlags := 10, nameIndex := 217, descriptorIndex := 218, attributes := #[] }, { accessFlags := 10, nameIndex := 221, descriptorIndex := 222, attributes := #[] }, { accessFlags := 8, nameIndex := 562, descriptorIndex := 563, attributes := #[] }])
  fields := #[{ name := "in", type := (.object "java/io/InputStream"), accessFlags := 25, slot := 0, constantValue := 0 }, { name := "out", type := (.object "java/io/PrintStream"), accessFlags := 25, slot := 1, constantValue := 0 }, { name := "err", type := (.object "java/io/PrintStream"), accessFlags := 25, slot := 2, constantValue := 0 }, { name := "initialIn", type := (.object "java/io/InputStream"), accessFlags := 10, slot := 3, constantValue := 0 }, { name := "NEVER", type := .int, accessFlags := 26, slot := 4, constantValue := 0 }, { name := "MAYBE", type := .int, accessFlags := 26, slot := 5, constantValue := 0 }, { name := "allowSecurityManager", type := .int, accessFlags := 10, slot := 6, constantValue := 0 }, { name := "security", type := (.object "java/lang/SecurityManager"), accessFlags := 74, slot := 7, constantValue := 0 }, { name := "notSupportedJnuEncoding", type := (.object "java/lang/String"), accessFlags := 10, slot := 8, constantValue := 0 }, { name := "cons", type := (.object "java/io/Console"), accessFlags := 74, slot := 9, constantValue := 0 }, { name := "initialErrStream", type := (.object "java/io/PrintStream"), accessFlags := 74, slot := 10, constantValue := 0 }, { name := "props", type := (.object "java/util/Properties"), accessFlags := 10, slot := 11, constantValue := 0 }, { name := "lineSeparator", type := (.object "java/lang/String"), accessFlags := 10, slot := 12, constantValue := 0 }, { name := "bootLayer", type := (.object "java/lang/ModuleLayer"), accessFlags := 8, slot := 13, constantValue := 0 }]
  methods := #[k10m0, k10m1]
  instanceTypes := #[]
  staticTypes := #[(.object "java/io/InputStream"), (.object "java/io/PrintStream"), (.object "java/io/PrintStream"), (.object "java/io/InputStream"), .int, .int, .int, (.object "java/lang/SecurityManager"), (.object "java/lang/String"), (.object "java/io/Console"), (.object "java/io/PrintStream"), (.object "java/util/Properties"), (.object "java/lang/String"), (.object "java/lang/ModuleLayer")]
  resolved := Array.replicate 834 none
  statics := none }

def pool11 : Array CpInfo := pool [(2, .class_ 4), (1, u "java/lang/Object"), (0, u "<init>"), (0, u "()V"), (1, .class_ 10), (1, u "java/lang/Number"), (2, .class_ 14), (0, u "java/io/Serializable"), (0, u "serialVersionUID"), (0, u "J")] 20

def k11m0 : Method := { name := "<init>", desc := "()V", sig := { parameters := [], returnType := none }, accessFlags := 1, code := none }
/-- java/lang/Number -/
def k11 : Class := { plain "java/lang/Number" (some 0) with
  accessFlags := 1057
  interfaces := #[6]
  cf := some (fileOf pool11 8 #[] #[{ accessFlags := 1, nameIndex := 5, descriptorIndex := 6, attributes := #[] }] 1057 2 #[13] #[{ accessFlags := 26, nameIndex := 15, descriptorIndex := 16, attributes := #[] }])
  fields := #[{ name := "serialVersionUID", type := .long, accessFlags := 26, slot := 0, constantValue := 0 }]
  methods := #[k11m0]
  instanceTypes := #[]
  staticTypes := #[.long]
  resolved := Array.replicate 37 none
  statics := none }

def pool12 : Array CpInfo := pool [(1, .class_ 2), (0, u "java/lang/Comparable"), (0, .class_ 4), (0, u "java/lang/Object")] 7

/-- java/lang/Comparable -/
def k12 : Class := { plain "java/lang/Comparable" (some 0) with
  accessFlags := 1537
  interfaces := #[]
  cf := some (fileOf pool12 1 #[] #[] 1537 3 #[] #[])
  fields := #[]
  methods := #[]
  instanceTypes := #[]
  staticTypes := #[]
  resolved := Array.replicate 12 none
  statics := none }

def pool13 : Array CpInfo := pool [(1, .class_ 2), (0, u "java/lang/constant/Constable"), (0, .class_ 4), (0, u "java/lang/Object")] 6

/-- java/lang/constant/Constable -/
def k13 : Class := { plain "java/lang/constant/Constable" (some 0) with
  accessFlags := 1537
  interfaces := #[]
  cf := some (fileOf pool13 1 #[] #[] 1537 3 #[] #[])
  fields := #[]
  methods := #[]
  instanceTypes := #[]
  staticTypes := #[]
  resolved := Array.replicate 11 none
  statics := none }

def pool14 : Array CpInfo := pool [(1, .class_ 2), (0, u "java/lang/constant/ConstantDesc"), (0, .class_ 4), (0, u "java/lang/Object")] 32

/-- java/lang/constant/ConstantDesc -/
def k14 : Class := { plain "java/lang/constant/ConstantDesc" (some 0) with
  accessFlags := 1537
  interfaces := #[]
  cf := some (fileOf pool14 1 #[] #[] 1537 3 #[] #[])
  fields := #[]
  methods := #[]
  instanceTypes := #[]
  staticTypes := #[]
  resolved := Array.replicate 37 none
  statics := none }

def pool15 : Array CpInfo := pool [(1, .class_ 2), (0, u "java/lang/Long"), (15, .class_ 20), (1, u "java/lang/Integer"), (79, u "numberOfLeadingZeros"), (0, u "(J)I"), (133, .class_ 237), (1, u "java/lang/Long$LongCache"), (33, .class_ 272), (0, u "java/lang/Number"), (2, u "value"), (0, u "J"), (31, .methodref 18 309), (0, .nameAndType 100 310), (0, u "(I)I"), (50, u "TYPE"), (0, u "Ljava/lang/Class;"), (0, .class_ 364), (0, u "java/lang/Comparable"), (0, .class_ 366), (0, u "java/lang/constant/Constable"), (0, .class_ 368), (0, u "java/lang/constant/ConstantDesc"), (0, u "MIN_VALUE"), (1, u "MAX_VALUE"), (4, u "SIZE"), (0, u "I"), (1, u "BYTES"), (1, u "serialVersionUID")] 142

def k15c0 : Code := { maxStack := 3, maxLocals := 3, code := jdk_35_method_48_code, exceptionTable := #[], attributes := #[] }
def k15m0 : Method := { name := "numberOfLeadingZeros", desc := "(J)I", sig := { parameters := [.long], returnType := some .int }, accessFlags := 9, code := some k15c0 }
/-- java/lang/Long -/
def k15 : Class := { plain "java/lang/Long" (some 11) with
  accessFlags := 49
  interfaces := #[12, 13, 14]
  cf := some (fileOf pool15 1 #[.nestMembers #[235]] #[{ accessFlags := 9, nameIndex := 100, descriptorIndex := 101, attributes := #[] }] 49 271 #[363, 365, 367] #[{ accessFlags := 25, nameIndex := 369, descriptorIndex := 276, attributes := #[] }, { accessFlags := 25, nameIndex := 371, descriptorIndex := 276, attributes := #[] }, { accessFlags := 25, nameIndex := 361, descriptorIndex := 362, attributes := #[] }, { accessFlags := 18, nameIndex := 275, descriptorIndex := 276, attributes := #[] }, { accessFlags := 25, nameIndex := 376, descriptorIndex := 377, attributes := #[] }, { accessFlags := 25, nameIndex := 379, descriptorIndex := 377, attributes := #[] }, { accessFlags := 26, nameIndex := 381, descriptorIndex := 276, attributes := #[] }])
  fields := #[{ name := "MIN_VALUE", type := .long, accessFlags := 25, slot := 0, constantValue := 0 }, { name := "MAX_VALUE", type := .long, accessFlags := 25, slot := 1, constantValue := 0 }, { name := "TYPE", type := (.object "java/lang/Class"), accessFlags := 25, slot := 2, constantValue := 0 }, { name := "value", type := .long, accessFlags := 18, slot := 0, constantValue := 0 }, { name := "SIZE", type := .int, accessFlags := 25, slot := 3, constantValue := 0 }, { name := "BYTES", type := .int, accessFlags := 25, slot := 4, constantValue := 0 }, { name := "serialVersionUID", type := .long, accessFlags := 26, slot := 5, constantValue := 0 }]
  methods := #[k15m0]
  instanceTypes := #[.long]
  staticTypes := #[.long, .long, (.object "java/lang/Class"), .int, .int, .long]
  resolved := Array.replicate 524 none
  statics := none }

def pool16 : Array CpInfo := pool [(1, .class_ 2), (0, u "java/lang/Integer"), (16, u "digits"), (0, u "[C"), (32, u "numberOfLeadingZeros"), (0, u "(I)I"), (30, u "DigitOnes"), (0, u "[B"), (2, u "DigitTens"), (99, .class_ 190), (0, u "java/lang/Integer$IntegerCache"), (3, u "I"), (8, .class_ 204), (0, u "java/lang/Number"), (2, u "value"), (56, .integer 65536), (37, u "TYPE"), (0, u "Ljava/lang/Class;"), (0, .class_ 305), (0, u "java/lang/Comparable"), (0, .class_ 307), (0, u "java/lang/constant/Constable"), (0, .class_ 309), (0, u "java/lang/constant/ConstantDesc"), (0, u "MIN_VALUE"), (1, u "MAX_VALUE"), (3, u "SIZE"), (1, u "BYTES"), (1, u "serialVersionUID"), (0, u "J")] 131

def k16c0 : Code := { maxStack := 3, maxLocals := 2, code := jdk_33_method_47_code, exceptionTable := #[], attributes := #[] }
def k16m0 : Method := { name := "numberOfLeadingZeros", desc := "(I)I", sig := { parameters := [.int], returnType := some .int }, accessFlags := 9, code := some k16c0 }
/-- java/lang/Integer -/
def k16 : Class := { plain "java/lang/Integer" (some 11) with
  accessFlags := 49
  interfaces := #[12, 13, 14]
  cf := some (fileOf pool16 1 #[.nestMembers #[189]] #[{ accessFlags := 9, nameIndex := 53, descriptorIndex := 54, attributes := #[] }] 49 203 #[304, 306, 308] #[{ accessFlags := 25, nameIndex := 310, descriptorIndex := 194, attributes := #[] }, { accessFlags := 25, nameIndex := 312, descriptorIndex := 194, attributes := #[] }, { accessFlags := 25, nameIndex := 302, descriptorIndex := 303, attributes := #[] }, { accessFlags := 24, nameIndex := 19, descriptorIndex := 20, attributes := #[] }, { accessFlags := 24, nameIndex := 89, descriptorIndex := 86, attributes := #[] }, { accessFlags := 24, nameIndex := 85, descriptorIndex := 86, attributes := #[] }, { accessFlags := 18, nameIndex := 207, descriptorIndex := 194, attributes := #[] }, { accessFlags := 25, nameIndex := 316, descriptorIndex := 194, attributes := #[] }, { accessFlags := 25, nameIndex := 318, descriptorIndex := 194, attributes := #[] }, { accessFlags := 26, nameIndex := 320, descriptorIndex := 321, attributes := #[] }])
  fields := #[{ name := "MIN_VALUE", type := .int, accessFlags := 25, slot := 0, constantValue := 0 }, { name := "MAX_VALUE", type := .int, accessFlags := 25, slot := 1, constantValue := 0 }, { name := "TYPE", type := (.object "java/lang/Class"), accessFlags := 25, slot := 2, constantValue := 0 }, { name := "digits", type := (.array .char), accessFlags := 24, slot := 3, constantValue := 0 }, { name := "DigitTens", type := (.array .byte), accessFlags := 24, slot := 4, constantValue := 0 }, { name := "DigitOnes", type := (.array .byte), accessFlags := 24, slot := 5, constantValue := 0 }, { name := "value", type := .int, accessFlags := 18, slot := 0, constantValue := 0 }, { name := "SIZE", type := .int, accessFlags := 25, slot := 6, constantValue := 0 }, { name := "BYTES", type := .int, accessFlags := 25, slot := 7, constantValue := 0 }, { name := "serialVersionUID", type := .long, accessFlags := 26, slot := 8, constantValue := 0 }]
  methods := #[k16m0]
  instanceTypes := #[.int]
  staticTypes := #[.int, .int, (.object "java/lang/Class"), (.array .char), (.array .byte), (.array .byte), .int, .int, .long]
  resolved := Array.replicate 453 none
  statics := none }

/-- the primitive byte -/
def k17 : Class := { plain "byte" none with kind := .primitive 'B', accessFlags := 0x411 }
/-- [B -/
def k18 : Class := { plain "[B" (some 0) with kind := .array 17 .byte, interfaces := #[5, 6], accessFlags := 1041 }

/-- the primitive int -/
def k19 : Class := { plain "int" none with kind := .primitive 'I', accessFlags := 0x411 }
/-- [I -/
def k20 : Class := { plain "[I" (some 0) with kind := .array 19 .int, interfaces := #[5, 6], accessFlags := 1041 }

/-- the primitive long -/
def k21 : Class := { plain "long" none with kind := .primitive 'J', accessFlags := 0x411 }
/-- [J -/
def k22 : Class := { plain "[J" (some 0) with kind := .array 21 .long, interfaces := #[5, 6], accessFlags := 1041 }

def heap : Heap := #[]
def classes : Array Class := #[k0, k1, k2, k3, k4, k5, k6, k7, k8, k9, k10, k11, k12, k13, k14, k15, k16, k17, k18, k19, k20, k21, k22]
def interned : List (Array UInt16 × Addr) := []
def slotsUsed : Nat := 0
def theMethod : MethodId := ⟨1, 1⟩
def args0 : Array Value := #[.int 5, .int 7, .int 3, .int 9, .int 1, .int 4]
def aboutOver (below : List Frame) : State where
  vm := { classes := classes, interned := interned.toArray }
  heap := heap
  slotsUsed := slotsUsed
  threads := #[{ frames := .invoking theMethod args0 :: below }]
def below0 : List Frame := [.native { method := ⟨0, 0⟩, args := #[] }]
def about1 : State := aboutOver below0
def p0 : Program := .bare "" "" ""
def e0 : Env := launch0.env 0 0 0
theorem w_frames : about1.frames = Frame.invoking theMethod args0 :: below0 := rfl
set_option maxRecDepth 65536 in
theorem w_args : argsFit about1.vm theMethod args0 = true := by decide +kernel
set_option maxRecDepth 65536 in
theorem w_heap : heapFits about1 = true := by decide +kernel
set_option maxRecDepth 65536 in
theorem w_runnable : about1.curStatus? = some .runnable := by decide +kernel
set_option maxRecDepth 65536 in
theorem w_alone : about1.alone = true := by decide +kernel
set_option maxRecDepth 65536 in
theorem w_named : about1.methodNamed? x = some theMethod := by decide +kernel
set_option maxRecDepth 65536 in
theorem w_hears : about1.hears theMethod below0 = true := by decide +kernel
set_option maxRecDepth 65536 in
theorem w_ripe : about1.ripe theMethod args0 below0 = true := by decide +kernel
theorem w_running : about1.status = .running := rfl
set_option maxRecDepth 65536 in
theorem w_room : about1.hasRoom e0.platform room_1 = true :=
  launch0.hasRoom_least _ room_1 (by decide +kernel) (by decide +kernel) (by decide +kernel) (by decide +kernel) (by decide +kernel) (by decide +kernel)
theorem allAtoms_all (ts : List Jvm.Cond) (a : Array Jvm.Value) (st : Jvm.State) : (allAtoms ts).before a st = ts.all (fun c => c.before a st) := by
  induction ts with
  | nil => rfl
  | cons c t ih =>
    show (Jvm.Cond.and c (allAtoms t)).before a st = _
    rw [Jvm.Cond.before_and, ih, List.all_cons]
def words1 : List Jvm.Cond := Jvm.Cond.code x code maxLocals ret :: tables_1
/-- a 'code' word, met by the world's own term for the bytes: nothing is compared byte by byte -/
theorem code_word {y : MethodName} {bytes : ByteArray} {mx : Nat} {rt : Option FieldType} {a : Array Value} {s : State} {m : MethodId} {meth : Method} {c : Code} (h1 : s.methodNamed? y = some m) (h2 : s.vm.method? m = some meth) (h3 : meth.code = some c) (h4 : c.code = bytes)
    (h5 : (c.maxLocals == mx && c.exceptionTable.isEmpty && decide (c.maxStack ≤ mostOperands) && decide (meth.sig.returnType = rt) && !meth.locks && decide (parseMethodDescriptor y.desc = some meth.sig)) = true) : (Jvm.Cond.code y bytes mx rt).before a s = true := by
  simp only [Bool.and_eq_true, beq_iff_eq, Bool.not_eq_true', decide_eq_true_eq] at h5
  obtain ⟨⟨⟨⟨⟨g1, g2⟩, g3⟩, g4⟩, g5⟩, g6⟩ := h5
  simp [Cond.before, Cond.holds, Cond.value, h1, h2, h3, h4, g1, g2, g3, g4, g5, g6]
def isCode : Jvm.Cond → Bool
  | .code _ _ _ _ => true
  | _ => false
theorem all_split {L : List Jvm.Cond} {P : Jvm.Cond → Bool} (h1 : L.all (fun c => isCode c || P c) = true) (h2 : ∀ c ∈ L.filter isCode, P c = true) : L.all P = true := by
  refine List.all_eq_true.mpr fun c hc => ?_
  have h := List.all_eq_true.mp h1 c hc
  rcases Bool.eq_false_or_eq_true (isCode c) with hi | hi
  · exact h2 c (List.mem_filter.mpr ⟨hc, hi⟩)
  · simpa [hi] using h
set_option maxRecDepth 65536 in
theorem w_c0 : (Jvm.Cond.code x code maxLocals ret).before args0 about1 = true := code_word (m := ⟨1, 1⟩) (meth := k1m1) (c := k1c1) (by decide +kernel) rfl rfl rfl (by decide +kernel)
set_option maxRecDepth 65536 in
theorem w_c1 : (Jvm.Cond.code ({ cls := "com/example/tightknit/tightknit/density/PowerSums", name := "<init>", desc := "(I)V" } : Jvm.MethodName) prog_35_method_1_code (2 : Nat) (Option.none : Option Jvm.ClassFile.FieldType)).before args0 about1 = true := code_word (m := ⟨2, 0⟩) (meth := k2m0) (c := k2c0) (by decide +kernel) rfl rfl rfl (by decide +kernel)
set_option maxRecDepth 65536 in
theorem w_c2 : (Jvm.Cond.code ({ cls := "java/lang/Object", name := "<init>", desc := "()V" } : Jvm.MethodName) object_method_1_code (1 : Nat) (Option.none : Option Jvm.ClassFile.FieldType)).before args0 about1 = true := code_word (m := ⟨0, 0⟩) (meth := k0m0) (c := k0c0) (by decide +kernel) rfl rfl rfl (by decide +kernel)
set_option maxRecDepth 65536 in
theorem w_c3 : (Jvm.Cond.code ({ cls := "java/util/HashMap", name := "<init>", desc := "()V" } : Jvm.MethodName) jdk_69_method_7_code (1 : Nat) (Option.none : Option Jvm.ClassFile.FieldType)).before args0 about1 = true := code_word (m := ⟨7, 0⟩) (meth := k7m0) (c := k7c0) (by decide +kernel) rfl rfl rfl (by decide +kernel)
set_option maxRecDepth 65536 in
theorem w_c4 : (Jvm.Cond.code ({ cls := "java/util/AbstractMap", name := "<init>", desc := "()V" } : Jvm.MethodName) jdk_71_method_1_code (1 : Nat) (Option.none : Option Jvm.ClassFile.FieldType)).before args0 about1 = true := code_word (m := ⟨4, 0⟩) (meth := k4m0) (c := k4c0) (by decide +kernel) rfl rfl rfl (by decide +kernel)
set_option maxRecDepth 65536 in
theorem w_c5 : (Jvm.Cond.code ({ cls := "com/example/tightknit/tightknit/density/PowerSums", name := "start", desc := "(I)V" } : Jvm.MethodName) prog_35_method_3_code (2 : Nat) (Option.none : Option Jvm.ClassFile.FieldType)).before args0 about1 = true := code_word (m := ⟨2, 2⟩) (meth := k2m2) (c := k2c2) (by decide +kernel) rfl rfl rfl (by decide +kernel)
set_option maxRecDepth 65536 in
theorem w_c6 : (Jvm.Cond.code ({ cls := "com/example/tightknit/tightknit/density/PowerSums", name := "add", desc := "(II)Z" } : Jvm.MethodName) prog_35_method_4_code (6 : Nat) (Option.some Jvm.ClassFile.FieldType.boolean)).before args0 about1 = true := code_word (m := ⟨2, 3⟩) (meth := k2m3) (c := k2c3) (by decide +kernel) rfl rfl rfl (by decide +kernel)
set_option maxRecDepth 65536 in
theorem w_c7 : (Jvm.Cond.code ({ cls := "com/example/tightknit/tightknit/density/PowerSums", name := "grow", desc := "(I)V" } : Jvm.MethodName) prog_35_method_2_code (2 : Nat) (Option.none : Option Jvm.ClassFile.FieldType)).before args0 about1 = true := code_word (m := ⟨2, 1⟩) (meth := k2m1) (c := k2c1) (by decide +kernel) rfl rfl rfl (by decide +kernel)
set_option maxRecDepth 65536 in
theorem w_c8 : (Jvm.Cond.code ({ cls := "java/util/Arrays", name := "copyOf", desc := "([JI)[J" } : Jvm.MethodName) jdk_65_method_124_code (3 : Nat) (Option.some (Jvm.ClassFile.FieldType.array Jvm.ClassFile.FieldType.long))).before args0 about1 = true := code_word (m := ⟨8, 1⟩) (meth := k8m1) (c := k8c1) (by decide +kernel) rfl rfl rfl (by decide +kernel)
set_option maxRecDepth 65536 in
theorem w_c9 : (Jvm.Cond.code ({ cls := "java/lang/Math", name := "min", desc := "(II)I" } : Jvm.MethodName) jdk_29_method_69_code (2 : Nat) (Option.some Jvm.ClassFile.FieldType.int)).before args0 about1 = true := code_word (m := ⟨9, 1⟩) (meth := k9m1) (c := k9c1) (by decide +kernel) rfl rfl rfl (by decide +kernel)
set_option maxRecDepth 65536 in
theorem w_c10 : (Jvm.Cond.code ({ cls := "com/example/tightknit/tightknit/density/PowerSums", name := "takeCeilingPower", desc := "(I)I" } : Jvm.MethodName) prog_35_method_5_code (5 : Nat) (Option.some Jvm.ClassFile.FieldType.int)).before args0 about1 = true := code_word (m := ⟨2, 4⟩) (meth := k2m4) (c := k2c4) (by decide +kernel) rfl rfl rfl (by decide +kernel)
set_option maxRecDepth 65536 in
theorem w_c11 : (Jvm.Cond.code ({ cls := "java/lang/Long", name := "numberOfLeadingZeros", desc := "(J)I" } : Jvm.MethodName) jdk_35_method_48_code (3 : Nat) (Option.some Jvm.ClassFile.FieldType.int)).before args0 about1 = true := code_word (m := ⟨15, 0⟩) (meth := k15m0) (c := k15c0) (by decide +kernel) rfl rfl rfl (by decide +kernel)
set_option maxRecDepth 65536 in
theorem w_c12 : (Jvm.Cond.code ({ cls := "java/lang/Integer", name := "numberOfLeadingZeros", desc := "(I)I" } : Jvm.MethodName) jdk_33_method_47_code (2 : Nat) (Option.some Jvm.ClassFile.FieldType.int)).before args0 about1 = true := code_word (m := ⟨16, 0⟩) (meth := k16m0) (c := k16c0) (by decide +kernel) rfl rfl rfl (by decide +kernel)
def codes1 : List Jvm.Cond := [Jvm.Cond.code x code maxLocals ret, Jvm.Cond.code ({ cls := "com/example/tightknit/tightknit/density/PowerSums", name := "<init>", desc := "(I)V" } : Jvm.MethodName) prog_35_method_1_code (2 : Nat) (Option.none : Option Jvm.ClassFile.FieldType), Jvm.Cond.code ({ cls := "java/lang/Object", name := "<init>", desc := "()V" } : Jvm.MethodName) object_method_1_code (1 : Nat) (Option.none : Option Jvm.ClassFile.FieldType), Jvm.Cond.code ({ cls := "java/util/HashMap", name := "<init>", desc := "()V" } : Jvm.MethodName) jdk_69_method_7_code (1 : Nat) (Option.none : Option Jvm.ClassFile.FieldType), Jvm.Cond.code ({ cls := "java/util/AbstractMap", name := "<init>", desc := "()V" } : Jvm.MethodName) jdk_71_method_1_code (1 : Nat) (Option.none : Option Jvm.ClassFile.FieldType), Jvm.Cond.code ({ cls := "com/example/tightknit/tightknit/density/PowerSums", name := "start", desc := "(I)V" } : Jvm.MethodName) prog_35_method_3_code (2 : Nat) (Option.none : Option Jvm.ClassFile.FieldType), Jvm.Cond.code ({ cls := "com/example/tightknit/tightknit/density/PowerSums", name := "add", desc := "(II)Z" } : Jvm.MethodName) prog_35_method_4_code (6 : Nat) (Option.some Jvm.ClassFile.FieldType.boolean), Jvm.Cond.code ({ cls := "com/example/tightknit/tightknit/density/PowerSums", name := "grow", desc := "(I)V" } : Jvm.MethodName) prog_35_method_2_code (2 : Nat) (Option.none : Option Jvm.ClassFile.FieldType), Jvm.Cond.code ({ cls := "java/util/Arrays", name := "copyOf", desc := "([JI)[J" } : Jvm.MethodName) jdk_65_method_124_code (3 : Nat) (Option.some (Jvm.ClassFile.FieldType.array Jvm.ClassFile.FieldType.long)), Jvm.Cond.code ({ cls := "java/lang/Math", name := "min", desc := "(II)I" } : Jvm.MethodName) jdk_29_method_69_code (2 : Nat) (Option.some Jvm.ClassFile.FieldType.int), Jvm.Cond.code ({ cls := "com/example/tightknit/tightknit/density/PowerSums", name := "takeCeilingPower", desc := "(I)I" } : Jvm.MethodName) prog_35_method_5_code (5 : Nat) (Option.some Jvm.ClassFile.FieldType.int), Jvm.Cond.code ({ cls := "java/lang/Long", name := "numberOfLeadingZeros", desc := "(J)I" } : Jvm.MethodName) jdk_35_method_48_code (3 : Nat) (Option.some Jvm.ClassFile.FieldType.int), Jvm.Cond.code ({ cls := "java/lang/Integer", name := "numberOfLeadingZeros", desc := "(I)I" } : Jvm.MethodName) jdk_33_method_47_code (2 : Nat) (Option.some Jvm.ClassFile.FieldType.int)]
set_option maxRecDepth 65536 in
theorem codes_eq : words1.filter isCode = codes1 := rfl
theorem w_codes : ∀ c ∈ words1.filter isCode, c.before args0 about1 = true := by
  rw [codes_eq]
  intro c hc
  simp only [codes1, List.mem_cons, List.not_mem_nil, or_false] at hc
  rcases hc with rfl | rfl | rfl | rfl | rfl | rfl | rfl | rfl | rfl | rfl | rfl | rfl | rfl
  · exact w_c0
  · exact w_c1
  · exact w_c2
  · exact w_c3
  · exact w_c4
  · exact w_c5
  · exact w_c6
  · exact w_c7
  · exact w_c8
  · exact w_c9
  · exact w_c10
  · exact w_c11
  · exact w_c12
set_option maxRecDepth 65536 in
theorem w_t1 : (words1.take 24).all (fun c => isCode c || c.before args0 about1) = true := by decide +kernel
set_option maxRecDepth 65536 in
theorem w_t2 : ((words1.drop 24).take 24).all (fun c => isCode c || c.before args0 about1) = true := by decide +kernel
set_option maxRecDepth 65536 in
theorem w_t3 : (((words1.drop 24).drop 24).take 24).all (fun c => isCode c || c.before args0 about1) = true := by decide +kernel
set_option maxRecDepth 65536 in
theorem w_t4 : (((words1.drop 24).drop 24).drop 24).all (fun c => isCode c || c.before args0 about1) = true := by decide +kernel
theorem w_tables : (allAtoms (Jvm.Cond.code x code maxLocals ret :: tables_1)).before args0 about1 = true := by
  rw [allAtoms_all]
  show words1.all (fun c => c.before args0 about1) = true
  refine all_split ?_ w_codes
  rw [← List.take_append_drop 24 words1, List.all_append, w_t1, ← List.take_append_drop 24 (words1.drop 24), List.all_append, w_t2, ← List.take_append_drop 24 ((words1.drop 24).drop 24), List.all_append, w_t3, w_t4]
  rfl
set_option maxRecDepth 65536 in
theorem w_case : (Jvm.Cond.and given_1 narrow_1).before args0 about1 = true := by decide +kernel
theorem w_applies : (headSpec (Jvm.Cond.code x code maxLocals ret :: tables_1) room_1).applies x e0.platform about1 = true :=
  (Spec.applies_iff w_frames).mpr ⟨w_running, w_runnable, w_alone, w_named, w_hears, w_ripe, w_room, w_tables⟩
theorem atStart : AtStart classFile x code maxLocals ret World_1 tables_1 room_1 Calls_1 rest_1 Pre_1 launch0 p0 e0 about1 theMethod args0 below0 :=
  ⟨lists_1, trivial, launch0.admits_env _ _ _, launch0.least_env, fairChoices_fair.cas, fairChoices_fair.clock, w_frames, w_args, w_heap, w_applies, trivial, trivial, w_case⟩
end start1
theorem witness_1 : WitnessClaimed_1 := ⟨start1.p0, start1.e0, start1.about1, start1.theMethod, start1.args0, start1.below0, start1.atStart⟩
end Jvm.Pilot.@@N@@
