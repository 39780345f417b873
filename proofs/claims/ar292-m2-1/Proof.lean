import JvmDerived
import JvmDerived.Pilot.@@N@@Statement
import JvmDerived.Pilot.@@N@@Code
set_option linter.unusedVariables false
set_option linter.unusedSimpArgs false
namespace Jvm.RoadKit
open Sem ClassFile Op Lib Jvm.Stand Jvm.Free Jvm.LawKit
section New
variable {p : Program} {l : Launch} {e : Env} {R : Room} {s : State} {m : MethodId} {args : Array Value} {below : List Frame} {meth : Method} {c : Code} {T : State} {locs : List Loc} {cells slots : Nat}
theorem retI (X : Stand p l e R s m args below meth c T locs cells slots) (hx : p.tables.exec = Jvm.exec) {pc : Nat} {Ls : Array Slot} {z : Int32} {rest : List Value} (hret : meth.sig.returnType = some .int) (hd : decode c.code pc = .ok (.ireturn, 1)) {fs : List Frame}
    (hl : ∀ (f : JFrame) (acts : List Action), f.method = m → f.locked = none → f.entered = [] → (doReturn e (T.setTop f) acts (some (.int z))).1 = T.setFrames fs) : Steps p.tables e below (T.setTop (mkF m pc Ls (.int z :: rest))) (T.setFrames fs) := by
  have hm' : T.vm.method? m = some meth := X.method'
  have hn : narrow .int (.int z) = .int z := rfl
  show Steps p.tables e below (T.setTop { method := m, pc := pc, locals := Ls, stack := _ :: rest, locked := none }) _
  jvm_step X.here [X.here.top, hx, hd, hm', hret, hn]
  first | (intro acts; rw [hl _ acts rfl rfl rfl]) | rw [hl _ _ rfl rfl rfl]
  exact Steps.refl _
end New
end Jvm.RoadKit
namespace Jvm.Pilot.@@N@@
open Jvm Jvm.ClassFile Sem Op Lib Jvm.Free Jvm.Stand Jvm.LawKit Jvm.RoadKit Bundle Jvm.Pilot.@@N@@.Jvm.D

theorem own_sel {Z s : State} {a0 args : Array Value} (hZ : Z.Warmed39 s.vm) (h1 : (Jvm.Cond.selects "com/example/acqueue/acqueue/WireWriter" (⟨"com/example/acqueue/acqueue/WireWriter", "int16", "(I)V"⟩ : MethodName) (⟨"com/example/acqueue/acqueue/WireWriter", "int16", "(I)V"⟩ : MethodName)).before a0 Z = true) (h2 : (Jvm.Cond.instanceMethod (⟨"com/example/acqueue/acqueue/WireWriter", "reserve", "(I)V"⟩ : MethodName)).before a0 Z = true) (h3 : (Jvm.Cond.privateMethod (⟨"com/example/acqueue/acqueue/WireWriter", "reserve", "(I)V"⟩ : MethodName)).before a0 Z = true) :
    (Jvm.Cond.selects "com/example/acqueue/acqueue/WireWriter" (⟨"com/example/acqueue/acqueue/WireWriter", "reserve", "(I)V"⟩ : MethodName) (⟨"com/example/acqueue/acqueue/WireWriter", "reserve", "(I)V"⟩ : MethodName)).before args s = true := by
  obtain ⟨c, r, mm, q1, q2, q3, q4, kP, hkP, hkPi⟩ := Cond.selects_spec (mvT (args := args) hZ h1)
  have hc : s.vm.findClass "com/example/acqueue/acqueue/WireWriter" = some mm.cls := findClass_of_methodNamed q3
  exact selects_self_of_private (y := (⟨"com/example/acqueue/acqueue/WireWriter", "reserve", "(I)V"⟩ : MethodName)) hc hkP hkPi (Cond.privateMethod_at (mvP hZ h3 (args := #[]))) (mvT hZ h2) (by decide)
def own_W (Z : State) (h : Heap) (a b : Addr) (k : ClassId) (n : Int32) (vs : List Value) : Prop := Exa Z h a "com/example/acqueue/acqueue/WireWriter" ∧ Fld Z h a "com/example/acqueue/acqueue/WireWriter" "bytes" "[B" (.ref b) ∧ Fld Z h a "com/example/acqueue/acqueue/WireWriter" "size" "I" (.int n) ∧ Arv Z h b k .byte (256 : Int32) vs (.int (0 : Int32))
theorem own_W_keep {Z : State} {h h' : Heap} {a b : Addr} {k : ClassId} {n : Int32} {vs : List Value} (H : own_W Z h a b k n vs) (K : Keep h h' []) : own_W Z h' a b k n vs := by
  obtain ⟨h1, h2, h3, h4⟩ := H
  exact ⟨h1.keep K, h2.keep K List.not_mem_nil, h3.keep K List.not_mem_nil, h4.keep K List.not_mem_nil⟩
theorem own_ix {j : Int32} {i : Nat} (h : j.toInt = (i : Int)) : j.toNatClampNeg = i := by
  show j.toInt.toNat = i
  omega
theorem own_bd {j : Int32} {i : Nat} (h : j.toInt = (i : Int)) (hb : i < 256) : ¬ j < 0 ∧ j < (256 : Int32) := by
  have k0 : (0 : Int32).toInt = 0 := by decide
  have k1 : (256 : Int32).toInt = 256 := by decide
  rw [Int32.lt_iff_toInt_lt, Int32.lt_iff_toInt_lt, k0, k1]
  omega
theorem own_st {j : Int32} {i : Nat} (h : j.toInt = (i : Int)) (hb : i < 100) (k : Int32) (n : Nat) (hk : k.toInt = (n : Int)) (hn : n < 10) : (j + k).toInt = ((i + n : Nat) : Int) := by
  have a := c_iadd j k
  have r := rng32 (j + k)
  rw [h, hk] at a
  omega
def own_us (x k : Int32) : Int32 := (x.toUInt32 >>> (k &&& 31).toUInt32).toInt32
def own_y (x : Int32) : Value := .int (nar .byte (x.toInt8.toInt32))
def own_z : List Value := [.int (0 : Int32), .int (0 : Int32), .int (0 : Int32), .int (0 : Int32), .int (0 : Int32), .int (0 : Int32), .int (0 : Int32), .int (0 : Int32)]
def own_vs (a b : Int32) : List Value := [own_y (own_us (own_us a (16 : Int32)) (8 : Int32)), own_y (own_us a (16 : Int32)), own_y (own_us a (8 : Int32)), own_y a, own_y (own_us (own_us b (16 : Int32)) (8 : Int32)), own_y (own_us b (16 : Int32)), own_y (own_us b (8 : Int32)), own_y b]
def own_s2 (vs : List Value) (i : Nat) (x : Int32) : List Value := (vs.set i (own_y (own_us x (8 : Int32)))).set (i + 1) (own_y x)
def own_s4 (vs : List Value) (i : Nat) (x : Int32) : List Value := (((vs.set i (own_y (own_us x (24 : Int32)))).set (i + 1) (own_y (own_us x (16 : Int32)))).set (i + 2) (own_y (own_us x (8 : Int32)))).set (i + 3) (own_y x)

theorem own_res {j : Int32} {i : Nat} (h : j.toInt = (i : Int)) (hb : i < 100) : ¬ (((256 : Int32) - j) < (2 : Int32)) := by
  have a := c_isub (256 : Int32) j
  have r := rng32 ((256 : Int32) - j)
  have k1 : (256 : Int32).toInt = 256 := by decide
  have k2 : (2 : Int32).toInt = 2 := by decide
  rw [Int32.lt_iff_toInt_lt, k2]
  rw [k1, h] at a
  omega
theorem d1_0 : decode prog_38_method_1_code 0 = .ok (.aload_n 0, 1) := by decide +kernel
theorem d1_1 : decode prog_38_method_1_code 1 = .ok (.invokespecial 3, 3) := by decide +kernel
theorem d1_4 : decode prog_38_method_1_code 4 = .ok (.aload_n 0, 1) := by decide +kernel
theorem d1_5 : decode prog_38_method_1_code 5 = .ok (.sipush 256, 3) := by decide +kernel
theorem d1_8 : decode prog_38_method_1_code 8 = .ok (.newarray .byte, 2) := by decide +kernel
theorem d1_10 : decode prog_38_method_1_code 10 = .ok (.putfield 11, 3) := by decide +kernel
theorem d1_13 : decode prog_38_method_1_code 13 = .ok (.aload_n 0, 1) := by decide +kernel
theorem d1_14 : decode prog_38_method_1_code 14 = .ok (.iload_n 1, 1) := by decide +kernel
theorem d1_15 : decode prog_38_method_1_code 15 = .ok (.putfield 15, 3) := by decide +kernel
theorem d1_18 : decode prog_38_method_1_code 18 = .ok (.return_, 1) := by decide +kernel
theorem pn_1 : plainName "com/example/acqueue/acqueue/WireWriter" = true := by first | (simp [plainName, overriddenIn]; done) | decide +kernel
theorem ef_1 (m : MethodId) (x0 : Addr) (x1 : Int32) : entryFrame m #[(.ref x0), (.int x1)] 2 = mkF m 0 #[.val (.ref x0), .val (.int x1)] [] := by first | (simp [entryFrame, mkF, argsToLocals, Value.category]; done) | rfl
def Q1 (Z : State) (a1 : Addr) (p2 : Int32) (u_bytes_a1 : Value) (u_flexible_a1 : Value) (h0 : Heap) (n0 : Nat) (v : Option Value) (h : Heap) (L : List Loc) : Prop := ∃ (b : Addr) (k : ClassId), v = none ∧ Fr n0 L ∧ Keep h0 h [a1] ∧ n0 ≤ b ∧ own_W Z h a1 b k (0 : Int32) own_z
set_option maxRecDepth 65536 in
set_option maxHeartbeats 40000000 in
theorem rm1 (l : Launch) (Z : State) (a0 : Array Value) (hw : ∀ d ∈ tables_1, d.before a0 Z = true) (ws : List Jvm.Cond) (a1 : Addr) (p2 : Int32) (u_bytes_a1 : Value) (u_flexible_a1 : Value) (h0 : Heap) (n0 : Nat) (Z0 : n0 ≤ h0.size) (E_a1 : Exa Z h0 a1 "com/example/acqueue/acqueue/WireWriter") (F_bytes_a1 : Fld Z h0 a1 "com/example/acqueue/acqueue/WireWriter" "bytes" "[B" u_bytes_a1) (g_a1 : n0 ≤ a1) (F_flexible_a1 : Fld Z h0 a1 "com/example/acqueue/acqueue/WireWriter" "flexible" "Z" u_flexible_a1) (F_size_a1 : Fld Z h0 a1 "com/example/acqueue/acqueue/WireWriter" "size" "I" (.int (0 : Int32))) :
    MetFree l (⟨"com/example/acqueue/acqueue/WireWriter", "<init>", "(Z)V"⟩ : MethodName) (head1 (Jvm.Cond.code (⟨"com/example/acqueue/acqueue/WireWriter", "<init>", "(Z)V"⟩ : MethodName) prog_38_method_1_code 2 none :: ws) ({ frames := 1, cells := 1, slots := 256, locals := 12 } : Room)) (fun a U => a = #[(.ref a1), (.int p2)] ∧ Z.Warmed39 U.vm ∧ U.heap = h0) (fun _ _ _ _ _ => True) (fun _ U o U' => ∃ v L, o = .returned v ∧ Q1 Z a1 p2 u_bytes_a1 u_flexible_a1 h0 n0 v U'.heap L ∧ FrameEnd U o U' L ({ frames := 1, cells := 1, slots := 256, locals := 12 } : Room).cells ({ frames := 1, cells := 1, slots := 256, locals := 12 } : Room).slots) := by
  refine MetFree.of_bodySF (plainFor_of_name pn_1) hisR ?_
  intro p e s m args below meth c s₁ Bd hml0 hP hK
  obtain ⟨rfl, hZ, hh⟩ := hP
  have hx := Bd.exec
  have hby := Bd.bytes
  have hml : c.maxLocals = 2 := hml0
  have hown : s.vm.findClass "com/example/acqueue/acqueue/WireWriter" = some m.cls := findClass_of_methodNamed Bd.named
  have hnm := (name_of_methodNamed Bd.named Bd.method).1
  have X0 : Stand p l e ({ frames := 1, cells := 1, slots := 256, locals := 12 } : Room) s m #[(.ref a1), (.int p2)] below meth c s₁ [] 0 0 := Stand.of_body Bd
  have e0 : s₁.heap = h0 := by rw [← hh, Bd.state]; rfl
  have N0 := Fr.nil n0
  have pre0 : ∀ t, Steps p.tables e below (s₁.setTop (mkF m 0 #[.val (.ref a1), .val (.int p2)] [])) t → Steps p.tables e below (s₁.setTop (entryFrame m #[(.ref a1), (.int p2)] 2)) t := fun t k => castTop (ef_1 m a1 p2) k
  obtain ⟨T3, X3, e3, st3⟩ := initO X0 hx hZ hown (hw _ (List.mem_of_getElem? (i := 6) rfl)) (hw _ (List.mem_of_getElem? (i := 7) rfl)) (hw _ (List.mem_of_getElem? (i := 8) rfl)) e0 (g := (mkF m 1 #[.val (.ref a1), .val (.int p2)] [(.ref a1)])) rfl (by rw [hml]; rfl) rfl (hb hby d1_1) (by decide) (W := 0) (by show 2 * 0 + _ ≤ _; exact Nat.le_of_eq rfl) (by decide)
  obtain ⟨T4, h4, k4, X4, e4, E4, A4, st4⟩ := newP X3 hx hZ (hw _ (List.mem_of_getElem? (i := 9) rfl)) e3 (g := (mkF m 8 #[.val (.ref a1), .val (.int p2)] [(.int (256 : Int32)), (.ref a1)])) rfl (hb hby d1_8) rfl (by decide) (cap := 256) (by decide) (by decide) (by decide) (by decide)
  obtain ⟨b4, g4⟩ : ∃ z, z = h0.size := ⟨_, rfl⟩
  rw [← g4] at A4 st4
  have V_b4 : Arv Z h4 b4 k4 .byte (256 : Int32) own_z (.int (0 : Int32)) := (Arv.new A4 (by decide)).pad (pad_rep [] (.int (0 : Int32)) 8)
  have hne : b4 ≠ a1 := fun q => absurd E_a1.lt (by rw [← q, g4]; exact Nat.lt_irrefl _)
  have g_b4 : n0 ≤ b4 := Nat.le_trans Z0 (Nat.le_of_eq g4.symm)
  have sz_b4 : h0.size ≤ b4 := (Nat.le_trans (Keep.refl h0 [a1]).1 (Nat.le_of_eq g4.symm))
  have K4 : Keep h0 h4 [a1] := (Keep.refl h0 [a1]).ext E4
  obtain ⟨T5, h5, X5, e5, W5, st5⟩ := putF X4 hx hZ hown (host := "") (Or.inl (hw _ (List.mem_of_getElem? (i := 10) rfl))) Via.refl e4 (F_bytes_a1.ext E4) (E_a1.ext E4) (Or.inl (hw _ (List.mem_of_getElem? (i := 11) rfl))) (hw _ (List.mem_of_getElem? (i := 1) rfl)) (ty := (.array .byte)) (by decide) rfl rfl (g := (mkF m 10 #[.val (.ref a1), .val (.int p2)] [(.ref b4), (.ref a1)])) rfl rfl (hb hby d1_10)
  have Fw5 := (F_bytes_a1.ext E4).same W5
  have K5 : Keep h0 h5 [a1] := K4.wr W5 (Or.inl (List.mem_of_getElem? (i := 0) rfl))
  have N5 := Fr.snoc X5 N0 g_a1
  obtain ⟨T6, h6, X6, e6, W6, st6⟩ := putFN X5 hx hZ hown (hw _ (List.mem_of_getElem? (i := 12) rfl)) Via.refl e5 ((F_flexible_a1.ext E4).other W5 (Or.inr (slot_ne (Or.inr (hw _ (List.mem_of_getElem? (i := 13) rfl))) (Or.inl (hw _ (List.mem_of_getElem? (i := 11) rfl))) (by decide) (t := .boolean) (t' := (.array .byte)) (by decide) (by decide)))) ((E_a1.ext E4).wr W5) (Or.inr ⟨(hw _ (List.mem_of_getElem? (i := 13) rfl)), rfl, hnm⟩) (hw _ (List.mem_of_getElem? (i := 1) rfl)) (ty := .boolean) (v' := .int (nar .boolean p2)) (by decide) rfl (fits_nar_bool _) (g := (mkF m 15 #[.val (.ref a1), .val (.int p2)] [(.int p2), (.ref a1)])) rfl rfl (hb hby d1_15)
  have Fw6 := ((F_flexible_a1.ext E4).other W5 (Or.inr (slot_ne (Or.inr (hw _ (List.mem_of_getElem? (i := 13) rfl))) (Or.inl (hw _ (List.mem_of_getElem? (i := 11) rfl))) (by decide) (t := .boolean) (t' := (.array .byte)) (by decide) (by decide)))).same W6
  have K6 : Keep h0 h6 [a1] := K5.wr W6 (Or.inl (List.mem_of_getElem? (i := 0) rfl))
  have N6 := Fr.snoc X6 N5 g_a1
  obtain ⟨fs, hr, hrun, hended, hW, hsame⟩ := X6.leave (v := none) (fun _ => rfl)
  refine ⟨_, _, pre0 _ ?_, hrun, hended, _, _, rfl, ?_, ⟨_, rfl⟩, hW, hsame.mono (by decide) (by decide)⟩
  · show Steps p.tables e below (s₁.setTop (mkF m 0 #[.val (.ref a1), .val (.int p2)] [])) _
    refine XS.aloadN X0.here hx rfl (hb hby d1_0) rfl rfl ?_
    show Steps p.tables e below (s₁.setTop (mkF m 1 #[.val (.ref a1), .val (.int p2)] [(.ref a1)])) _
    refine st3 _ ?_
    show Steps p.tables e below (T3.setTop (mkF m 4 #[.val (.ref a1), .val (.int p2)] [])) _
    refine XS.aloadN X3.here hx rfl (hb hby d1_4) rfl rfl ?_
    show Steps p.tables e below (T3.setTop (mkF m 5 #[.val (.ref a1), .val (.int p2)] [(.ref a1)])) _
    refine XS.sipush X3.here hx rfl (hb hby d1_5) ?_
    show Steps p.tables e below (T3.setTop (mkF m 8 #[.val (.ref a1), .val (.int p2)] [(.int (256 : Int32)), (.ref a1)])) _
    refine st4 _ ?_
    show Steps p.tables e below (T4.setTop (mkF m 10 #[.val (.ref a1), .val (.int p2)] [(.ref b4), (.ref a1)])) _
    refine st5 _ ?_
    show Steps p.tables e below (T5.setTop (mkF m 13 #[.val (.ref a1), .val (.int p2)] [])) _
    refine XS.aloadN X5.here hx rfl (hb hby d1_13) rfl rfl ?_
    show Steps p.tables e below (T5.setTop (mkF m 14 #[.val (.ref a1), .val (.int p2)] [(.ref a1)])) _
    refine XS.iloadN X5.here hx rfl (hb hby d1_14) rfl ?_
    show Steps p.tables e below (T5.setTop (mkF m 15 #[.val (.ref a1), .val (.int p2)] [(.int p2), (.ref a1)])) _
    refine st6 _ ?_
    show Steps p.tables e below (T6.setTop (mkF m 18 #[.val (.ref a1), .val (.int p2)] [])) _
    exact X6.returnOut hx Bd.returns (hb hby d1_18) hr
  · show Q1 Z a1 p2 u_bytes_a1 u_flexible_a1 h0 n0 _ T6.heap _
    rw [e6]
    exact ⟨b4, k4, rfl, N6, K6, g_b4, ((E_a1.ext E4).wr W5).wr W6, Fw5.other W6 (Or.inr (slot_ne (Or.inl (hw _ (List.mem_of_getElem? (i := 11) rfl))) (Or.inr (hw _ (List.mem_of_getElem? (i := 13) rfl))) (by decide) (t := (.array .byte)) (t' := .boolean) (by decide) (by decide))), ((F_size_a1.ext E4).other W5 (Or.inr (slot_ne (Or.inl (hw _ (List.mem_of_getElem? (i := 24) rfl))) (Or.inl (hw _ (List.mem_of_getElem? (i := 11) rfl))) (by decide) (t := .int) (t' := (.array .byte)) (by decide) (by decide)))).other W6 (Or.inr (slot_ne (Or.inl (hw _ (List.mem_of_getElem? (i := 24) rfl))) (Or.inr (hw _ (List.mem_of_getElem? (i := 13) rfl))) (by decide) (t := .int) (t' := .boolean) (by decide) (by decide))), (V_b4.other W5 hne).other W6 hne⟩
theorem d4_0 : decode prog_38_method_22_code 0 = .ok (.aload_n 0, 1) := by decide +kernel
theorem d4_1 : decode prog_38_method_22_code 1 = .ok (.getfield 11, 3) := by decide +kernel
theorem d4_4 : decode prog_38_method_22_code 4 = .ok (.arraylength, 1) := by decide +kernel
theorem d4_5 : decode prog_38_method_22_code 5 = .ok (.aload_n 0, 1) := by decide +kernel
theorem d4_6 : decode prog_38_method_22_code 6 = .ok (.getfield 25, 3) := by decide +kernel
theorem d4_9 : decode prog_38_method_22_code 9 = .ok (.isub, 1) := by decide +kernel
theorem d4_10 : decode prog_38_method_22_code 10 = .ok (.iload_n 1, 1) := by decide +kernel
theorem d4_11 : decode prog_38_method_22_code 11 = .ok (.if_icmp .ge 62, 3) := by decide +kernel
theorem d4_73 : decode prog_38_method_22_code 73 = .ok (.return_, 1) := by decide +kernel
theorem pn_4 : plainName "com/example/acqueue/acqueue/WireWriter" = true := by first | (simp [plainName, overriddenIn]; done) | decide +kernel
theorem ef_4 (m : MethodId) (x0 : Addr) (x1 : Int32) : entryFrame m #[(.ref x0), (.int x1)] 4 = mkF m 0 #[.val (.ref x0), .val (.int x1), .unset, .unset] [] := by first | (simp [entryFrame, mkF, argsToLocals, Value.category]; done) | rfl
def Q4 (Z : State) (a1 : Addr) (p2 : Int32) (w3 : Addr) (cl_w3 : Cell) (z_w3 : Int32) (w5 : Int32) (h0 : Heap) (n0 : Nat) (v : Option Value) (h : Heap) (L : List Loc) : Prop := v = none ∧ Fr n0 L ∧ h = h0
set_option maxRecDepth 65536 in
set_option maxHeartbeats 40000000 in
theorem rm4 (l : Launch) (Z : State) (a0 : Array Value) (hw : ∀ d ∈ tables_1, d.before a0 Z = true) (ws : List Jvm.Cond) (a1 : Addr) (p2 : Int32) (w3 : Addr) (cl_w3 : Cell) (z_w3 : Int32) (w5 : Int32) (h0 : Heap) (n0 : Nat) (Z0 : n0 ≤ h0.size) (F_bytes_a1 : Fld Z h0 a1 "com/example/acqueue/acqueue/WireWriter" "bytes" "[B" (.ref w3)) (Ar_w3 : Arr Z h0 w3 cl_w3 .byte) (S_w3 : cl_w3.slots.size = z_w3.toNatClampNeg) (N_w3 : ¬ z_w3 < 0) (F_size_a1 : Fld Z h0 a1 "com/example/acqueue/acqueue/WireWriter" "size" "I" (.int w5)) (hc11 : ¬ ((z_w3 - w5) < p2)) :
    MetFree l (⟨"com/example/acqueue/acqueue/WireWriter", "reserve", "(I)V"⟩ : MethodName) (head1 (Jvm.Cond.code (⟨"com/example/acqueue/acqueue/WireWriter", "reserve", "(I)V"⟩ : MethodName) prog_38_method_22_code 4 none :: ws) ({ frames := 0, cells := 0, slots := 0, locals := 0 } : Room)) (fun a U => a = #[(.ref a1), (.int p2)] ∧ Z.Warmed39 U.vm ∧ U.heap = h0) (fun _ _ _ _ _ => True) (fun _ U o U' => ∃ v L, o = .returned v ∧ Q4 Z a1 p2 w3 cl_w3 z_w3 w5 h0 n0 v U'.heap L ∧ FrameEnd U o U' L ({ frames := 0, cells := 0, slots := 0, locals := 0 } : Room).cells ({ frames := 0, cells := 0, slots := 0, locals := 0 } : Room).slots) := by
  refine MetFree.of_bodySF (plainFor_of_name pn_4) hisR ?_
  intro p e s m args below meth c s₁ Bd hml0 hP hK
  obtain ⟨rfl, hZ, hh⟩ := hP
  have hx := Bd.exec
  have hby := Bd.bytes
  have hml : c.maxLocals = 4 := hml0
  have hown : s.vm.findClass "com/example/acqueue/acqueue/WireWriter" = some m.cls := findClass_of_methodNamed Bd.named
  have hnm := (name_of_methodNamed Bd.named Bd.method).1
  have X0 : Stand p l e ({ frames := 0, cells := 0, slots := 0, locals := 0 } : Room) s m #[(.ref a1), (.int p2)] below meth c s₁ [] 0 0 := Stand.of_body Bd
  have e0 : s₁.heap = h0 := by rw [← hh, Bd.state]; rfl
  have N0 := Fr.nil n0
  have pre0 : ∀ t, Steps p.tables e below (s₁.setTop (mkF m 0 #[.val (.ref a1), .val (.int p2), .unset, .unset] [])) t → Steps p.tables e below (s₁.setTop (entryFrame m #[(.ref a1), (.int p2)] 4)) t := fun t k => castTop (ef_4 m a1 p2) k
  obtain ⟨T4, X4, e4, st4⟩ := getF X0 hx hZ hown (host := "") (Or.inl (hw _ (List.mem_of_getElem? (i := 10) rfl))) Via.refl e0 F_bytes_a1 (g := (mkF m 1 #[.val (.ref a1), .val (.int p2), .unset, .unset] [(.ref a1)])) rfl rfl (hb hby d4_1)
  obtain ⟨T6, X6, e6, st6⟩ := getF X4 hx hZ hown (host := "") (Or.inl (hw _ (List.mem_of_getElem? (i := 23) rfl))) Via.refl e4 F_size_a1 (g := (mkF m 6 #[.val (.ref a1), .val (.int p2), .unset, .unset] [(.ref a1), (.int z_w3)])) rfl rfl (hb hby d4_6)
  obtain ⟨fs, hr, hrun, hended, hW, hsame⟩ := X6.leave (v := none) (fun _ => rfl)
  refine ⟨_, _, pre0 _ ?_, hrun, hended, _, _, rfl, ?_, ⟨_, rfl⟩, hW, hsame.mono (by decide) (by decide)⟩
  · show Steps p.tables e below (s₁.setTop (mkF m 0 #[.val (.ref a1), .val (.int p2), .unset, .unset] [])) _
    refine XS.aloadN X0.here hx rfl (hb hby d4_0) rfl rfl ?_
    show Steps p.tables e below (s₁.setTop (mkF m 1 #[.val (.ref a1), .val (.int p2), .unset, .unset] [(.ref a1)])) _
    refine st4 _ ?_
    show Steps p.tables e below (T4.setTop (mkF m 4 #[.val (.ref a1), .val (.int p2), .unset, .unset] [(.ref w3)])) _
    refine X4.arraylength hx (by rw [e4]; exact Ar_w3.1) (State.isArrayOf_alike hZ.alike Ar_w3.2.1) (g := (mkF m 4 #[.val (.ref a1), .val (.int p2), .unset, .unset] [(.ref w3)])) rfl rfl (hb hby d4_4) _ ?_
    rw [len_of S_w3 N_w3]
    show Steps p.tables e below (T4.setTop (mkF m 5 #[.val (.ref a1), .val (.int p2), .unset, .unset] [(.int z_w3)])) _
    refine XS.aloadN X4.here hx rfl (hb hby d4_5) rfl rfl ?_
    show Steps p.tables e below (T4.setTop (mkF m 6 #[.val (.ref a1), .val (.int p2), .unset, .unset] [(.ref a1), (.int z_w3)])) _
    refine st6 _ ?_
    show Steps p.tables e below (T6.setTop (mkF m 9 #[.val (.ref a1), .val (.int p2), .unset, .unset] [(.int w5), (.int z_w3)])) _
    refine XS.isub X6.here hx rfl (hb hby d4_9) rfl ?_
    show Steps p.tables e below (T6.setTop (mkF m 10 #[.val (.ref a1), .val (.int p2), .unset, .unset] [(.int (z_w3 - w5))])) _
    refine XS.iloadN X6.here hx rfl (hb hby d4_10) rfl ?_
    show Steps p.tables e below (T6.setTop (mkF m 11 #[.val (.ref a1), .val (.int p2), .unset, .unset] [(.int p2), (.int (z_w3 - w5))])) _
    refine XS.icmpYes X6.here hx rfl (pc0 := 11) (pc' := 73) rfl (hb hby d4_11) rfl (flt hc11).2.1 (by decide) (by decide) ?_
    show Steps p.tables e below (T6.setTop (mkF m 73 #[.val (.ref a1), .val (.int p2), .unset, .unset] [])) _
    exact X6.returnOut hx Bd.returns (hb hby d4_73) hr
  · show Q4 Z a1 p2 w3 cl_w3 z_w3 w5 h0 n0 _ T6.heap _
    rw [e6]
    exact ⟨rfl, N0, rfl⟩
theorem d3_0 : decode prog_38_method_3_code 0 = .ok (.aload_n 0, 1) := by decide +kernel
theorem d3_1 : decode prog_38_method_3_code 1 = .ok (.iconst 2, 1) := by decide +kernel
theorem d3_2 : decode prog_38_method_3_code 2 = .ok (.invokevirtual 21, 3) := by decide +kernel
theorem d3_5 : decode prog_38_method_3_code 5 = .ok (.aload_n 0, 1) := by decide +kernel
theorem d3_6 : decode prog_38_method_3_code 6 = .ok (.getfield 11, 3) := by decide +kernel
theorem d3_9 : decode prog_38_method_3_code 9 = .ok (.aload_n 0, 1) := by decide +kernel
theorem d3_10 : decode prog_38_method_3_code 10 = .ok (.dup, 1) := by decide +kernel
theorem d3_11 : decode prog_38_method_3_code 11 = .ok (.getfield 25, 3) := by decide +kernel
theorem d3_14 : decode prog_38_method_3_code 14 = .ok (.dup_x1, 1) := by decide +kernel
theorem d3_15 : decode prog_38_method_3_code 15 = .ok (.iconst 1, 1) := by decide +kernel
theorem d3_16 : decode prog_38_method_3_code 16 = .ok (.iadd, 1) := by decide +kernel
theorem d3_17 : decode prog_38_method_3_code 17 = .ok (.putfield 25, 3) := by decide +kernel
theorem d3_20 : decode prog_38_method_3_code 20 = .ok (.iload_n 1, 1) := by decide +kernel
theorem d3_21 : decode prog_38_method_3_code 21 = .ok (.bipush 8, 2) := by decide +kernel
theorem d3_23 : decode prog_38_method_3_code 23 = .ok (.iushr, 1) := by decide +kernel
theorem d3_24 : decode prog_38_method_3_code 24 = .ok (.i2b, 1) := by decide +kernel
theorem d3_25 : decode prog_38_method_3_code 25 = .ok (.bastore, 1) := by decide +kernel
theorem d3_26 : decode prog_38_method_3_code 26 = .ok (.aload_n 0, 1) := by decide +kernel
theorem d3_27 : decode prog_38_method_3_code 27 = .ok (.getfield 11, 3) := by decide +kernel
theorem d3_30 : decode prog_38_method_3_code 30 = .ok (.aload_n 0, 1) := by decide +kernel
theorem d3_31 : decode prog_38_method_3_code 31 = .ok (.dup, 1) := by decide +kernel
theorem d3_32 : decode prog_38_method_3_code 32 = .ok (.getfield 25, 3) := by decide +kernel
theorem d3_35 : decode prog_38_method_3_code 35 = .ok (.dup_x1, 1) := by decide +kernel
theorem d3_36 : decode prog_38_method_3_code 36 = .ok (.iconst 1, 1) := by decide +kernel
theorem d3_37 : decode prog_38_method_3_code 37 = .ok (.iadd, 1) := by decide +kernel
theorem d3_38 : decode prog_38_method_3_code 38 = .ok (.putfield 25, 3) := by decide +kernel
theorem d3_41 : decode prog_38_method_3_code 41 = .ok (.iload_n 1, 1) := by decide +kernel
theorem d3_42 : decode prog_38_method_3_code 42 = .ok (.i2b, 1) := by decide +kernel
theorem d3_43 : decode prog_38_method_3_code 43 = .ok (.bastore, 1) := by decide +kernel
theorem d3_44 : decode prog_38_method_3_code 44 = .ok (.return_, 1) := by decide +kernel
theorem pn_3 : plainName "com/example/acqueue/acqueue/WireWriter" = true := by first | (simp [plainName, overriddenIn]; done) | decide +kernel
theorem pd_3_2 : parseMethodDescriptor "(I)V" = some ⟨[.int], none⟩ := by decide +kernel
theorem ef_3 (m : MethodId) (x0 : Addr) (x1 : Int32) : entryFrame m #[(.ref x0), (.int x1)] 2 = mkF m 0 #[.val (.ref x0), .val (.int x1)] [] := by first | (simp [entryFrame, mkF, argsToLocals, Value.category]; done) | rfl
def Q3 (Z : State) (a1 : Addr) (p2 : Int32) (w4 : Addr) (w6 : Int32) (kB : ClassId) (vs : List Value) (i : Nat) (h0 : Heap) (n0 : Nat) (v : Option Value) (h : Heap) (L : List Loc) : Prop := v = none ∧ Fr n0 L ∧ Keep h0 h [a1, w4] ∧ own_W Z h a1 w4 kB ((w6 + (1 : Int32)) + (1 : Int32)) (own_s2 vs i p2)
set_option maxRecDepth 65536 in
set_option maxHeartbeats 40000000 in
theorem rm3 (l : Launch) (Z : State) (a0 : Array Value) (hw : ∀ d ∈ tables_1, d.before a0 Z = true) (ws : List Jvm.Cond) (a1 : Addr) (p2 : Int32) (w4 : Addr) (w6 : Int32) (kB : ClassId) (vs : List Value) (i : Nat) (h0 : Heap) (n0 : Nat) (Z0 : n0 ≤ h0.size) (E_a1 : Exa Z h0 a1 "com/example/acqueue/acqueue/WireWriter") (F_bytes_a1 : Fld Z h0 a1 "com/example/acqueue/acqueue/WireWriter" "bytes" "[B" (.ref w4)) (F_size_a1 : Fld Z h0 a1 "com/example/acqueue/acqueue/WireWriter" "size" "I" (.int w6)) (g_a1 : n0 ≤ a1) (V0 : Arv Z h0 w4 kB .byte (256 : Int32) vs (.int (0 : Int32))) (hi : w6.toInt = (i : Int)) (h8 : vs.length = 8) (hi8 : i + 1 < 8) (g_w4 : n0 ≤ w4) :
    MetFree l (⟨"com/example/acqueue/acqueue/WireWriter", "int16", "(I)V"⟩ : MethodName) (head1 (Jvm.Cond.code (⟨"com/example/acqueue/acqueue/WireWriter", "int16", "(I)V"⟩ : MethodName) prog_38_method_3_code 2 none :: ws) ({ frames := 1, cells := 0, slots := 0, locals := 15 } : Room)) (fun a U => a = #[(.ref a1), (.int p2)] ∧ Z.Warmed39 U.vm ∧ U.heap = h0) (fun _ _ _ _ _ => True) (fun _ U o U' => ∃ v L, o = .returned v ∧ Q3 Z a1 p2 w4 w6 kB vs i h0 n0 v U'.heap L ∧ FrameEnd U o U' L ({ frames := 1, cells := 0, slots := 0, locals := 15 } : Room).cells ({ frames := 1, cells := 0, slots := 0, locals := 15 } : Room).slots) := by
  refine MetFree.of_bodySF (plainFor_of_name pn_3) hisR ?_
  intro p e s m args below meth c s₁ Bd hml0 hP hK
  obtain ⟨rfl, hZ, hh⟩ := hP
  have hx := Bd.exec
  have hby := Bd.bytes
  have hml : c.maxLocals = 2 := hml0
  have hown : s.vm.findClass "com/example/acqueue/acqueue/WireWriter" = some m.cls := findClass_of_methodNamed Bd.named
  have hnm := (name_of_methodNamed Bd.named Bd.method).1
  have X0 : Stand p l e ({ frames := 1, cells := 0, slots := 0, locals := 15 } : Room) s m #[(.ref a1), (.int p2)] below meth c s₁ [] 0 0 := Stand.of_body Bd
  have e0 : s₁.heap = h0 := by rw [← hh, Bd.state]; rfl
  have N0 := Fr.nil n0
  have pre0 : ∀ t, Steps p.tables e below (s₁.setTop (mkF m 0 #[.val (.ref a1), .val (.int p2)] [])) t → Steps p.tables e below (s₁.setTop (entryFrame m #[(.ref a1), (.int p2)] 2)) t := fun t k => castTop (ef_3 m a1 p2) k
  obtain ⟨cl0, Ar0, q0, S0, M0, H0, G0⟩ := id V0
  have hne : a1 ≠ w4 := ne_arr E_a1 (hw _ (List.mem_of_getElem? (i := 1) rfl)) Ar0
  have hres : ¬ (((256 : Int32) - w6) < (2 : Int32)) := own_res hi (by omega)
  obtain ⟨cq3, q3, q3'⟩ := E_a1.cell
  obtain ⟨_, _, ⟨T3, L3, k3, n3⟩, -, X3, ⟨Lc3, hQ3, l3, y3, z3⟩, st3⟩ := X0.privateBack hx (y := (⟨"com/example/acqueue/acqueue/WireWriter", "reserve", "(I)V"⟩ : MethodName)) hown (mvT hZ (hw _ (List.mem_of_getElem? (i := 19) rfl))) (mvT hZ (hw _ (List.mem_of_getElem? (i := 20) rfl))) (own_sel hZ (hw _ (List.mem_of_getElem? (i := 17) rfl)) (hw _ (List.mem_of_getElem? (i := 20) rfl)) (hw _ (List.mem_of_getElem? (i := 21) rfl))) (Cond.privateMethod_at (mvP hZ (hw _ (List.mem_of_getElem? (i := 21) rfl)) (args := #[]))) (mvT hZ (hw _ (List.mem_of_getElem? (i := 22) rfl))) (by decide) (backOf (W := 0) (rm4 l Z a0 hw [] a1 (2 : Int32) w4 cl0 (256 : Int32) w6 h0 n0 Z0 F_bytes_a1 Ar0 S0 M0 F_size_a1 hres) hZ (hw _ (List.mem_of_getElem? (i := 22) rfl)) (hw _ (List.mem_of_getElem? (i := 2) rfl)) (by decide) (by decide)) (g := (mkF m 2 #[.val (.ref a1), .val (.int p2)] [(.int (2 : Int32)), (.ref a1)])) rfl (by rw [hml]; rfl) (Steps.refl _) (a := a1) (by rw [e0]; exact q3) q3' (argsL := [(.int (2 : Int32))]) (rest := []) (lenOf pd_3_2 rfl) rfl (by show 2 * 0 + _ ≤ _; exact Nat.le_of_eq rfl) (hb hby d3_2) (fun _ _ => ⟨rfl, e0, (by decide : 0 + 0 ≤ _), (by decide : 0 + 0 ≤ _)⟩)
  dsimp only [Pt.U, Pt.locs, Pt.cells, Pt.slots] at X3 l3 y3 z3 st3 hQ3
  subst l3 y3 z3
  obtain ⟨rfl, N3q, hs3⟩ := hQ3
  have N3 := Fr.app N0 N3q
  have Kc3 : Keep h0 T3.heap [] := by rw [hs3]; exact Keep.refl _ _
  have Kd3 : Keep h0 T3.heap [a1, w4] := by rw [hs3]; exact Keep.refl _ _
  obtain ⟨T5, X5, e5, st5⟩ := getF X3 hx hZ hown (host := "") (Or.inl (hw _ (List.mem_of_getElem? (i := 10) rfl))) Via.refl rfl (F_bytes_a1.keep Kc3 List.not_mem_nil) (g := (mkF m 6 #[.val (.ref a1), .val (.int p2)] [(.ref a1)])) rfl rfl (hb hby d3_6)
  obtain ⟨T7, X7, e7, st7⟩ := getF X5 hx hZ hown (host := "") (Or.inl (hw _ (List.mem_of_getElem? (i := 23) rfl))) Via.refl e5 (F_size_a1.keep Kc3 List.not_mem_nil) (g := (mkF m 11 #[.val (.ref a1), .val (.int p2)] [(.ref a1), (.ref a1), (.ref w4)])) rfl rfl (hb hby d3_11)
  obtain ⟨T8, h8, X8, e8, W8, st8⟩ := putF X7 hx hZ hown (host := "") (Or.inl (hw _ (List.mem_of_getElem? (i := 23) rfl))) Via.refl e7 (F_size_a1.keep Kc3 List.not_mem_nil) (E_a1.keep Kc3) (Or.inl (hw _ (List.mem_of_getElem? (i := 24) rfl))) (hw _ (List.mem_of_getElem? (i := 1) rfl)) (ty := .int) (by decide) rfl rfl (g := (mkF m 17 #[.val (.ref a1), .val (.int p2)] [(.int (w6 + (1 : Int32))), (.ref a1), (.int w6), (.ref w4)])) rfl rfl (hb hby d3_17)
  have Fw8 := (F_size_a1.keep Kc3 List.not_mem_nil).same W8
  have K8 : Keep h0 h8 [a1, w4] := Kd3.wr W8 (Or.inl (List.mem_of_getElem? (i := 0) rfl))
  have N8 := Fr.snoc X8 N3 g_a1
  obtain ⟨cl_w4, Ar_w4, q_w4, S_w4, M_w4, H_w4, G_w4⟩ := ((V0.keep Kc3 List.not_mem_nil).other W8 (Ne.symm hne))
  have hin25 : ¬ (w6 < 0 ∨ cl_w4.slots.size ≤ (w6).toNatClampNeg) := inb_of S_w4 (own_bd hi (by omega))
  obtain ⟨T9, h9, X9, e9, W9, st9⟩ := stB X8 hx hZ e8 Ar_w4 (j := w6) hin25 (g := (mkF m 25 #[.val (.ref a1), .val (.int p2)] [(.int (((p2.toUInt32 >>> ((8 : Int32) &&& 31).toUInt32).toInt32).toInt8.toInt32)), (.int w6), (.ref w4)])) rfl rfl (hb hby d3_25)
  have V9 := Arv.set Ar_w4 q_w4 S_w4 M_w4 H_w4 G_w4 (fits_nar_byte _) W9 (i) (own_ix hi) (by omega)
  have N9 := Fr.snoc X9 N8 g_w4
  have K9 : Keep h0 h9 [a1, w4] := K8.wr W9 (Or.inl (List.mem_of_getElem? (i := 1) rfl))
  obtain ⟨T10, X10, e10, st10⟩ := getF X9 hx hZ hown (host := "") (Or.inl (hw _ (List.mem_of_getElem? (i := 10) rfl))) Via.refl e9 (((F_bytes_a1.keep Kc3 List.not_mem_nil).other W8 (Or.inr (slot_ne (Or.inl (hw _ (List.mem_of_getElem? (i := 11) rfl))) (Or.inl (hw _ (List.mem_of_getElem? (i := 24) rfl))) (by decide) (t := (.array .byte)) (t' := .int) (by decide) (by decide)))).other W9 (Or.inl hne)) (g := (mkF m 27 #[.val (.ref a1), .val (.int p2)] [(.ref a1)])) rfl rfl (hb hby d3_27)
  obtain ⟨T11, X11, e11, st11⟩ := getF X10 hx hZ hown (host := "") (Or.inl (hw _ (List.mem_of_getElem? (i := 23) rfl))) Via.refl e10 (Fw8.other W9 (Or.inl hne)) (g := (mkF m 32 #[.val (.ref a1), .val (.int p2)] [(.ref a1), (.ref a1), (.ref w4)])) rfl rfl (hb hby d3_32)
  obtain ⟨T12, h12, X12, e12, W12, st12⟩ := putF X11 hx hZ hown (host := "") (Or.inl (hw _ (List.mem_of_getElem? (i := 23) rfl))) Via.refl e11 (Fw8.other W9 (Or.inl hne)) (((E_a1.keep Kc3).wr W8).wr W9) (Or.inl (hw _ (List.mem_of_getElem? (i := 24) rfl))) (hw _ (List.mem_of_getElem? (i := 1) rfl)) (ty := .int) (by decide) rfl rfl (g := (mkF m 38 #[.val (.ref a1), .val (.int p2)] [(.int ((w6 + (1 : Int32)) + (1 : Int32))), (.ref a1), (.int (w6 + (1 : Int32))), (.ref w4)])) rfl rfl (hb hby d3_38)
  have Fw12 := (Fw8.other W9 (Or.inl hne)).same W12
  have K12 : Keep h0 h12 [a1, w4] := K9.wr W12 (Or.inl (List.mem_of_getElem? (i := 0) rfl))
  have N12 := Fr.snoc X12 N9 g_a1
  obtain ⟨cl_w4, Ar_w4, q_w4, S_w4, M_w4, H_w4, G_w4⟩ := (V9.other W12 (Ne.symm hne))
  have hin43 : ¬ ((w6 + (1 : Int32)) < 0 ∨ cl_w4.slots.size ≤ ((w6 + (1 : Int32))).toNatClampNeg) := inb_of S_w4 (own_bd (own_st hi (by omega) (1 : Int32) 1 (by decide) (by decide)) (by omega))
  obtain ⟨T13, h13, X13, e13, W13, st13⟩ := stB X12 hx hZ e12 Ar_w4 (j := (w6 + (1 : Int32))) hin43 (g := (mkF m 43 #[.val (.ref a1), .val (.int p2)] [(.int (p2.toInt8.toInt32)), (.int (w6 + (1 : Int32))), (.ref w4)])) rfl rfl (hb hby d3_43)
  have V13 := Arv.set Ar_w4 q_w4 S_w4 M_w4 H_w4 G_w4 (fits_nar_byte _) W13 (i + 1) (own_ix (own_st hi (by omega) (1 : Int32) 1 (by decide) (by decide))) (by rw [List.length_set]; omega)
  have N13 := Fr.snoc X13 N12 g_w4
  have K13 : Keep h0 h13 [a1, w4] := K12.wr W13 (Or.inl (List.mem_of_getElem? (i := 1) rfl))
  obtain ⟨fs, hr, hrun, hended, hW, hsame⟩ := X13.leave (v := none) (fun _ => rfl)
  refine ⟨_, _, pre0 _ ?_, hrun, hended, _, _, rfl, ?_, ⟨_, rfl⟩, hW, hsame.mono (by decide) (by decide)⟩
  · show Steps p.tables e below (s₁.setTop (mkF m 0 #[.val (.ref a1), .val (.int p2)] [])) _
    refine XS.aloadN X0.here hx rfl (hb hby d3_0) rfl rfl ?_
    show Steps p.tables e below (s₁.setTop (mkF m 1 #[.val (.ref a1), .val (.int p2)] [(.ref a1)])) _
    refine XS.iconst X0.here hx rfl (hb hby d3_1) ?_
    show Steps p.tables e below (s₁.setTop (mkF m 2 #[.val (.ref a1), .val (.int p2)] [(.int (2 : Int32)), (.ref a1)])) _
    refine st3.trans ?_
    show Steps p.tables e below (T3.setTop (mkF m 5 #[.val (.ref a1), .val (.int p2)] [])) _
    refine XS.aloadN X3.here hx rfl (hb hby d3_5) rfl rfl ?_
    show Steps p.tables e below (T3.setTop (mkF m 6 #[.val (.ref a1), .val (.int p2)] [(.ref a1)])) _
    refine st5 _ ?_
    show Steps p.tables e below (T5.setTop (mkF m 9 #[.val (.ref a1), .val (.int p2)] [(.ref w4)])) _
    refine XS.aloadN X5.here hx rfl (hb hby d3_9) rfl rfl ?_
    show Steps p.tables e below (T5.setTop (mkF m 10 #[.val (.ref a1), .val (.int p2)] [(.ref a1), (.ref w4)])) _
    refine XS.dup X5.here hx rfl (hb hby d3_10) rfl rfl ?_
    show Steps p.tables e below (T5.setTop (mkF m 11 #[.val (.ref a1), .val (.int p2)] [(.ref a1), (.ref a1), (.ref w4)])) _
    refine st7 _ ?_
    show Steps p.tables e below (T7.setTop (mkF m 14 #[.val (.ref a1), .val (.int p2)] [(.int w6), (.ref a1), (.ref w4)])) _
    refine XS.dupX1 X7.here hx rfl (hb hby d3_14) rfl rfl rfl ?_
    show Steps p.tables e below (T7.setTop (mkF m 15 #[.val (.ref a1), .val (.int p2)] [(.int w6), (.ref a1), (.int w6), (.ref w4)])) _
    refine XS.iconst X7.here hx rfl (hb hby d3_15) ?_
    show Steps p.tables e below (T7.setTop (mkF m 16 #[.val (.ref a1), .val (.int p2)] [(.int (1 : Int32)), (.int w6), (.ref a1), (.int w6), (.ref w4)])) _
    refine XS.iadd X7.here hx rfl (hb hby d3_16) rfl ?_
    show Steps p.tables e below (T7.setTop (mkF m 17 #[.val (.ref a1), .val (.int p2)] [(.int (w6 + (1 : Int32))), (.ref a1), (.int w6), (.ref w4)])) _
    refine st8 _ ?_
    show Steps p.tables e below (T8.setTop (mkF m 20 #[.val (.ref a1), .val (.int p2)] [(.int w6), (.ref w4)])) _
    refine XS.iloadN X8.here hx rfl (hb hby d3_20) rfl ?_
    show Steps p.tables e below (T8.setTop (mkF m 21 #[.val (.ref a1), .val (.int p2)] [(.int p2), (.int w6), (.ref w4)])) _
    refine XS.bipush X8.here hx rfl (hb hby d3_21) ?_
    show Steps p.tables e below (T8.setTop (mkF m 23 #[.val (.ref a1), .val (.int p2)] [(.int (8 : Int32)), (.int p2), (.int w6), (.ref w4)])) _
    refine XS.iushr X8.here hx rfl (hb hby d3_23) rfl ?_
    show Steps p.tables e below (T8.setTop (mkF m 24 #[.val (.ref a1), .val (.int p2)] [(.int ((p2.toUInt32 >>> ((8 : Int32) &&& 31).toUInt32).toInt32)), (.int w6), (.ref w4)])) _
    refine XS.i2b X8.here hx rfl (hb hby d3_24) rfl ?_
    show Steps p.tables e below (T8.setTop (mkF m 25 #[.val (.ref a1), .val (.int p2)] [(.int (((p2.toUInt32 >>> ((8 : Int32) &&& 31).toUInt32).toInt32).toInt8.toInt32)), (.int w6), (.ref w4)])) _
    refine st9 _ ?_
    show Steps p.tables e below (T9.setTop (mkF m 26 #[.val (.ref a1), .val (.int p2)] [])) _
    refine XS.aloadN X9.here hx rfl (hb hby d3_26) rfl rfl ?_
    show Steps p.tables e below (T9.setTop (mkF m 27 #[.val (.ref a1), .val (.int p2)] [(.ref a1)])) _
    refine st10 _ ?_
    show Steps p.tables e below (T10.setTop (mkF m 30 #[.val (.ref a1), .val (.int p2)] [(.ref w4)])) _
    refine XS.aloadN X10.here hx rfl (hb hby d3_30) rfl rfl ?_
    show Steps p.tables e below (T10.setTop (mkF m 31 #[.val (.ref a1), .val (.int p2)] [(.ref a1), (.ref w4)])) _
    refine XS.dup X10.here hx rfl (hb hby d3_31) rfl rfl ?_
    show Steps p.tables e below (T10.setTop (mkF m 32 #[.val (.ref a1), .val (.int p2)] [(.ref a1), (.ref a1), (.ref w4)])) _
    refine st11 _ ?_
    show Steps p.tables e below (T11.setTop (mkF m 35 #[.val (.ref a1), .val (.int p2)] [(.int (w6 + (1 : Int32))), (.ref a1), (.ref w4)])) _
    refine XS.dupX1 X11.here hx rfl (hb hby d3_35) rfl rfl rfl ?_
    show Steps p.tables e below (T11.setTop (mkF m 36 #[.val (.ref a1), .val (.int p2)] [(.int (w6 + (1 : Int32))), (.ref a1), (.int (w6 + (1 : Int32))), (.ref w4)])) _
    refine XS.iconst X11.here hx rfl (hb hby d3_36) ?_
    show Steps p.tables e below (T11.setTop (mkF m 37 #[.val (.ref a1), .val (.int p2)] [(.int (1 : Int32)), (.int (w6 + (1 : Int32))), (.ref a1), (.int (w6 + (1 : Int32))), (.ref w4)])) _
    refine XS.iadd X11.here hx rfl (hb hby d3_37) rfl ?_
    show Steps p.tables e below (T11.setTop (mkF m 38 #[.val (.ref a1), .val (.int p2)] [(.int ((w6 + (1 : Int32)) + (1 : Int32))), (.ref a1), (.int (w6 + (1 : Int32))), (.ref w4)])) _
    refine st12 _ ?_
    show Steps p.tables e below (T12.setTop (mkF m 41 #[.val (.ref a1), .val (.int p2)] [(.int (w6 + (1 : Int32))), (.ref w4)])) _
    refine XS.iloadN X12.here hx rfl (hb hby d3_41) rfl ?_
    show Steps p.tables e below (T12.setTop (mkF m 42 #[.val (.ref a1), .val (.int p2)] [(.int p2), (.int (w6 + (1 : Int32))), (.ref w4)])) _
    refine XS.i2b X12.here hx rfl (hb hby d3_42) rfl ?_
    show Steps p.tables e below (T12.setTop (mkF m 43 #[.val (.ref a1), .val (.int p2)] [(.int (p2.toInt8.toInt32)), (.int (w6 + (1 : Int32))), (.ref w4)])) _
    refine st13 _ ?_
    show Steps p.tables e below (T13.setTop (mkF m 44 #[.val (.ref a1), .val (.int p2)] [])) _
    exact X13.returnOut hx Bd.returns (hb hby d3_44) hr
  · show Q3 Z a1 p2 w4 w6 kB vs i h0 n0 _ T13.heap _
    rw [e13]
    exact ⟨rfl, N13, K13, ((((E_a1.keep Kc3).wr W8).wr W9).wr W12).wr W13, ((((F_bytes_a1.keep Kc3 List.not_mem_nil).other W8 (Or.inr (slot_ne (Or.inl (hw _ (List.mem_of_getElem? (i := 11) rfl))) (Or.inl (hw _ (List.mem_of_getElem? (i := 24) rfl))) (by decide) (t := (.array .byte)) (t' := .int) (by decide) (by decide)))).other W9 (Or.inl hne)).other W12 (Or.inr (slot_ne (Or.inl (hw _ (List.mem_of_getElem? (i := 11) rfl))) (Or.inl (hw _ (List.mem_of_getElem? (i := 24) rfl))) (by decide) (t := (.array .byte)) (t' := .int) (by decide) (by decide)))).other W13 (Or.inl hne), Fw12.other W13 (Or.inl hne), V13⟩
theorem d5_0 : decode prog_38_method_18_code 0 = .ok (.aload_n 0, 1) := by decide +kernel
theorem d5_1 : decode prog_38_method_18_code 1 = .ok (.getfield 11, 3) := by decide +kernel
theorem d5_4 : decode prog_38_method_18_code 4 = .ok (.iload_n 1, 1) := by decide +kernel
theorem d5_5 : decode prog_38_method_18_code 5 = .ok (.iload_n 2, 1) := by decide +kernel
theorem d5_6 : decode prog_38_method_18_code 6 = .ok (.bipush 24, 2) := by decide +kernel
theorem d5_8 : decode prog_38_method_18_code 8 = .ok (.iushr, 1) := by decide +kernel
theorem d5_9 : decode prog_38_method_18_code 9 = .ok (.i2b, 1) := by decide +kernel
theorem d5_10 : decode prog_38_method_18_code 10 = .ok (.bastore, 1) := by decide +kernel
theorem d5_11 : decode prog_38_method_18_code 11 = .ok (.aload_n 0, 1) := by decide +kernel
theorem d5_12 : decode prog_38_method_18_code 12 = .ok (.getfield 11, 3) := by decide +kernel
theorem d5_15 : decode prog_38_method_18_code 15 = .ok (.iload_n 1, 1) := by decide +kernel
theorem d5_16 : decode prog_38_method_18_code 16 = .ok (.iconst 1, 1) := by decide +kernel
theorem d5_17 : decode prog_38_method_18_code 17 = .ok (.iadd, 1) := by decide +kernel
theorem d5_18 : decode prog_38_method_18_code 18 = .ok (.iload_n 2, 1) := by decide +kernel
theorem d5_19 : decode prog_38_method_18_code 19 = .ok (.bipush 16, 2) := by decide +kernel
theorem d5_21 : decode prog_38_method_18_code 21 = .ok (.iushr, 1) := by decide +kernel
theorem d5_22 : decode prog_38_method_18_code 22 = .ok (.i2b, 1) := by decide +kernel
theorem d5_23 : decode prog_38_method_18_code 23 = .ok (.bastore, 1) := by decide +kernel
theorem d5_24 : decode prog_38_method_18_code 24 = .ok (.aload_n 0, 1) := by decide +kernel
theorem d5_25 : decode prog_38_method_18_code 25 = .ok (.getfield 11, 3) := by decide +kernel
theorem d5_28 : decode prog_38_method_18_code 28 = .ok (.iload_n 1, 1) := by decide +kernel
theorem d5_29 : decode prog_38_method_18_code 29 = .ok (.iconst 2, 1) := by decide +kernel
theorem d5_30 : decode prog_38_method_18_code 30 = .ok (.iadd, 1) := by decide +kernel
theorem d5_31 : decode prog_38_method_18_code 31 = .ok (.iload_n 2, 1) := by decide +kernel
theorem d5_32 : decode prog_38_method_18_code 32 = .ok (.bipush 8, 2) := by decide +kernel
theorem d5_34 : decode prog_38_method_18_code 34 = .ok (.iushr, 1) := by decide +kernel
theorem d5_35 : decode prog_38_method_18_code 35 = .ok (.i2b, 1) := by decide +kernel
theorem d5_36 : decode prog_38_method_18_code 36 = .ok (.bastore, 1) := by decide +kernel
theorem d5_37 : decode prog_38_method_18_code 37 = .ok (.aload_n 0, 1) := by decide +kernel
theorem d5_38 : decode prog_38_method_18_code 38 = .ok (.getfield 11, 3) := by decide +kernel
theorem d5_41 : decode prog_38_method_18_code 41 = .ok (.iload_n 1, 1) := by decide +kernel
theorem d5_42 : decode prog_38_method_18_code 42 = .ok (.iconst 3, 1) := by decide +kernel
theorem d5_43 : decode prog_38_method_18_code 43 = .ok (.iadd, 1) := by decide +kernel
theorem d5_44 : decode prog_38_method_18_code 44 = .ok (.iload_n 2, 1) := by decide +kernel
theorem d5_45 : decode prog_38_method_18_code 45 = .ok (.i2b, 1) := by decide +kernel
theorem d5_46 : decode prog_38_method_18_code 46 = .ok (.bastore, 1) := by decide +kernel
theorem d5_47 : decode prog_38_method_18_code 47 = .ok (.return_, 1) := by decide +kernel
theorem pn_5 : plainName "com/example/acqueue/acqueue/WireWriter" = true := by first | (simp [plainName, overriddenIn]; done) | decide +kernel
theorem ef_5 (m : MethodId) (x0 : Addr) (x1 : Int32) (x2 : Int32) : entryFrame m #[(.ref x0), (.int x1), (.int x2)] 3 = mkF m 0 #[.val (.ref x0), .val (.int x1), .val (.int x2)] [] := by first | (simp [entryFrame, mkF, argsToLocals, Value.category]; done) | rfl
def Q5 (Z : State) (a1 : Addr) (p2 : Int32) (p3 : Int32) (w4 : Addr) (kB : ClassId) (vs : List Value) (i : Nat) (h0 : Heap) (n0 : Nat) (v : Option Value) (h : Heap) (L : List Loc) : Prop := v = none ∧ Fr n0 L ∧ Keep h0 h [w4] ∧ Arv Z h w4 kB .byte (256 : Int32) (own_s4 vs i p3) (.int (0 : Int32))
set_option maxRecDepth 65536 in
set_option maxHeartbeats 40000000 in
theorem rm5 (l : Launch) (Z : State) (a0 : Array Value) (hw : ∀ d ∈ tables_1, d.before a0 Z = true) (ws : List Jvm.Cond) (a1 : Addr) (p2 : Int32) (p3 : Int32) (w4 : Addr) (kB : ClassId) (vs : List Value) (i : Nat) (h0 : Heap) (n0 : Nat) (Z0 : n0 ≤ h0.size) (F_bytes_a1 : Fld Z h0 a1 "com/example/acqueue/acqueue/WireWriter" "bytes" "[B" (.ref w4)) (V0 : Arv Z h0 w4 kB .byte (256 : Int32) vs (.int (0 : Int32))) (E_a1 : Exa Z h0 a1 "com/example/acqueue/acqueue/WireWriter") (hi : p2.toInt = (i : Int)) (h8 : vs.length = 8) (hi8 : i + 3 < 8) (g_w4 : n0 ≤ w4) :
    MetFree l (⟨"com/example/acqueue/acqueue/WireWriter", "putInt32", "(II)V"⟩ : MethodName) (head1 (Jvm.Cond.code (⟨"com/example/acqueue/acqueue/WireWriter", "putInt32", "(II)V"⟩ : MethodName) prog_38_method_18_code 3 none :: ws) ({ frames := 0, cells := 0, slots := 0, locals := 0 } : Room)) (fun a U => a = #[(.ref a1), (.int p2), (.int p3)] ∧ Z.Warmed39 U.vm ∧ U.heap = h0) (fun _ _ _ _ _ => True) (fun _ U o U' => ∃ v L, o = .returned v ∧ Q5 Z a1 p2 p3 w4 kB vs i h0 n0 v U'.heap L ∧ FrameEnd U o U' L ({ frames := 0, cells := 0, slots := 0, locals := 0 } : Room).cells ({ frames := 0, cells := 0, slots := 0, locals := 0 } : Room).slots) := by
  refine MetFree.of_bodySF (plainFor_of_name pn_5) hisR ?_
  intro p e s m args below meth c s₁ Bd hml0 hP hK
  obtain ⟨rfl, hZ, hh⟩ := hP
  have hx := Bd.exec
  have hby := Bd.bytes
  have hml : c.maxLocals = 3 := hml0
  have hown : s.vm.findClass "com/example/acqueue/acqueue/WireWriter" = some m.cls := findClass_of_methodNamed Bd.named
  have hnm := (name_of_methodNamed Bd.named Bd.method).1
  have X0 : Stand p l e ({ frames := 0, cells := 0, slots := 0, locals := 0 } : Room) s m #[(.ref a1), (.int p2), (.int p3)] below meth c s₁ [] 0 0 := Stand.of_body Bd
  have e0 : s₁.heap = h0 := by rw [← hh, Bd.state]; rfl
  have N0 := Fr.nil n0
  have pre0 : ∀ t, Steps p.tables e below (s₁.setTop (mkF m 0 #[.val (.ref a1), .val (.int p2), .val (.int p3)] [])) t → Steps p.tables e below (s₁.setTop (entryFrame m #[(.ref a1), (.int p2), (.int p3)] 3)) t := fun t k => castTop (ef_5 m a1 p2 p3) k
  have hne : a1 ≠ w4 := by
    obtain ⟨cl0, Ar0, q0, S0, M0, H0, G0⟩ := V0
    exact ne_arr E_a1 (hw _ (List.mem_of_getElem? (i := 1) rfl)) Ar0
  obtain ⟨T5, X5, e5, st5⟩ := getF X0 hx hZ hown (host := "") (Or.inl (hw _ (List.mem_of_getElem? (i := 10) rfl))) Via.refl e0 F_bytes_a1 (g := (mkF m 1 #[.val (.ref a1), .val (.int p2), .val (.int p3)] [(.ref a1)])) rfl rfl (hb hby d5_1)
  obtain ⟨cl_w4, Ar_w4, q_w4, S_w4, M_w4, H_w4, G_w4⟩ := V0
  have hin10 : ¬ (p2 < 0 ∨ cl_w4.slots.size ≤ (p2).toNatClampNeg) := inb_of S_w4 (own_bd hi (by omega))
  obtain ⟨T6, h6, X6, e6, W6, st6⟩ := stB X5 hx hZ e5 Ar_w4 (j := p2) hin10 (g := (mkF m 10 #[.val (.ref a1), .val (.int p2), .val (.int p3)] [(.int (((p3.toUInt32 >>> ((24 : Int32) &&& 31).toUInt32).toInt32).toInt8.toInt32)), (.int p2), (.ref w4)])) rfl rfl (hb hby d5_10)
  have V6 := Arv.set Ar_w4 q_w4 S_w4 M_w4 H_w4 G_w4 (fits_nar_byte _) W6 (i) (own_ix hi) (by omega)
  have N6 := Fr.snoc X6 N0 g_w4
  have K6 : Keep h0 h6 [w4] := (Keep.refl h0 [w4]).wr W6 (Or.inl (List.mem_of_getElem? (i := 0) rfl))
  obtain ⟨T7, X7, e7, st7⟩ := getF X6 hx hZ hown (host := "") (Or.inl (hw _ (List.mem_of_getElem? (i := 10) rfl))) Via.refl e6 (F_bytes_a1.other W6 (Or.inl hne)) (g := (mkF m 12 #[.val (.ref a1), .val (.int p2), .val (.int p3)] [(.ref a1)])) rfl rfl (hb hby d5_12)
  obtain ⟨cl_w4, Ar_w4, q_w4, S_w4, M_w4, H_w4, G_w4⟩ := V6
  have hin23 : ¬ ((p2 + (1 : Int32)) < 0 ∨ cl_w4.slots.size ≤ ((p2 + (1 : Int32))).toNatClampNeg) := inb_of S_w4 (own_bd (own_st hi (by omega) (1 : Int32) 1 (by decide) (by decide)) (by omega))
  obtain ⟨T8, h8, X8, e8, W8, st8⟩ := stB X7 hx hZ e7 Ar_w4 (j := (p2 + (1 : Int32))) hin23 (g := (mkF m 23 #[.val (.ref a1), .val (.int p2), .val (.int p3)] [(.int (((p3.toUInt32 >>> ((16 : Int32) &&& 31).toUInt32).toInt32).toInt8.toInt32)), (.int (p2 + (1 : Int32))), (.ref w4)])) rfl rfl (hb hby d5_23)
  have V8 := Arv.set Ar_w4 q_w4 S_w4 M_w4 H_w4 G_w4 (fits_nar_byte _) W8 (i + 1) (own_ix (own_st hi (by omega) (1 : Int32) 1 (by decide) (by decide))) (by rw [List.length_set]; omega)
  have N8 := Fr.snoc X8 N6 g_w4
  have K8 : Keep h0 h8 [w4] := K6.wr W8 (Or.inl (List.mem_of_getElem? (i := 0) rfl))
  obtain ⟨T9, X9, e9, st9⟩ := getF X8 hx hZ hown (host := "") (Or.inl (hw _ (List.mem_of_getElem? (i := 10) rfl))) Via.refl e8 ((F_bytes_a1.other W6 (Or.inl hne)).other W8 (Or.inl hne)) (g := (mkF m 25 #[.val (.ref a1), .val (.int p2), .val (.int p3)] [(.ref a1)])) rfl rfl (hb hby d5_25)
  obtain ⟨cl_w4, Ar_w4, q_w4, S_w4, M_w4, H_w4, G_w4⟩ := V8
  have hin36 : ¬ ((p2 + (2 : Int32)) < 0 ∨ cl_w4.slots.size ≤ ((p2 + (2 : Int32))).toNatClampNeg) := inb_of S_w4 (own_bd (own_st hi (by omega) (2 : Int32) 2 (by decide) (by decide)) (by omega))
  obtain ⟨T10, h10, X10, e10, W10, st10⟩ := stB X9 hx hZ e9 Ar_w4 (j := (p2 + (2 : Int32))) hin36 (g := (mkF m 36 #[.val (.ref a1), .val (.int p2), .val (.int p3)] [(.int (((p3.toUInt32 >>> ((8 : Int32) &&& 31).toUInt32).toInt32).toInt8.toInt32)), (.int (p2 + (2 : Int32))), (.ref w4)])) rfl rfl (hb hby d5_36)
  have V10 := Arv.set Ar_w4 q_w4 S_w4 M_w4 H_w4 G_w4 (fits_nar_byte _) W10 (i + 2) (own_ix (own_st hi (by omega) (2 : Int32) 2 (by decide) (by decide))) (by rw [List.length_set, List.length_set]; omega)
  have N10 := Fr.snoc X10 N8 g_w4
  have K10 : Keep h0 h10 [w4] := K8.wr W10 (Or.inl (List.mem_of_getElem? (i := 0) rfl))
  obtain ⟨T11, X11, e11, st11⟩ := getF X10 hx hZ hown (host := "") (Or.inl (hw _ (List.mem_of_getElem? (i := 10) rfl))) Via.refl e10 (((F_bytes_a1.other W6 (Or.inl hne)).other W8 (Or.inl hne)).other W10 (Or.inl hne)) (g := (mkF m 38 #[.val (.ref a1), .val (.int p2), .val (.int p3)] [(.ref a1)])) rfl rfl (hb hby d5_38)
  obtain ⟨cl_w4, Ar_w4, q_w4, S_w4, M_w4, H_w4, G_w4⟩ := V10
  have hin46 : ¬ ((p2 + (3 : Int32)) < 0 ∨ cl_w4.slots.size ≤ ((p2 + (3 : Int32))).toNatClampNeg) := inb_of S_w4 (own_bd (own_st hi (by omega) (3 : Int32) 3 (by decide) (by decide)) (by omega))
  obtain ⟨T12, h12, X12, e12, W12, st12⟩ := stB X11 hx hZ e11 Ar_w4 (j := (p2 + (3 : Int32))) hin46 (g := (mkF m 46 #[.val (.ref a1), .val (.int p2), .val (.int p3)] [(.int (p3.toInt8.toInt32)), (.int (p2 + (3 : Int32))), (.ref w4)])) rfl rfl (hb hby d5_46)
  have V12 := Arv.set Ar_w4 q_w4 S_w4 M_w4 H_w4 G_w4 (fits_nar_byte _) W12 (i + 3) (own_ix (own_st hi (by omega) (3 : Int32) 3 (by decide) (by decide))) (by rw [List.length_set, List.length_set, List.length_set]; omega)
  have N12 := Fr.snoc X12 N10 g_w4
  have K12 : Keep h0 h12 [w4] := K10.wr W12 (Or.inl (List.mem_of_getElem? (i := 0) rfl))
  obtain ⟨fs, hr, hrun, hended, hW, hsame⟩ := X12.leave (v := none) (fun _ => rfl)
  refine ⟨_, _, pre0 _ ?_, hrun, hended, _, _, rfl, ?_, ⟨_, rfl⟩, hW, hsame.mono (by decide) (by decide)⟩
  · show Steps p.tables e below (s₁.setTop (mkF m 0 #[.val (.ref a1), .val (.int p2), .val (.int p3)] [])) _
    refine XS.aloadN X0.here hx rfl (hb hby d5_0) rfl rfl ?_
    show Steps p.tables e below (s₁.setTop (mkF m 1 #[.val (.ref a1), .val (.int p2), .val (.int p3)] [(.ref a1)])) _
    refine st5 _ ?_
    show Steps p.tables e below (T5.setTop (mkF m 4 #[.val (.ref a1), .val (.int p2), .val (.int p3)] [(.ref w4)])) _
    refine XS.iloadN X5.here hx rfl (hb hby d5_4) rfl ?_
    show Steps p.tables e below (T5.setTop (mkF m 5 #[.val (.ref a1), .val (.int p2), .val (.int p3)] [(.int p2), (.ref w4)])) _
    refine XS.iloadN X5.here hx rfl (hb hby d5_5) rfl ?_
    show Steps p.tables e below (T5.setTop (mkF m 6 #[.val (.ref a1), .val (.int p2), .val (.int p3)] [(.int p3), (.int p2), (.ref w4)])) _
    refine XS.bipush X5.here hx rfl (hb hby d5_6) ?_
    show Steps p.tables e below (T5.setTop (mkF m 8 #[.val (.ref a1), .val (.int p2), .val (.int p3)] [(.int (24 : Int32)), (.int p3), (.int p2), (.ref w4)])) _
    refine XS.iushr X5.here hx rfl (hb hby d5_8) rfl ?_
    show Steps p.tables e below (T5.setTop (mkF m 9 #[.val (.ref a1), .val (.int p2), .val (.int p3)] [(.int ((p3.toUInt32 >>> ((24 : Int32) &&& 31).toUInt32).toInt32)), (.int p2), (.ref w4)])) _
    refine XS.i2b X5.here hx rfl (hb hby d5_9) rfl ?_
    show Steps p.tables e below (T5.setTop (mkF m 10 #[.val (.ref a1), .val (.int p2), .val (.int p3)] [(.int (((p3.toUInt32 >>> ((24 : Int32) &&& 31).toUInt32).toInt32).toInt8.toInt32)), (.int p2), (.ref w4)])) _
    refine st6 _ ?_
    show Steps p.tables e below (T6.setTop (mkF m 11 #[.val (.ref a1), .val (.int p2), .val (.int p3)] [])) _
    refine XS.aloadN X6.here hx rfl (hb hby d5_11) rfl rfl ?_
    show Steps p.tables e below (T6.setTop (mkF m 12 #[.val (.ref a1), .val (.int p2), .val (.int p3)] [(.ref a1)])) _
    refine st7 _ ?_
    show Steps p.tables e below (T7.setTop (mkF m 15 #[.val (.ref a1), .val (.int p2), .val (.int p3)] [(.ref w4)])) _
    refine XS.iloadN X7.here hx rfl (hb hby d5_15) rfl ?_
    show Steps p.tables e below (T7.setTop (mkF m 16 #[.val (.ref a1), .val (.int p2), .val (.int p3)] [(.int p2), (.ref w4)])) _
    refine XS.iconst X7.here hx rfl (hb hby d5_16) ?_
    show Steps p.tables e below (T7.setTop (mkF m 17 #[.val (.ref a1), .val (.int p2), .val (.int p3)] [(.int (1 : Int32)), (.int p2), (.ref w4)])) _
    refine XS.iadd X7.here hx rfl (hb hby d5_17) rfl ?_
    show Steps p.tables e below (T7.setTop (mkF m 18 #[.val (.ref a1), .val (.int p2), .val (.int p3)] [(.int (p2 + (1 : Int32))), (.ref w4)])) _
    refine XS.iloadN X7.here hx rfl (hb hby d5_18) rfl ?_
    show Steps p.tables e below (T7.setTop (mkF m 19 #[.val (.ref a1), .val (.int p2), .val (.int p3)] [(.int p3), (.int (p2 + (1 : Int32))), (.ref w4)])) _
    refine XS.bipush X7.here hx rfl (hb hby d5_19) ?_
    show Steps p.tables e below (T7.setTop (mkF m 21 #[.val (.ref a1), .val (.int p2), .val (.int p3)] [(.int (16 : Int32)), (.int p3), (.int (p2 + (1 : Int32))), (.ref w4)])) _
    refine XS.iushr X7.here hx rfl (hb hby d5_21) rfl ?_
    show Steps p.tables e below (T7.setTop (mkF m 22 #[.val (.ref a1), .val (.int p2), .val (.int p3)] [(.int ((p3.toUInt32 >>> ((16 : Int32) &&& 31).toUInt32).toInt32)), (.int (p2 + (1 : Int32))), (.ref w4)])) _
    refine XS.i2b X7.here hx rfl (hb hby d5_22) rfl ?_
    show Steps p.tables e below (T7.setTop (mkF m 23 #[.val (.ref a1), .val (.int p2), .val (.int p3)] [(.int (((p3.toUInt32 >>> ((16 : Int32) &&& 31).toUInt32).toInt32).toInt8.toInt32)), (.int (p2 + (1 : Int32))), (.ref w4)])) _
    refine st8 _ ?_
    show Steps p.tables e below (T8.setTop (mkF m 24 #[.val (.ref a1), .val (.int p2), .val (.int p3)] [])) _
    refine XS.aloadN X8.here hx rfl (hb hby d5_24) rfl rfl ?_
    show Steps p.tables e below (T8.setTop (mkF m 25 #[.val (.ref a1), .val (.int p2), .val (.int p3)] [(.ref a1)])) _
    refine st9 _ ?_
    show Steps p.tables e below (T9.setTop (mkF m 28 #[.val (.ref a1), .val (.int p2), .val (.int p3)] [(.ref w4)])) _
    refine XS.iloadN X9.here hx rfl (hb hby d5_28) rfl ?_
    show Steps p.tables e below (T9.setTop (mkF m 29 #[.val (.ref a1), .val (.int p2), .val (.int p3)] [(.int p2), (.ref w4)])) _
    refine XS.iconst X9.here hx rfl (hb hby d5_29) ?_
    show Steps p.tables e below (T9.setTop (mkF m 30 #[.val (.ref a1), .val (.int p2), .val (.int p3)] [(.int (2 : Int32)), (.int p2), (.ref w4)])) _
    refine XS.iadd X9.here hx rfl (hb hby d5_30) rfl ?_
    show Steps p.tables e below (T9.setTop (mkF m 31 #[.val (.ref a1), .val (.int p2), .val (.int p3)] [(.int (p2 + (2 : Int32))), (.ref w4)])) _
    refine XS.iloadN X9.here hx rfl (hb hby d5_31) rfl ?_
    show Steps p.tables e below (T9.setTop (mkF m 32 #[.val (.ref a1), .val (.int p2), .val (.int p3)] [(.int p3), (.int (p2 + (2 : Int32))), (.ref w4)])) _
    refine XS.bipush X9.here hx rfl (hb hby d5_32) ?_
    show Steps p.tables e below (T9.setTop (mkF m 34 #[.val (.ref a1), .val (.int p2), .val (.int p3)] [(.int (8 : Int32)), (.int p3), (.int (p2 + (2 : Int32))), (.ref w4)])) _
    refine XS.iushr X9.here hx rfl (hb hby d5_34) rfl ?_
    show Steps p.tables e below (T9.setTop (mkF m 35 #[.val (.ref a1), .val (.int p2), .val (.int p3)] [(.int ((p3.toUInt32 >>> ((8 : Int32) &&& 31).toUInt32).toInt32)), (.int (p2 + (2 : Int32))), (.ref w4)])) _
    refine XS.i2b X9.here hx rfl (hb hby d5_35) rfl ?_
    show Steps p.tables e below (T9.setTop (mkF m 36 #[.val (.ref a1), .val (.int p2), .val (.int p3)] [(.int (((p3.toUInt32 >>> ((8 : Int32) &&& 31).toUInt32).toInt32).toInt8.toInt32)), (.int (p2 + (2 : Int32))), (.ref w4)])) _
    refine st10 _ ?_
    show Steps p.tables e below (T10.setTop (mkF m 37 #[.val (.ref a1), .val (.int p2), .val (.int p3)] [])) _
    refine XS.aloadN X10.here hx rfl (hb hby d5_37) rfl rfl ?_
    show Steps p.tables e below (T10.setTop (mkF m 38 #[.val (.ref a1), .val (.int p2), .val (.int p3)] [(.ref a1)])) _
    refine st11 _ ?_
    show Steps p.tables e below (T11.setTop (mkF m 41 #[.val (.ref a1), .val (.int p2), .val (.int p3)] [(.ref w4)])) _
    refine XS.iloadN X11.here hx rfl (hb hby d5_41) rfl ?_
    show Steps p.tables e below (T11.setTop (mkF m 42 #[.val (.ref a1), .val (.int p2), .val (.int p3)] [(.int p2), (.ref w4)])) _
    refine XS.iconst X11.here hx rfl (hb hby d5_42) ?_
    show Steps p.tables e below (T11.setTop (mkF m 43 #[.val (.ref a1), .val (.int p2), .val (.int p3)] [(.int (3 : Int32)), (.int p2), (.ref w4)])) _
    refine XS.iadd X11.here hx rfl (hb hby d5_43) rfl ?_
    show Steps p.tables e below (T11.setTop (mkF m 44 #[.val (.ref a1), .val (.int p2), .val (.int p3)] [(.int (p2 + (3 : Int32))), (.ref w4)])) _
    refine XS.iloadN X11.here hx rfl (hb hby d5_44) rfl ?_
    show Steps p.tables e below (T11.setTop (mkF m 45 #[.val (.ref a1), .val (.int p2), .val (.int p3)] [(.int p3), (.int (p2 + (3 : Int32))), (.ref w4)])) _
    refine XS.i2b X11.here hx rfl (hb hby d5_45) rfl ?_
    show Steps p.tables e below (T11.setTop (mkF m 46 #[.val (.ref a1), .val (.int p2), .val (.int p3)] [(.int (p3.toInt8.toInt32)), (.int (p2 + (3 : Int32))), (.ref w4)])) _
    refine st12 _ ?_
    show Steps p.tables e below (T12.setTop (mkF m 47 #[.val (.ref a1), .val (.int p2), .val (.int p3)] [])) _
    exact X12.returnOut hx Bd.returns (hb hby d5_47) hr
  · show Q5 Z a1 p2 p3 w4 kB vs i h0 n0 _ T12.heap _
    rw [e12]
    exact ⟨rfl, N12, K12, V12⟩
def own_min (p1 : Int32) (p2 : Int32) : Int32 := if p2 < p1 then p2 else p1
theorem d8_0 : decode jdk_29_method_69_code 0 = .ok (.iload_n 0, 1) := by decide +kernel
theorem d8_1 : decode jdk_29_method_69_code 1 = .ok (.iload_n 1, 1) := by decide +kernel
theorem d8_2 : decode jdk_29_method_69_code 2 = .ok (.if_icmp .gt 7, 3) := by decide +kernel
theorem d8_5 : decode jdk_29_method_69_code 5 = .ok (.iload_n 0, 1) := by decide +kernel
theorem d8_6 : decode jdk_29_method_69_code 6 = .ok (.goto 4, 3) := by decide +kernel
theorem d8_9 : decode jdk_29_method_69_code 9 = .ok (.iload_n 1, 1) := by decide +kernel
theorem d8_10 : decode jdk_29_method_69_code 10 = .ok (.ireturn, 1) := by decide +kernel
theorem ef_8 (m : MethodId) (x0 : Int32) (x1 : Int32) : entryFrame m #[(.int x0), (.int x1)] 2 = mkF m 0 #[.val (.int x0), .val (.int x1)] [] := by first | (simp [entryFrame, mkF, argsToLocals, Value.category]; done) | rfl
def Q8 (Z : State) (p1 : Int32) (p2 : Int32) (h0 : Heap) (n0 : Nat) (v : Option Value) (h : Heap) (L : List Loc) : Prop := v = some (.int (own_min p1 p2)) ∧ Fr n0 L ∧ h = h0
set_option maxRecDepth 65536 in
set_option maxHeartbeats 40000000 in
theorem rm8 (l : Launch) (Z : State) (a0 : Array Value) (hw : ∀ d ∈ tables_1, d.before a0 Z = true) (ws : List Jvm.Cond) (p1 : Int32) (p2 : Int32) (h0 : Heap) (n0 : Nat) (Z0 : n0 ≤ h0.size) :
    MetFree l (⟨"java/lang/Math", "min", "(II)I"⟩ : MethodName) (head1 (Jvm.Cond.code (⟨"java/lang/Math", "min", "(II)I"⟩ : MethodName) jdk_29_method_69_code 2 (some .int) :: ws) ({ frames := 0, cells := 0, slots := 0, locals := 0 } : Room)) (fun a U => a = #[(.int p1), (.int p2)] ∧ Z.Warmed39 U.vm ∧ U.heap = h0) (fun _ _ _ _ _ => True) (fun _ U o U' => ∃ v L, o = .returned v ∧ Q8 Z p1 p2 h0 n0 v U'.heap L ∧ FrameEnd U o U' L ({ frames := 0, cells := 0, slots := 0, locals := 0 } : Room).cells ({ frames := 0, cells := 0, slots := 0, locals := 0 } : Room).slots) := by
  refine MetFree.of_bodySF (Jvm.Free.JP.mathPlain rfl (by decide +kernel)) hisR ?_
  intro p e s m args below meth c s₁ Bd hml0 hP hK
  obtain ⟨rfl, hZ, hh⟩ := hP
  have hx := Bd.exec
  have hby := Bd.bytes
  have hml : c.maxLocals = 2 := hml0
  have hown : s.vm.findClass "java/lang/Math" = some m.cls := findClass_of_methodNamed Bd.named
  have hnm := (name_of_methodNamed Bd.named Bd.method).1
  have X0 : Stand p l e ({ frames := 0, cells := 0, slots := 0, locals := 0 } : Room) s m #[(.int p1), (.int p2)] below meth c s₁ [] 0 0 := Stand.of_body Bd
  have e0 : s₁.heap = h0 := by rw [← hh, Bd.state]; rfl
  have N0 := Fr.nil n0
  have pre0 : ∀ t, Steps p.tables e below (s₁.setTop (mkF m 0 #[.val (.int p1), .val (.int p2)] [])) t → Steps p.tables e below (s₁.setTop (entryFrame m #[(.int p1), (.int p2)] 2)) t := fun t k => castTop (ef_8 m p1 p2) k
  obtain ⟨fs, hr, hrun, hended, hW, hsame⟩ := X0.leave (v := some (.int (own_min p1 p2))) (fun h => by rw [Bd.returns] at h; cases h)
  refine ⟨_, _, pre0 _ ?_, hrun, hended, _, _, rfl, ?_, ⟨_, rfl⟩, hW, hsame.mono (by decide) (by decide)⟩
  · show Steps p.tables e below (s₁.setTop (mkF m 0 #[.val (.int p1), .val (.int p2)] [])) _
    refine XS.iloadN X0.here hx rfl (hb hby d8_0) rfl ?_
    show Steps p.tables e below (s₁.setTop (mkF m 1 #[.val (.int p1), .val (.int p2)] [(.int p1)])) _
    refine XS.iloadN X0.here hx rfl (hb hby d8_1) rfl ?_
    show Steps p.tables e below (s₁.setTop (mkF m 2 #[.val (.int p1), .val (.int p2)] [(.int p2), (.int p1)])) _
    by_cases hc2 : p2 < p1
    · refine XS.icmpYes X0.here hx rfl (pc0 := 2) (pc' := 9) rfl (hb hby d8_2) rfl (tlt hc2).2.2.1 (by decide) (by decide) ?_
      show Steps p.tables e below (s₁.setTop (mkF m 9 #[.val (.int p1), .val (.int p2)] [])) _
      refine XS.iloadN X0.here hx rfl (hb hby d8_9) rfl ?_
      show Steps p.tables e below (s₁.setTop (mkF m 10 #[.val (.int p1), .val (.int p2)] [(.int p2)])) _
      have hv : (own_min p1 p2) = p2 := by unfold own_min; rw [if_pos hc2]
      rw [hv] at hr
      exact retI X0 hx Bd.returns (hb hby d8_10) hr
    · refine XS.icmpNo X0.here hx rfl (hb hby d8_2) rfl (flt hc2).2.2.1 ?_
      show Steps p.tables e below (s₁.setTop (mkF m 5 #[.val (.int p1), .val (.int p2)] [])) _
      refine XS.iloadN X0.here hx rfl (hb hby d8_5) rfl ?_
      show Steps p.tables e below (s₁.setTop (mkF m 6 #[.val (.int p1), .val (.int p2)] [(.int p1)])) _
      refine XS.goto X0.here hx rfl (pc0 := 6) (pc' := 10) rfl (hb hby d8_6) (by decide) (by decide) ?_
      show Steps p.tables e below (s₁.setTop (mkF m 10 #[.val (.int p1), .val (.int p2)] [(.int p1)])) _
      have hv : (own_min p1 p2) = p1 := by unfold own_min; rw [if_neg hc2]
      rw [hv] at hr
      exact retI X0 hx Bd.returns (hb hby d8_10) hr
  · show Q8 Z p1 p2 h0 n0 _ s₁.heap _
    rw [e0]
    exact ⟨rfl, N0, rfl⟩

theorem own_ac {Z s : State} {a0 args : Array Value} (hZ : Z.Warmed39 s.vm) (h1 : (Jvm.Cond.methodLink "java/util/Arrays" 150 Jvm.Stand.acN).before a0 Z = true) (h2 : (Jvm.Cond.native Jvm.Stand.acN).before a0 Z = true) (h3 : (Jvm.Cond.static Jvm.Stand.acN).before a0 Z = true) (h4 : (Jvm.Cond.initialized "java/lang/System").before a0 Z = true) :
    ∀ w ∈ Jvm.Free.XT.acW "java/util/Arrays" 150, w.before args s = true := by
  intro w hw
  simp only [Jvm.Free.XT.acW, List.mem_cons, List.not_mem_nil, or_false] at hw
  rcases hw with rfl | rfl | rfl | rfl
  · exact mvT hZ h1
  · exact mvT hZ h2
  · exact mvT hZ h3
  · exact mvT hZ h4
theorem own_arr {p : Program} {l : Launch} {e : Env} {R : Room} {s : State} {m : MethodId} {args : Array Value} {below : List Frame} {meth : Method} {c : Code} {T : State} {locs : List Loc} {cells slots : Nat} {Z : State} {h : Heap} {a : Addr} {cl : Cell} {ty : FieldType} (hZ : Z.Warmed39 s.vm) (X : Stand p l e R s m args below meth c T locs cells slots) (A : Arr Z h a cl ty) (e : T.heap = h) (hs : cl.slots.size < 2 ^ 31) : Jvm.Free.XT.Arr ty a cl T :=
  ⟨by rw [e]; exact A.1, State.isArrayOf_alike (hZ.alike.trans X.warmed.alike) A.2.1, A.2.2, hs⟩
theorem own_goes {cl B : Cell} {ty : FieldType} {vs : List Value} {d : Value} {T : State} {n : Nat} (hr : ty.isReference = false) (H : Has cl vs d) (G : ∀ i, i < cl.slots.size → fits ty (vs.getD i d) = true) (hn : n ≤ cl.slots.size) : Jvm.Free.XT.Goes ty cl 0 n B T := fun i hi => by
  have hlt : 0 + i < cl.slots.size := by omega
  have q := H (0 + i) hlt
  refine ⟨?_, fun hh => by rw [hr] at hh; cases hh⟩
  rw [Array.getD_eq_getD_getElem?, q]
  exact G _ hlt
theorem own_isA {Z : State} {A B : Cell} {ty : FieldType} (h : B.cls = A.cls) (hA : Z.isArrayOf A ty) (hv : B.vm = A.vm) : Z.isArrayOf B ty := by
  unfold State.isArrayOf at hA ⊢
  rw [h, hv]
  exact hA
theorem d7_0 : decode jdk_65_method_121_code 0 = .ok (.iload_n 1, 1) := by decide +kernel
theorem d7_1 : decode jdk_65_method_121_code 1 = .ok (.aload_n 0, 1) := by decide +kernel
theorem d7_2 : decode jdk_65_method_121_code 2 = .ok (.arraylength, 1) := by decide +kernel
theorem d7_3 : decode jdk_65_method_121_code 3 = .ok (.if_icmp .ne 11, 3) := by decide +kernel
theorem d7_14 : decode jdk_65_method_121_code 14 = .ok (.iload_n 1, 1) := by decide +kernel
theorem d7_15 : decode jdk_65_method_121_code 15 = .ok (.newarray .byte, 2) := by decide +kernel
theorem d7_17 : decode jdk_65_method_121_code 17 = .ok (.astore_n 2, 1) := by decide +kernel
theorem d7_18 : decode jdk_65_method_121_code 18 = .ok (.aload_n 0, 1) := by decide +kernel
theorem d7_19 : decode jdk_65_method_121_code 19 = .ok (.iconst 0, 1) := by decide +kernel
theorem d7_20 : decode jdk_65_method_121_code 20 = .ok (.aload_n 2, 1) := by decide +kernel
theorem d7_21 : decode jdk_65_method_121_code 21 = .ok (.iconst 0, 1) := by decide +kernel
theorem d7_22 : decode jdk_65_method_121_code 22 = .ok (.aload_n 0, 1) := by decide +kernel
theorem d7_23 : decode jdk_65_method_121_code 23 = .ok (.arraylength, 1) := by decide +kernel
theorem d7_24 : decode jdk_65_method_121_code 24 = .ok (.iload_n 1, 1) := by decide +kernel
theorem d7_25 : decode jdk_65_method_121_code 25 = .ok (.invokestatic 304, 3) := by decide +kernel
theorem d7_28 : decode jdk_65_method_121_code 28 = .ok (.invokestatic 150, 3) := by decide +kernel
theorem d7_31 : decode jdk_65_method_121_code 31 = .ok (.aload_n 2, 1) := by decide +kernel
theorem d7_32 : decode jdk_65_method_121_code 32 = .ok (.areturn, 1) := by decide +kernel
theorem pn_7 : plainName "java/util/Arrays" = true := by first | (simp [plainName, overriddenIn]; done) | decide +kernel
theorem pd_7_6 : parseMethodDescriptor "(II)I" = some ⟨[.int, .int], some .int⟩ := by decide +kernel
theorem ef_7 (m : MethodId) (x0 : Addr) (x1 : Int32) : entryFrame m #[(.ref x0), (.int x1)] 3 = mkF m 0 #[.val (.ref x0), .val (.int x1), .unset] [] := by first | (simp [entryFrame, mkF, argsToLocals, Value.category]; done) | rfl
def Q7 (Z : State) (a1 : Addr) (p2 : Int32) (kA : ClassId) (vs : List Value) (z_a1 : Int32) (h0 : Heap) (n0 : Nat) (v : Option Value) (h : Heap) (L : List Loc) : Prop := ∃ (b : Addr) (k : ClassId), v = some (.ref b) ∧ Fr n0 L ∧ Keep h0 h [] ∧ Arv Z h b k .byte (8 : Int32) vs (.int (0 : Int32))
set_option maxRecDepth 65536 in
set_option maxHeartbeats 40000000 in
theorem rm7 (l : Launch) (Z : State) (a0 : Array Value) (hw : ∀ d ∈ tables_1, d.before a0 Z = true) (ws : List Jvm.Cond) (a1 : Addr) (p2 : Int32) (kA : ClassId) (vs : List Value) (z_a1 : Int32) (h0 : Heap) (n0 : Nat) (Z0 : n0 ≤ h0.size) (V0 : Arv Z h0 a1 kA .byte z_a1 vs (.int (0 : Int32))) (hz : z_a1 = (256 : Int32)) (hp : p2 = (8 : Int32)) (h8 : vs.length = 8) (hc3 : ¬ (p2 = z_a1)) :
    MetFree l (⟨"java/util/Arrays", "copyOf", "([BI)[B"⟩ : MethodName) (head1 (Jvm.Cond.code (⟨"java/util/Arrays", "copyOf", "([BI)[B"⟩ : MethodName) jdk_65_method_121_code 3 (some (.array .byte)) :: ws) ({ frames := 1, cells := 1, slots := 8, locals := 40 } : Room)) (fun a U => a = #[(.ref a1), (.int p2)] ∧ Z.Warmed39 U.vm ∧ U.heap = h0) (fun _ _ _ _ _ => True) (fun _ U o U' => ∃ v L, o = .returned v ∧ Q7 Z a1 p2 kA vs z_a1 h0 n0 v U'.heap L ∧ FrameEnd U o U' L ({ frames := 1, cells := 1, slots := 8, locals := 40 } : Room).cells ({ frames := 1, cells := 1, slots := 8, locals := 40 } : Room).slots) := by
  refine MetFree.of_bodySF (plainFor_of_name pn_7) hisR ?_
  intro p e s m args below meth c s₁ Bd hml0 hP hK
  obtain ⟨rfl, hZ, hh⟩ := hP
  have hx := Bd.exec
  have hby := Bd.bytes
  have hml : c.maxLocals = 3 := hml0
  have hown : s.vm.findClass "java/util/Arrays" = some m.cls := findClass_of_methodNamed Bd.named
  have hnm := (name_of_methodNamed Bd.named Bd.method).1
  have X0 : Stand p l e ({ frames := 1, cells := 1, slots := 8, locals := 40 } : Room) s m #[(.ref a1), (.int p2)] below meth c s₁ [] 0 0 := Stand.of_body Bd
  have e0 : s₁.heap = h0 := by rw [← hh, Bd.state]; rfl
  have N0 := Fr.nil n0
  have pre0 : ∀ t, Steps p.tables e below (s₁.setTop (mkF m 0 #[.val (.ref a1), .val (.int p2), .unset] [])) t → Steps p.tables e below (s₁.setTop (entryFrame m #[(.ref a1), (.int p2)] 3)) t := fun t k => castTop (ef_7 m a1 p2) k
  have hneg : ¬ p2 < 0 := by rw [hp]; decide
  obtain ⟨cl_a1, Ar_a1, q_a1, S_a1, N_a1, H_a1, G_a1⟩ := V0
  obtain ⟨T3, h3, k3, X3, e3, E3, A3, st3⟩ := newP X0 hx hZ (hw _ (List.mem_of_getElem? (i := 9) rfl)) e0 (g := (mkF m 15 #[.val (.ref a1), .val (.int p2), .unset] [(.int p2)])) rfl (hb hby d7_15) rfl hneg (cap := 8) (by rw [hp]; decide) (by decide) (by decide) (by decide)
  obtain ⟨b3, g3⟩ : ∃ z, z = h0.size := ⟨_, rfl⟩
  rw [← g3] at A3 st3
  have V_b3 := Arv.new A3 hneg
  have g_b3 : n0 ≤ b3 := Nat.le_trans Z0 (Nat.le_of_eq g3.symm)
  have sz_b3 : h0.size ≤ b3 := (Nat.le_trans (Keep.refl h0 []).1 (Nat.le_of_eq g3.symm))
  have K3 : Keep h0 h3 [] := (Keep.refl h0 []).ext E3
  obtain ⟨_, _, ⟨T4, L4, k4, n4⟩, -, X4, ⟨Lc4, hQ4, l4, y4, z4⟩, st4⟩ := Jvm.LawKit.callS X3 hx (y := (⟨"java/lang/Math", "min", "(II)I"⟩ : MethodName)) hown (mvT hZ (hw _ (List.mem_of_getElem? (i := 40) rfl))) (mvT hZ (hw _ (List.mem_of_getElem? (i := 41) rfl))) (mvT hZ (hw _ (List.mem_of_getElem? (i := 42) rfl))) (mvT hZ (hw _ (List.mem_of_getElem? (i := 43) rfl))) (by decide) (backOf (W := 4) (rm8 l Z a0 hw [] z_a1 p2 h3 n0 (Nat.le_trans Z0 E3.1)) hZ (hw _ (List.mem_of_getElem? (i := 43) rfl)) (hw _ (List.mem_of_getElem? (i := 42) rfl)) (by decide) (by decide)) (g := (mkF m 25 #[.val (.ref a1), .val (.int p2), .val (.ref b3)] [(.int p2), (.int z_a1), (.int (0 : Int32)), (.ref b3), (.int (0 : Int32)), (.ref a1)])) rfl (by rw [hml]; rfl) (argsL := [(.int z_a1), (.int p2)]) (rest := [(.int (0 : Int32)), (.ref b3), (.int (0 : Int32)), (.ref a1)]) (lenOf pd_7_6 rfl) rfl (by show 2 * 0 + _ ≤ _; exact Nat.le_of_eq rfl) (hb hby d7_25) (fun _ _ => ⟨rfl, e3, (by decide : 1 + 0 ≤ _), (by decide : 8 + 0 ≤ _)⟩)
  dsimp only [Pt.U, Pt.locs, Pt.cells, Pt.slots] at X4 l4 y4 z4 st4 hQ4
  subst l4 y4 z4
  obtain ⟨rfl, N4q, hs4⟩ := hQ4
  have N4 := Fr.app N0 N4q
  obtain ⟨T5, B5, X5, P5, bc5, bv5, bs5, bg5, st5⟩ := X4.acopy hx (o := 0) (q := 0) (n := 8) hown (own_ac hZ (hw _ (List.mem_of_getElem? (i := 44) rfl)) (hw _ (List.mem_of_getElem? (i := 47) rfl)) (hw _ (List.mem_of_getElem? (i := 45) rfl)) (hw _ (List.mem_of_getElem? (i := 46) rfl))) (own_arr hZ X4 (Ar_a1.ext E3) hs4 (by rw [S_a1]; exact (back32 N_a1).2)) (own_arr hZ X4 A3 hs4 (by rw [sz_new]; exact (back32 hneg).2)) rfl rfl rfl (by rw [hz, hp]; decide) (by rw [S_a1, hz]; decide) (by rw [sz_new, hp]; decide) (own_goes rfl H_a1 G_a1 (by rw [S_a1, hz]; decide)) (g := (mkF m 28 #[.val (.ref a1), .val (.int p2), .val (.ref b3)] [(.int (own_min z_a1 p2)), (.int (0 : Int32)), (.ref b3), (.int (0 : Int32)), (.ref a1)])) rfl (by rw [hml]; rfl) (rest := []) rfl (hb hby d7_28) (W := 0) (by show 2 * 0 + 0 ≤ _; decide) (Nat.le_of_ble_eq_true rfl) (Nat.le_of_ble_eq_true rfl)
  obtain ⟨fs, hr, hrun, hended, hW, hsame⟩ := X5.leave (v := some (.ref b3)) (fun h => by rw [Bd.returns] at h; cases h)
  refine ⟨_, _, pre0 _ ?_, hrun, hended, _, _, rfl, ?_, ⟨_, rfl⟩, hW, hsame.mono (by decide) (by decide)⟩
  · show Steps p.tables e below (s₁.setTop (mkF m 0 #[.val (.ref a1), .val (.int p2), .unset] [])) _
    refine XS.iloadN X0.here hx rfl (hb hby d7_0) rfl ?_
    show Steps p.tables e below (s₁.setTop (mkF m 1 #[.val (.ref a1), .val (.int p2), .unset] [(.int p2)])) _
    refine XS.aloadN X0.here hx rfl (hb hby d7_1) rfl rfl ?_
    show Steps p.tables e below (s₁.setTop (mkF m 2 #[.val (.ref a1), .val (.int p2), .unset] [(.ref a1), (.int p2)])) _
    refine X0.arraylength hx (by rw [e0]; exact Ar_a1.1) (State.isArrayOf_alike hZ.alike Ar_a1.2.1) (g := (mkF m 2 #[.val (.ref a1), .val (.int p2), .unset] [(.ref a1), (.int p2)])) rfl rfl (hb hby d7_2) _ ?_
    rw [len_of S_a1 N_a1]
    show Steps p.tables e below (s₁.setTop (mkF m 3 #[.val (.ref a1), .val (.int p2), .unset] [(.int z_a1), (.int p2)])) _
    refine XS.icmpYes X0.here hx rfl (pc0 := 3) (pc' := 14) rfl (hb hby d7_3) rfl (feq hc3).2 (by decide) (by decide) ?_
    show Steps p.tables e below (s₁.setTop (mkF m 14 #[.val (.ref a1), .val (.int p2), .unset] [])) _
    refine XS.iloadN X0.here hx rfl (hb hby d7_14) rfl ?_
    show Steps p.tables e below (s₁.setTop (mkF m 15 #[.val (.ref a1), .val (.int p2), .unset] [(.int p2)])) _
    refine st3 _ ?_
    show Steps p.tables e below (T3.setTop (mkF m 17 #[.val (.ref a1), .val (.int p2), .unset] [(.ref b3)])) _
    refine XS.astoreN X3.here hx rfl (hb hby d7_17) rfl rfl (l' := #[.val (.ref a1), .val (.int p2), .val (.ref b3)]) rfl ?_
    show Steps p.tables e below (T3.setTop (mkF m 18 #[.val (.ref a1), .val (.int p2), .val (.ref b3)] [])) _
    refine XS.aloadN X3.here hx rfl (hb hby d7_18) rfl rfl ?_
    show Steps p.tables e below (T3.setTop (mkF m 19 #[.val (.ref a1), .val (.int p2), .val (.ref b3)] [(.ref a1)])) _
    refine XS.iconst X3.here hx rfl (hb hby d7_19) ?_
    show Steps p.tables e below (T3.setTop (mkF m 20 #[.val (.ref a1), .val (.int p2), .val (.ref b3)] [(.int (0 : Int32)), (.ref a1)])) _
    refine XS.aloadN X3.here hx rfl (hb hby d7_20) rfl rfl ?_
    show Steps p.tables e below (T3.setTop (mkF m 21 #[.val (.ref a1), .val (.int p2), .val (.ref b3)] [(.ref b3), (.int (0 : Int32)), (.ref a1)])) _
    refine XS.iconst X3.here hx rfl (hb hby d7_21) ?_
    show Steps p.tables e below (T3.setTop (mkF m 22 #[.val (.ref a1), .val (.int p2), .val (.ref b3)] [(.int (0 : Int32)), (.ref b3), (.int (0 : Int32)), (.ref a1)])) _
    refine XS.aloadN X3.here hx rfl (hb hby d7_22) rfl rfl ?_
    show Steps p.tables e below (T3.setTop (mkF m 23 #[.val (.ref a1), .val (.int p2), .val (.ref b3)] [(.ref a1), (.int (0 : Int32)), (.ref b3), (.int (0 : Int32)), (.ref a1)])) _
    refine X3.arraylength hx (by rw [e3]; exact E3.2 _ _ Ar_a1.1) (State.isArrayOf_alike hZ.alike Ar_a1.2.1) (g := (mkF m 23 #[.val (.ref a1), .val (.int p2), .val (.ref b3)] [(.ref a1), (.int (0 : Int32)), (.ref b3), (.int (0 : Int32)), (.ref a1)])) rfl rfl (hb hby d7_23) _ ?_
    rw [len_of S_a1 N_a1]
    show Steps p.tables e below (T3.setTop (mkF m 24 #[.val (.ref a1), .val (.int p2), .val (.ref b3)] [(.int z_a1), (.int (0 : Int32)), (.ref b3), (.int (0 : Int32)), (.ref a1)])) _
    refine XS.iloadN X3.here hx rfl (hb hby d7_24) rfl ?_
    show Steps p.tables e below (T3.setTop (mkF m 25 #[.val (.ref a1), .val (.int p2), .val (.ref b3)] [(.int p2), (.int z_a1), (.int (0 : Int32)), (.ref b3), (.int (0 : Int32)), (.ref a1)])) _
    refine st4 _ ?_
    show Steps p.tables e below (T4.setTop (mkF m 28 #[.val (.ref a1), .val (.int p2), .val (.ref b3)] [(.int (own_min z_a1 p2)), (.int (0 : Int32)), (.ref b3), (.int (0 : Int32)), (.ref a1)])) _
    refine st5 _ ?_
    show Steps p.tables e below (T5.setTop (mkF m 31 #[.val (.ref a1), .val (.int p2), .val (.ref b3)] [])) _
    refine XS.aloadN X5.here hx rfl (hb hby d7_31) rfl rfl ?_
    show Steps p.tables e below (T5.setTop (mkF m 32 #[.val (.ref a1), .val (.int p2), .val (.ref b3)] [(.ref b3)])) _
    jvm_step X5.here [X5.here.top, hx, (hb hby d7_32), X5.method', Bd.returns, Value.isRef, FieldType.isReference]
    first | (intro acts; rw [hr _ acts rfl rfl rfl]) | rw [hr _ _ rfl rfl rfl]
    exact Steps.refl _
  · show Q7 Z a1 p2 kA vs z_a1 h0 n0 _ T5.heap _
    have hc5 : ∀ j, j < 8 → B5.slots[j]? = some (vs.getD j (.int (0 : Int32))) := fun j hj => by
      have q := bg5 j
      rw [if_pos ⟨Nat.zero_le _, by omega⟩] at q
      have qq := H_a1 j (by rw [S_a1, hz]; have : (256 : Int32).toNatClampNeg = 256 := by decide
                            omega)
      rw [q, Nat.zero_add, Nat.sub_zero, Array.getD_eq_getD_getElem?, qq]; rfl
    have hsz : B5.slots.size = (8 : Int32).toNatClampNeg := by rw [bs5, sz_new, hp]
    have hKp : Keep h0 T5.heap [] := by
      have kk : ∀ (x : Addr) (c : Cell), h0[x]? = some c → T5.heap[x]? = some c := fun x c q => by
        rw [P5.2.1 x (fun e => absurd e (Nat.ne_of_lt (by rw [g3]; exact (Array.getElem?_eq_some_iff.mp q).1))), hs4]; exact E3.2 _ _ q
      exact ⟨by rw [P5.2.2, hs4]; exact E3.1, fun x c q _ => kk x c q, fun x c q => ⟨c, kk x c q, rfl, rfl, rfl⟩⟩
    have hN := Fr.app N4 (L' := copyLocs b3 0 8) (fun y hy => by
      simp only [copyLocs, List.mem_map] at hy
      obtain ⟨i, -, rfl⟩ := hy
      exact g_b3)
    exact ⟨b3, k3, rfl, hN, hKp, B5, ⟨P5.1, own_isA bc5 A3.2.1 bv5, by rw [bv5]; exact A3.2.2⟩, bc5, hsz, by decide, fun j hj => hc5 j (by rw [hsz] at hj; exact hj), fun j hj => G_a1 j (by rw [S_a1, hz]; rw [hsz] at hj; exact Nat.lt_of_lt_of_le hj (by decide))⟩
theorem d6_0 : decode prog_38_method_20_code 0 = .ok (.aload_n 0, 1) := by decide +kernel
theorem d6_1 : decode prog_38_method_20_code 1 = .ok (.getfield 11, 3) := by decide +kernel
theorem d6_4 : decode prog_38_method_20_code 4 = .ok (.aload_n 0, 1) := by decide +kernel
theorem d6_5 : decode prog_38_method_20_code 5 = .ok (.getfield 25, 3) := by decide +kernel
theorem d6_8 : decode prog_38_method_20_code 8 = .ok (.invokestatic 116, 3) := by decide +kernel
theorem d6_11 : decode prog_38_method_20_code 11 = .ok (.areturn, 1) := by decide +kernel
theorem pn_6 : plainName "com/example/acqueue/acqueue/WireWriter" = true := by first | (simp [plainName, overriddenIn]; done) | decide +kernel
theorem pd_6_5 : parseMethodDescriptor "([BI)[B" = some ⟨[(.array .byte), .int], some (.array .byte)⟩ := by decide +kernel
theorem ef_6 (m : MethodId) (x0 : Addr) : entryFrame m #[(.ref x0)] 1 = mkF m 0 #[.val (.ref x0)] [] := by first | (simp [entryFrame, mkF, argsToLocals, Value.category]; done) | rfl
def Q6 (Z : State) (a1 : Addr) (w2 : Addr) (w4 : Int32) (kB : ClassId) (vs : List Value) (h0 : Heap) (n0 : Nat) (v : Option Value) (h : Heap) (L : List Loc) : Prop := ∃ (b : Addr) (k : ClassId), v = some (.ref b) ∧ Fr n0 L ∧ Keep h0 h [] ∧ Arv Z h b k .byte (8 : Int32) vs (.int (0 : Int32))
set_option maxRecDepth 65536 in
set_option maxHeartbeats 40000000 in
theorem rm6 (l : Launch) (Z : State) (a0 : Array Value) (hw : ∀ d ∈ tables_1, d.before a0 Z = true) (ws : List Jvm.Cond) (a1 : Addr) (w2 : Addr) (w4 : Int32) (kB : ClassId) (vs : List Value) (h0 : Heap) (n0 : Nat) (Z0 : n0 ≤ h0.size) (F_bytes_a1 : Fld Z h0 a1 "com/example/acqueue/acqueue/WireWriter" "bytes" "[B" (.ref w2)) (F_size_a1 : Fld Z h0 a1 "com/example/acqueue/acqueue/WireWriter" "size" "I" (.int w4)) (V0 : Arv Z h0 w2 kB .byte (256 : Int32) vs (.int (0 : Int32))) (hw4 : w4 = (8 : Int32)) (h8 : vs.length = 8) :
    MetFree l (⟨"com/example/acqueue/acqueue/WireWriter", "toByteArray", "()[B"⟩ : MethodName) (head1 (Jvm.Cond.code (⟨"com/example/acqueue/acqueue/WireWriter", "toByteArray", "()[B"⟩ : MethodName) prog_38_method_20_code 1 (some (.array .byte)) :: ws) ({ frames := 2, cells := 1, slots := 8, locals := 54 } : Room)) (fun a U => a = #[(.ref a1)] ∧ Z.Warmed39 U.vm ∧ U.heap = h0) (fun _ _ _ _ _ => True) (fun _ U o U' => ∃ v L, o = .returned v ∧ Q6 Z a1 w2 w4 kB vs h0 n0 v U'.heap L ∧ FrameEnd U o U' L ({ frames := 2, cells := 1, slots := 8, locals := 54 } : Room).cells ({ frames := 2, cells := 1, slots := 8, locals := 54 } : Room).slots) := by
  refine MetFree.of_bodySF (plainFor_of_name pn_6) hisR ?_
  intro p e s m args below meth c s₁ Bd hml0 hP hK
  obtain ⟨rfl, hZ, hh⟩ := hP
  have hx := Bd.exec
  have hby := Bd.bytes
  have hml : c.maxLocals = 1 := hml0
  have hown : s.vm.findClass "com/example/acqueue/acqueue/WireWriter" = some m.cls := findClass_of_methodNamed Bd.named
  have hnm := (name_of_methodNamed Bd.named Bd.method).1
  have X0 : Stand p l e ({ frames := 2, cells := 1, slots := 8, locals := 54 } : Room) s m #[(.ref a1)] below meth c s₁ [] 0 0 := Stand.of_body Bd
  have e0 : s₁.heap = h0 := by rw [← hh, Bd.state]; rfl
  have N0 := Fr.nil n0
  have pre0 : ∀ t, Steps p.tables e below (s₁.setTop (mkF m 0 #[.val (.ref a1)] [])) t → Steps p.tables e below (s₁.setTop (entryFrame m #[(.ref a1)] 1)) t := fun t k => castTop (ef_6 m a1) k
  obtain ⟨T3, X3, e3, st3⟩ := getF X0 hx hZ hown (host := "") (Or.inl (hw _ (List.mem_of_getElem? (i := 10) rfl))) Via.refl e0 F_bytes_a1 (g := (mkF m 1 #[.val (.ref a1)] [(.ref a1)])) rfl rfl (hb hby d6_1)
  obtain ⟨T5, X5, e5, st5⟩ := getF X3 hx hZ hown (host := "") (Or.inl (hw _ (List.mem_of_getElem? (i := 23) rfl))) Via.refl e3 F_size_a1 (g := (mkF m 5 #[.val (.ref a1)] [(.ref a1), (.ref w2)])) rfl rfl (hb hby d6_5)
  obtain ⟨_, _, ⟨T6, L6, k6, n6⟩, -, X6, ⟨Lc6, hQ6, l6, y6, z6⟩, st6⟩ := Jvm.LawKit.callS X5 hx (y := (⟨"java/util/Arrays", "copyOf", "([BI)[B"⟩ : MethodName)) hown (mvT hZ (hw _ (List.mem_of_getElem? (i := 36) rfl))) (mvT hZ (hw _ (List.mem_of_getElem? (i := 37) rfl))) (mvT hZ (hw _ (List.mem_of_getElem? (i := 38) rfl))) (mvT hZ (hw _ (List.mem_of_getElem? (i := 39) rfl))) (by decide) (backOf (W := 0) (rm7 l Z a0 hw [] w2 w4 kB vs (256 : Int32) h0 n0 Z0 V0 rfl hw4 h8 (by rw [hw4]; decide)) hZ (hw _ (List.mem_of_getElem? (i := 39) rfl)) (hw _ (List.mem_of_getElem? (i := 38) rfl)) (by decide) (by decide)) (g := (mkF m 8 #[.val (.ref a1)] [(.int w4), (.ref w2)])) rfl (by rw [hml]; rfl) (argsL := [(.ref w2), (.int w4)]) (rest := []) (lenOf pd_6_5 rfl) rfl (by show 2 * 0 + _ ≤ _; exact Nat.le_of_eq rfl) (hb hby d6_8) (fun _ _ => ⟨rfl, e5, (by decide : 0 + 1 ≤ _), (by decide : 0 + 8 ≤ _)⟩)
  dsimp only [Pt.U, Pt.locs, Pt.cells, Pt.slots] at X6 l6 y6 z6 st6 hQ6
  subst l6 y6 z6
  obtain ⟨r6, k6, rfl, N6q, K6q, V6q⟩ := hQ6
  have N6 := Fr.app N0 N6q
  obtain ⟨fs, hr, hrun, hended, hW, hsame⟩ := X6.leave (v := some (.ref r6)) (fun h => by rw [Bd.returns] at h; cases h)
  refine ⟨_, _, pre0 _ ?_, hrun, hended, _, _, rfl, ?_, ⟨_, rfl⟩, hW, hsame.mono (by decide) (by decide)⟩
  · show Steps p.tables e below (s₁.setTop (mkF m 0 #[.val (.ref a1)] [])) _
    refine XS.aloadN X0.here hx rfl (hb hby d6_0) rfl rfl ?_
    show Steps p.tables e below (s₁.setTop (mkF m 1 #[.val (.ref a1)] [(.ref a1)])) _
    refine st3 _ ?_
    show Steps p.tables e below (T3.setTop (mkF m 4 #[.val (.ref a1)] [(.ref w2)])) _
    refine XS.aloadN X3.here hx rfl (hb hby d6_4) rfl rfl ?_
    show Steps p.tables e below (T3.setTop (mkF m 5 #[.val (.ref a1)] [(.ref a1), (.ref w2)])) _
    refine st5 _ ?_
    show Steps p.tables e below (T5.setTop (mkF m 8 #[.val (.ref a1)] [(.int w4), (.ref w2)])) _
    refine st6 _ ?_
    show Steps p.tables e below (T6.setTop (mkF m 11 #[.val (.ref a1)] [(.ref r6)])) _
    jvm_step X6.here [X6.here.top, hx, (hb hby d6_11), X6.method', Bd.returns, Value.isRef, FieldType.isReference]
    first | (intro acts; rw [hr _ acts rfl rfl rfl]) | rw [hr _ _ rfl rfl rfl]
    exact Steps.refl _
  · show Q6 Z a1 w2 w4 kB vs h0 n0 _ T6.heap _
    exact ⟨r6, k6, rfl, N6, K6q, V6q⟩
theorem d9_0 : decode prog_38_method_17_code 0 = .ok (.aload_n 0, 1) := by decide +kernel
theorem d9_1 : decode prog_38_method_17_code 1 = .ok (.getfield 25, 3) := by decide +kernel
theorem d9_4 : decode prog_38_method_17_code 4 = .ok (.ireturn, 1) := by decide +kernel
theorem pn_9 : plainName "com/example/acqueue/acqueue/WireWriter" = true := by first | (simp [plainName, overriddenIn]; done) | decide +kernel
theorem ef_9 (m : MethodId) (x0 : Addr) : entryFrame m #[(.ref x0)] 1 = mkF m 0 #[.val (.ref x0)] [] := by first | (simp [entryFrame, mkF, argsToLocals, Value.category]; done) | rfl
def Q9 (Z : State) (a1 : Addr) (w2 : Int32) (h0 : Heap) (n0 : Nat) (v : Option Value) (h : Heap) (L : List Loc) : Prop := v = some (.int w2) ∧ Fr n0 L ∧ h = h0
set_option maxRecDepth 65536 in
set_option maxHeartbeats 40000000 in
theorem rm9 (l : Launch) (Z : State) (a0 : Array Value) (hw : ∀ d ∈ tables_1, d.before a0 Z = true) (ws : List Jvm.Cond) (a1 : Addr) (w2 : Int32) (h0 : Heap) (n0 : Nat) (Z0 : n0 ≤ h0.size) (F_size_a1 : Fld Z h0 a1 "com/example/acqueue/acqueue/WireWriter" "size" "I" (.int w2)) :
    MetFree l (⟨"com/example/acqueue/acqueue/WireWriter", "size", "()I"⟩ : MethodName) (head1 (Jvm.Cond.code (⟨"com/example/acqueue/acqueue/WireWriter", "size", "()I"⟩ : MethodName) prog_38_method_17_code 1 (some .int) :: ws) ({ frames := 0, cells := 0, slots := 0, locals := 0 } : Room)) (fun a U => a = #[(.ref a1)] ∧ Z.Warmed39 U.vm ∧ U.heap = h0) (fun _ _ _ _ _ => True) (fun _ U o U' => ∃ v L, o = .returned v ∧ Q9 Z a1 w2 h0 n0 v U'.heap L ∧ FrameEnd U o U' L ({ frames := 0, cells := 0, slots := 0, locals := 0 } : Room).cells ({ frames := 0, cells := 0, slots := 0, locals := 0 } : Room).slots) := by
  refine MetFree.of_bodySF (plainFor_of_name pn_9) hisR ?_
  intro p e s m args below meth c s₁ Bd hml0 hP hK
  obtain ⟨rfl, hZ, hh⟩ := hP
  have hx := Bd.exec
  have hby := Bd.bytes
  have hml : c.maxLocals = 1 := hml0
  have hown : s.vm.findClass "com/example/acqueue/acqueue/WireWriter" = some m.cls := findClass_of_methodNamed Bd.named
  have hnm := (name_of_methodNamed Bd.named Bd.method).1
  have X0 : Stand p l e ({ frames := 0, cells := 0, slots := 0, locals := 0 } : Room) s m #[(.ref a1)] below meth c s₁ [] 0 0 := Stand.of_body Bd
  have e0 : s₁.heap = h0 := by rw [← hh, Bd.state]; rfl
  have N0 := Fr.nil n0
  have pre0 : ∀ t, Steps p.tables e below (s₁.setTop (mkF m 0 #[.val (.ref a1)] [])) t → Steps p.tables e below (s₁.setTop (entryFrame m #[(.ref a1)] 1)) t := fun t k => castTop (ef_9 m a1) k
  obtain ⟨T3, X3, e3, st3⟩ := getF X0 hx hZ hown (host := "") (Or.inl (hw _ (List.mem_of_getElem? (i := 23) rfl))) Via.refl e0 F_size_a1 (g := (mkF m 1 #[.val (.ref a1)] [(.ref a1)])) rfl rfl (hb hby d9_1)
  obtain ⟨fs, hr, hrun, hended, hW, hsame⟩ := X3.leave (v := some (.int w2)) (fun h => by rw [Bd.returns] at h; cases h)
  refine ⟨_, _, pre0 _ ?_, hrun, hended, _, _, rfl, ?_, ⟨_, rfl⟩, hW, hsame.mono (by decide) (by decide)⟩
  · show Steps p.tables e below (s₁.setTop (mkF m 0 #[.val (.ref a1)] [])) _
    refine XS.aloadN X0.here hx rfl (hb hby d9_0) rfl rfl ?_
    show Steps p.tables e below (s₁.setTop (mkF m 1 #[.val (.ref a1)] [(.ref a1)])) _
    refine st3 _ ?_
    show Steps p.tables e below (T3.setTop (mkF m 4 #[.val (.ref a1)] [(.int w2)])) _
    exact retI X3 hx Bd.returns (hb hby d9_4) hr
  · show Q9 Z a1 w2 h0 n0 _ T3.heap _
    rw [e3]
    exact ⟨rfl, N0, rfl⟩
def own_kept (p2 : Int32) (p3 : Int32) (p4 : Int32) (p5 : Int32) (w6 : Int32) : Int32 := if p2 < p3 then (if p2 < (4 : Int32) then (if w6 = (((p4.toUInt32 >>> (((24 : Int32) - ((8 : Int32) * (p2 &&& (3 : Int32)))) &&& 31).toUInt32).toInt32).toInt8.toInt32) then (1 : Int32) else (0 : Int32)) else (if w6 = (((p5.toUInt32 >>> (((24 : Int32) - ((8 : Int32) * (p2 &&& (3 : Int32)))) &&& 31).toUInt32).toInt32).toInt8.toInt32) then (1 : Int32) else (0 : Int32))) else (if p2 < (p3 + (4 : Int32)) then (1 : Int32) else (if p2 < (4 : Int32) then (if w6 = (((p4.toUInt32 >>> (((24 : Int32) - ((8 : Int32) * (p2 &&& (3 : Int32)))) &&& 31).toUInt32).toInt32).toInt8.toInt32) then (1 : Int32) else (0 : Int32)) else (if w6 = (((p5.toUInt32 >>> (((24 : Int32) - ((8 : Int32) * (p2 &&& (3 : Int32)))) &&& 31).toUInt32).toInt32).toInt8.toInt32) then (1 : Int32) else (0 : Int32))))
theorem d10_0 : decode method_3_code 0 = .ok (.iload_n 1, 1) := by decide +kernel
theorem d10_1 : decode method_3_code 1 = .ok (.iload_n 2, 1) := by decide +kernel
theorem d10_2 : decode method_3_code 2 = .ok (.if_icmp .lt 12, 3) := by decide +kernel
theorem d10_5 : decode method_3_code 5 = .ok (.iload_n 1, 1) := by decide +kernel
theorem d10_6 : decode method_3_code 6 = .ok (.iload_n 2, 1) := by decide +kernel
theorem d10_7 : decode method_3_code 7 = .ok (.iconst 4, 1) := by decide +kernel
theorem d10_8 : decode method_3_code 8 = .ok (.iadd, 1) := by decide +kernel
theorem d10_9 : decode method_3_code 9 = .ok (.if_icmp .ge 5, 3) := by decide +kernel
theorem d10_12 : decode method_3_code 12 = .ok (.iconst 1, 1) := by decide +kernel
theorem d10_13 : decode method_3_code 13 = .ok (.ireturn, 1) := by decide +kernel
theorem d10_14 : decode method_3_code 14 = .ok (.iload_n 1, 1) := by decide +kernel
theorem d10_15 : decode method_3_code 15 = .ok (.iconst 4, 1) := by decide +kernel
theorem d10_16 : decode method_3_code 16 = .ok (.if_icmp .ge 7, 3) := by decide +kernel
theorem d10_19 : decode method_3_code 19 = .ok (.iload_n 3, 1) := by decide +kernel
theorem d10_20 : decode method_3_code 20 = .ok (.goto 5, 3) := by decide +kernel
theorem d10_23 : decode method_3_code 23 = .ok (.iload 4, 2) := by decide +kernel
theorem d10_25 : decode method_3_code 25 = .ok (.istore 5, 2) := by decide +kernel
theorem d10_27 : decode method_3_code 27 = .ok (.bipush 24, 2) := by decide +kernel
theorem d10_29 : decode method_3_code 29 = .ok (.bipush 8, 2) := by decide +kernel
theorem d10_31 : decode method_3_code 31 = .ok (.iload_n 1, 1) := by decide +kernel
theorem d10_32 : decode method_3_code 32 = .ok (.iconst 3, 1) := by decide +kernel
theorem d10_33 : decode method_3_code 33 = .ok (.iand, 1) := by decide +kernel
theorem d10_34 : decode method_3_code 34 = .ok (.imul, 1) := by decide +kernel
theorem d10_35 : decode method_3_code 35 = .ok (.isub, 1) := by decide +kernel
theorem d10_36 : decode method_3_code 36 = .ok (.istore 6, 2) := by decide +kernel
theorem d10_38 : decode method_3_code 38 = .ok (.aload_n 0, 1) := by decide +kernel
theorem d10_39 : decode method_3_code 39 = .ok (.iload_n 1, 1) := by decide +kernel
theorem d10_40 : decode method_3_code 40 = .ok (.baload, 1) := by decide +kernel
theorem d10_41 : decode method_3_code 41 = .ok (.iload 5, 2) := by decide +kernel
theorem d10_43 : decode method_3_code 43 = .ok (.iload 6, 2) := by decide +kernel
theorem d10_45 : decode method_3_code 45 = .ok (.iushr, 1) := by decide +kernel
theorem d10_46 : decode method_3_code 46 = .ok (.i2b, 1) := by decide +kernel
theorem d10_47 : decode method_3_code 47 = .ok (.if_icmp .ne 7, 3) := by decide +kernel
theorem d10_50 : decode method_3_code 50 = .ok (.iconst 1, 1) := by decide +kernel
theorem d10_51 : decode method_3_code 51 = .ok (.goto 4, 3) := by decide +kernel
theorem d10_54 : decode method_3_code 54 = .ok (.iconst 0, 1) := by decide +kernel
theorem d10_55 : decode method_3_code 55 = .ok (.ireturn, 1) := by decide +kernel
theorem pn_10 : plainName "com/example/acqueue/acqueue/WireWriterPutInt32PinLaw" = true := by first | (simp [plainName, overriddenIn]; done) | decide +kernel
theorem ef_10 (m : MethodId) (x0 : Addr) (x1 : Int32) (x2 : Int32) (x3 : Int32) (x4 : Int32) : entryFrame m #[(.ref x0), (.int x1), (.int x2), (.int x3), (.int x4)] 7 = mkF m 0 #[.val (.ref x0), .val (.int x1), .val (.int x2), .val (.int x3), .val (.int x4), .unset, .unset] [] := by first | (simp [entryFrame, mkF, argsToLocals, Value.category]; done) | rfl
def Q10 (Z : State) (a1 : Addr) (p2 : Int32) (p3 : Int32) (p4 : Int32) (p5 : Int32) (w6 : Int32) (cl_a1 : Cell) (h0 : Heap) (n0 : Nat) (v : Option Value) (h : Heap) (L : List Loc) : Prop := v = some (.int (own_kept p2 p3 p4 p5 w6)) ∧ Fr n0 L ∧ h = h0
set_option maxRecDepth 65536 in
set_option maxHeartbeats 40000000 in
theorem rm10 (l : Launch) (Z : State) (a0 : Array Value) (hw : ∀ d ∈ tables_1, d.before a0 Z = true) (ws : List Jvm.Cond) (a1 : Addr) (p2 : Int32) (p3 : Int32) (p4 : Int32) (p5 : Int32) (w6 : Int32) (cl_a1 : Cell) (h0 : Heap) (n0 : Nat) (Z0 : n0 ≤ h0.size) (Ar_a1 : Arr Z h0 a1 cl_a1 .byte) (hin40 : ¬ (p2 < 0 ∨ cl_a1.slots.size ≤ (p2).toNatClampNeg)) (hat40 : cl_a1.slots[(p2).toNatClampNeg]? = some (.int w6)) :
    MetFree l (⟨"com/example/acqueue/acqueue/WireWriterPutInt32PinLaw", "kept", "([BIIII)Z"⟩ : MethodName) (head1 (Jvm.Cond.code (⟨"com/example/acqueue/acqueue/WireWriterPutInt32PinLaw", "kept", "([BIIII)Z"⟩ : MethodName) method_3_code 7 (some .boolean) :: ws) ({ frames := 0, cells := 0, slots := 0, locals := 0 } : Room)) (fun a U => a = #[(.ref a1), (.int p2), (.int p3), (.int p4), (.int p5)] ∧ Z.Warmed39 U.vm ∧ U.heap = h0) (fun _ _ _ _ _ => True) (fun _ U o U' => ∃ v L, o = .returned v ∧ Q10 Z a1 p2 p3 p4 p5 w6 cl_a1 h0 n0 v U'.heap L ∧ FrameEnd U o U' L ({ frames := 0, cells := 0, slots := 0, locals := 0 } : Room).cells ({ frames := 0, cells := 0, slots := 0, locals := 0 } : Room).slots) := by
  refine MetFree.of_bodySF (plainFor_of_name pn_10) hisR ?_
  intro p e s m args below meth c s₁ Bd hml0 hP hK
  obtain ⟨rfl, hZ, hh⟩ := hP
  have hx := Bd.exec
  have hby := Bd.bytes
  have hml : c.maxLocals = 7 := hml0
  have hown : s.vm.findClass "com/example/acqueue/acqueue/WireWriterPutInt32PinLaw" = some m.cls := findClass_of_methodNamed Bd.named
  have hnm := (name_of_methodNamed Bd.named Bd.method).1
  have X0 : Stand p l e ({ frames := 0, cells := 0, slots := 0, locals := 0 } : Room) s m #[(.ref a1), (.int p2), (.int p3), (.int p4), (.int p5)] below meth c s₁ [] 0 0 := Stand.of_body Bd
  have e0 : s₁.heap = h0 := by rw [← hh, Bd.state]; rfl
  have N0 := Fr.nil n0
  have pre0 : ∀ t, Steps p.tables e below (s₁.setTop (mkF m 0 #[.val (.ref a1), .val (.int p2), .val (.int p3), .val (.int p4), .val (.int p5), .unset, .unset] [])) t → Steps p.tables e below (s₁.setTop (entryFrame m #[(.ref a1), (.int p2), (.int p3), (.int p4), (.int p5)] 7)) t := fun t k => castTop (ef_10 m a1 p2 p3 p4 p5) k
  obtain ⟨fs, hr, hrun, hended, hW, hsame⟩ := X0.leave (v := some (.int (own_kept p2 p3 p4 p5 w6))) (fun h => by rw [Bd.returns] at h; cases h)
  refine ⟨_, _, pre0 _ ?_, hrun, hended, _, _, rfl, ?_, ⟨_, rfl⟩, hW, hsame.mono (by decide) (by decide)⟩
  · show Steps p.tables e below (s₁.setTop (mkF m 0 #[.val (.ref a1), .val (.int p2), .val (.int p3), .val (.int p4), .val (.int p5), .unset, .unset] [])) _
    refine XS.iloadN X0.here hx rfl (hb hby d10_0) rfl ?_
    show Steps p.tables e below (s₁.setTop (mkF m 1 #[.val (.ref a1), .val (.int p2), .val (.int p3), .val (.int p4), .val (.int p5), .unset, .unset] [(.int p2)])) _
    refine XS.iloadN X0.here hx rfl (hb hby d10_1) rfl ?_
    show Steps p.tables e below (s₁.setTop (mkF m 2 #[.val (.ref a1), .val (.int p2), .val (.int p3), .val (.int p4), .val (.int p5), .unset, .unset] [(.int p3), (.int p2)])) _
    by_cases hc2 : p2 < p3
    · refine XS.icmpYes X0.here hx rfl (pc0 := 2) (pc' := 14) rfl (hb hby d10_2) rfl (tlt hc2).1 (by decide) (by decide) ?_
      show Steps p.tables e below (s₁.setTop (mkF m 14 #[.val (.ref a1), .val (.int p2), .val (.int p3), .val (.int p4), .val (.int p5), .unset, .unset] [])) _
      refine XS.iloadN X0.here hx rfl (hb hby d10_14) rfl ?_
      show Steps p.tables e below (s₁.setTop (mkF m 15 #[.val (.ref a1), .val (.int p2), .val (.int p3), .val (.int p4), .val (.int p5), .unset, .unset] [(.int p2)])) _
      refine XS.iconst X0.here hx rfl (hb hby d10_15) ?_
      show Steps p.tables e below (s₁.setTop (mkF m 16 #[.val (.ref a1), .val (.int p2), .val (.int p3), .val (.int p4), .val (.int p5), .unset, .unset] [(.int (4 : Int32)), (.int p2)])) _
      by_cases hc16 : p2 < (4 : Int32)
      · refine XS.icmpNo X0.here hx rfl (hb hby d10_16) rfl (tlt hc16).2.1 ?_
        show Steps p.tables e below (s₁.setTop (mkF m 19 #[.val (.ref a1), .val (.int p2), .val (.int p3), .val (.int p4), .val (.int p5), .unset, .unset] [])) _
        refine XS.iloadN X0.here hx rfl (hb hby d10_19) rfl ?_
        show Steps p.tables e below (s₁.setTop (mkF m 20 #[.val (.ref a1), .val (.int p2), .val (.int p3), .val (.int p4), .val (.int p5), .unset, .unset] [(.int p4)])) _
        refine XS.goto X0.here hx rfl (pc0 := 20) (pc' := 25) rfl (hb hby d10_20) (by decide) (by decide) ?_
        show Steps p.tables e below (s₁.setTop (mkF m 25 #[.val (.ref a1), .val (.int p2), .val (.int p3), .val (.int p4), .val (.int p5), .unset, .unset] [(.int p4)])) _
        refine XS.istore X0.here hx rfl (hb hby d10_25) rfl (l' := #[.val (.ref a1), .val (.int p2), .val (.int p3), .val (.int p4), .val (.int p5), .val (.int p4), .unset]) rfl ?_
        show Steps p.tables e below (s₁.setTop (mkF m 27 #[.val (.ref a1), .val (.int p2), .val (.int p3), .val (.int p4), .val (.int p5), .val (.int p4), .unset] [])) _
        refine XS.bipush X0.here hx rfl (hb hby d10_27) ?_
        show Steps p.tables e below (s₁.setTop (mkF m 29 #[.val (.ref a1), .val (.int p2), .val (.int p3), .val (.int p4), .val (.int p5), .val (.int p4), .unset] [(.int (24 : Int32))])) _
        refine XS.bipush X0.here hx rfl (hb hby d10_29) ?_
        show Steps p.tables e below (s₁.setTop (mkF m 31 #[.val (.ref a1), .val (.int p2), .val (.int p3), .val (.int p4), .val (.int p5), .val (.int p4), .unset] [(.int (8 : Int32)), (.int (24 : Int32))])) _
        refine XS.iloadN X0.here hx rfl (hb hby d10_31) rfl ?_
        show Steps p.tables e below (s₁.setTop (mkF m 32 #[.val (.ref a1), .val (.int p2), .val (.int p3), .val (.int p4), .val (.int p5), .val (.int p4), .unset] [(.int p2), (.int (8 : Int32)), (.int (24 : Int32))])) _
        refine XS.iconst X0.here hx rfl (hb hby d10_32) ?_
        show Steps p.tables e below (s₁.setTop (mkF m 33 #[.val (.ref a1), .val (.int p2), .val (.int p3), .val (.int p4), .val (.int p5), .val (.int p4), .unset] [(.int (3 : Int32)), (.int p2), (.int (8 : Int32)), (.int (24 : Int32))])) _
        refine XS.iand X0.here hx rfl (hb hby d10_33) rfl ?_
        show Steps p.tables e below (s₁.setTop (mkF m 34 #[.val (.ref a1), .val (.int p2), .val (.int p3), .val (.int p4), .val (.int p5), .val (.int p4), .unset] [(.int (p2 &&& (3 : Int32))), (.int (8 : Int32)), (.int (24 : Int32))])) _
        refine XS.imul X0.here hx rfl (hb hby d10_34) rfl ?_
        show Steps p.tables e below (s₁.setTop (mkF m 35 #[.val (.ref a1), .val (.int p2), .val (.int p3), .val (.int p4), .val (.int p5), .val (.int p4), .unset] [(.int ((8 : Int32) * (p2 &&& (3 : Int32)))), (.int (24 : Int32))])) _
        refine XS.isub X0.here hx rfl (hb hby d10_35) rfl ?_
        show Steps p.tables e below (s₁.setTop (mkF m 36 #[.val (.ref a1), .val (.int p2), .val (.int p3), .val (.int p4), .val (.int p5), .val (.int p4), .unset] [(.int ((24 : Int32) - ((8 : Int32) * (p2 &&& (3 : Int32)))))])) _
        refine XS.istore X0.here hx rfl (hb hby d10_36) rfl (l' := #[.val (.ref a1), .val (.int p2), .val (.int p3), .val (.int p4), .val (.int p5), .val (.int p4), .val (.int ((24 : Int32) - ((8 : Int32) * (p2 &&& (3 : Int32)))))]) rfl ?_
        show Steps p.tables e below (s₁.setTop (mkF m 38 #[.val (.ref a1), .val (.int p2), .val (.int p3), .val (.int p4), .val (.int p5), .val (.int p4), .val (.int ((24 : Int32) - ((8 : Int32) * (p2 &&& (3 : Int32)))))] [])) _
        refine XS.aloadN X0.here hx rfl (hb hby d10_38) rfl rfl ?_
        show Steps p.tables e below (s₁.setTop (mkF m 39 #[.val (.ref a1), .val (.int p2), .val (.int p3), .val (.int p4), .val (.int p5), .val (.int p4), .val (.int ((24 : Int32) - ((8 : Int32) * (p2 &&& (3 : Int32)))))] [(.ref a1)])) _
        refine XS.iloadN X0.here hx rfl (hb hby d10_39) rfl ?_
        show Steps p.tables e below (s₁.setTop (mkF m 40 #[.val (.ref a1), .val (.int p2), .val (.int p3), .val (.int p4), .val (.int p5), .val (.int p4), .val (.int ((24 : Int32) - ((8 : Int32) * (p2 &&& (3 : Int32)))))] [(.int p2), (.ref a1)])) _
        refine X0.baloadBytes hx (j := p2) (v := (.int w6)) (by rw [e0]; exact Ar_a1.1) (State.isArrayOf_alike hZ.alike Ar_a1.2.1) Ar_a1.2.2 hin40 hat40 (g := (mkF m 40 #[.val (.ref a1), .val (.int p2), .val (.int p3), .val (.int p4), .val (.int p5), .val (.int p4), .val (.int ((24 : Int32) - ((8 : Int32) * (p2 &&& (3 : Int32)))))] [(.int p2), (.ref a1)])) rfl rfl (hb hby d10_40) _ ?_
        show Steps p.tables e below (s₁.setTop (mkF m 41 #[.val (.ref a1), .val (.int p2), .val (.int p3), .val (.int p4), .val (.int p5), .val (.int p4), .val (.int ((24 : Int32) - ((8 : Int32) * (p2 &&& (3 : Int32)))))] [(.int w6)])) _
        refine XS.iload X0.here hx rfl (hb hby d10_41) rfl ?_
        show Steps p.tables e below (s₁.setTop (mkF m 43 #[.val (.ref a1), .val (.int p2), .val (.int p3), .val (.int p4), .val (.int p5), .val (.int p4), .val (.int ((24 : Int32) - ((8 : Int32) * (p2 &&& (3 : Int32)))))] [(.int p4), (.int w6)])) _
        refine XS.iload X0.here hx rfl (hb hby d10_43) rfl ?_
        show Steps p.tables e below (s₁.setTop (mkF m 45 #[.val (.ref a1), .val (.int p2), .val (.int p3), .val (.int p4), .val (.int p5), .val (.int p4), .val (.int ((24 : Int32) - ((8 : Int32) * (p2 &&& (3 : Int32)))))] [(.int ((24 : Int32) - ((8 : Int32) * (p2 &&& (3 : Int32))))), (.int p4), (.int w6)])) _
        refine XS.iushr X0.here hx rfl (hb hby d10_45) rfl ?_
        show Steps p.tables e below (s₁.setTop (mkF m 46 #[.val (.ref a1), .val (.int p2), .val (.int p3), .val (.int p4), .val (.int p5), .val (.int p4), .val (.int ((24 : Int32) - ((8 : Int32) * (p2 &&& (3 : Int32)))))] [(.int ((p4.toUInt32 >>> (((24 : Int32) - ((8 : Int32) * (p2 &&& (3 : Int32)))) &&& 31).toUInt32).toInt32)), (.int w6)])) _
        refine XS.i2b X0.here hx rfl (hb hby d10_46) rfl ?_
        show Steps p.tables e below (s₁.setTop (mkF m 47 #[.val (.ref a1), .val (.int p2), .val (.int p3), .val (.int p4), .val (.int p5), .val (.int p4), .val (.int ((24 : Int32) - ((8 : Int32) * (p2 &&& (3 : Int32)))))] [(.int (((p4.toUInt32 >>> (((24 : Int32) - ((8 : Int32) * (p2 &&& (3 : Int32)))) &&& 31).toUInt32).toInt32).toInt8.toInt32)), (.int w6)])) _
        by_cases hc47 : w6 = (((p4.toUInt32 >>> (((24 : Int32) - ((8 : Int32) * (p2 &&& (3 : Int32)))) &&& 31).toUInt32).toInt32).toInt8.toInt32)
        · refine XS.icmpNo X0.here hx rfl (hb hby d10_47) rfl (teq hc47).2 ?_
          show Steps p.tables e below (s₁.setTop (mkF m 50 #[.val (.ref a1), .val (.int p2), .val (.int p3), .val (.int p4), .val (.int p5), .val (.int p4), .val (.int ((24 : Int32) - ((8 : Int32) * (p2 &&& (3 : Int32)))))] [])) _
          refine XS.iconst X0.here hx rfl (hb hby d10_50) ?_
          show Steps p.tables e below (s₁.setTop (mkF m 51 #[.val (.ref a1), .val (.int p2), .val (.int p3), .val (.int p4), .val (.int p5), .val (.int p4), .val (.int ((24 : Int32) - ((8 : Int32) * (p2 &&& (3 : Int32)))))] [(.int (1 : Int32))])) _
          refine XS.goto X0.here hx rfl (pc0 := 51) (pc' := 55) rfl (hb hby d10_51) (by decide) (by decide) ?_
          show Steps p.tables e below (s₁.setTop (mkF m 55 #[.val (.ref a1), .val (.int p2), .val (.int p3), .val (.int p4), .val (.int p5), .val (.int p4), .val (.int ((24 : Int32) - ((8 : Int32) * (p2 &&& (3 : Int32)))))] [(.int (1 : Int32))])) _
          have hv : (own_kept p2 p3 p4 p5 w6) = (1 : Int32) := by unfold own_kept; rw [if_pos hc2, if_pos hc16, if_pos hc47]
          rw [hv] at hr
          exact retN X0 hx (t := .boolean) Bd.returns (by simp) (hb hby d10_55) hr
        · refine XS.icmpYes X0.here hx rfl (pc0 := 47) (pc' := 54) rfl (hb hby d10_47) rfl (feq hc47).2 (by decide) (by decide) ?_
          show Steps p.tables e below (s₁.setTop (mkF m 54 #[.val (.ref a1), .val (.int p2), .val (.int p3), .val (.int p4), .val (.int p5), .val (.int p4), .val (.int ((24 : Int32) - ((8 : Int32) * (p2 &&& (3 : Int32)))))] [])) _
          refine XS.iconst X0.here hx rfl (hb hby d10_54) ?_
          show Steps p.tables e below (s₁.setTop (mkF m 55 #[.val (.ref a1), .val (.int p2), .val (.int p3), .val (.int p4), .val (.int p5), .val (.int p4), .val (.int ((24 : Int32) - ((8 : Int32) * (p2 &&& (3 : Int32)))))] [(.int (0 : Int32))])) _
          have hv : (own_kept p2 p3 p4 p5 w6) = (0 : Int32) := by unfold own_kept; rw [if_pos hc2, if_pos hc16, if_neg hc47]
          rw [hv] at hr
          exact retN X0 hx (t := .boolean) Bd.returns (by simp) (hb hby d10_55) hr
      · refine XS.icmpYes X0.here hx rfl (pc0 := 16) (pc' := 23) rfl (hb hby d10_16) rfl (flt hc16).2.1 (by decide) (by decide) ?_
        show Steps p.tables e below (s₁.setTop (mkF m 23 #[.val (.ref a1), .val (.int p2), .val (.int p3), .val (.int p4), .val (.int p5), .unset, .unset] [])) _
        refine XS.iload X0.here hx rfl (hb hby d10_23) rfl ?_
        show Steps p.tables e below (s₁.setTop (mkF m 25 #[.val (.ref a1), .val (.int p2), .val (.int p3), .val (.int p4), .val (.int p5), .unset, .unset] [(.int p5)])) _
        refine XS.istore X0.here hx rfl (hb hby d10_25) rfl (l' := #[.val (.ref a1), .val (.int p2), .val (.int p3), .val (.int p4), .val (.int p5), .val (.int p5), .unset]) rfl ?_
        show Steps p.tables e below (s₁.setTop (mkF m 27 #[.val (.ref a1), .val (.int p2), .val (.int p3), .val (.int p4), .val (.int p5), .val (.int p5), .unset] [])) _
        refine XS.bipush X0.here hx rfl (hb hby d10_27) ?_
        show Steps p.tables e below (s₁.setTop (mkF m 29 #[.val (.ref a1), .val (.int p2), .val (.int p3), .val (.int p4), .val (.int p5), .val (.int p5), .unset] [(.int (24 : Int32))])) _
        refine XS.bipush X0.here hx rfl (hb hby d10_29) ?_
        show Steps p.tables e below (s₁.setTop (mkF m 31 #[.val (.ref a1), .val (.int p2), .val (.int p3), .val (.int p4), .val (.int p5), .val (.int p5), .unset] [(.int (8 : Int32)), (.int (24 : Int32))])) _
        refine XS.iloadN X0.here hx rfl (hb hby d10_31) rfl ?_
        show Steps p.tables e below (s₁.setTop (mkF m 32 #[.val (.ref a1), .val (.int p2), .val (.int p3), .val (.int p4), .val (.int p5), .val (.int p5), .unset] [(.int p2), (.int (8 : Int32)), (.int (24 : Int32))])) _
        refine XS.iconst X0.here hx rfl (hb hby d10_32) ?_
        show Steps p.tables e below (s₁.setTop (mkF m 33 #[.val (.ref a1), .val (.int p2), .val (.int p3), .val (.int p4), .val (.int p5), .val (.int p5), .unset] [(.int (3 : Int32)), (.int p2), (.int (8 : Int32)), (.int (24 : Int32))])) _
        refine XS.iand X0.here hx rfl (hb hby d10_33) rfl ?_
        show Steps p.tables e below (s₁.setTop (mkF m 34 #[.val (.ref a1), .val (.int p2), .val (.int p3), .val (.int p4), .val (.int p5), .val (.int p5), .unset] [(.int (p2 &&& (3 : Int32))), (.int (8 : Int32)), (.int (24 : Int32))])) _
        refine XS.imul X0.here hx rfl (hb hby d10_34) rfl ?_
        show Steps p.tables e below (s₁.setTop (mkF m 35 #[.val (.ref a1), .val (.int p2), .val (.int p3), .val (.int p4), .val (.int p5), .val (.int p5), .unset] [(.int ((8 : Int32) * (p2 &&& (3 : Int32)))), (.int (24 : Int32))])) _
        refine XS.isub X0.here hx rfl (hb hby d10_35) rfl ?_
        show Steps p.tables e below (s₁.setTop (mkF m 36 #[.val (.ref a1), .val (.int p2), .val (.int p3), .val (.int p4), .val (.int p5), .val (.int p5), .unset] [(.int ((24 : Int32) - ((8 : Int32) * (p2 &&& (3 : Int32)))))])) _
        refine XS.istore X0.here hx rfl (hb hby d10_36) rfl (l' := #[.val (.ref a1), .val (.int p2), .val (.int p3), .val (.int p4), .val (.int p5), .val (.int p5), .val (.int ((24 : Int32) - ((8 : Int32) * (p2 &&& (3 : Int32)))))]) rfl ?_
        show Steps p.tables e below (s₁.setTop (mkF m 38 #[.val (.ref a1), .val (.int p2), .val (.int p3), .val (.int p4), .val (.int p5), .val (.int p5), .val (.int ((24 : Int32) - ((8 : Int32) * (p2 &&& (3 : Int32)))))] [])) _
        refine XS.aloadN X0.here hx rfl (hb hby d10_38) rfl rfl ?_
        show Steps p.tables e below (s₁.setTop (mkF m 39 #[.val (.ref a1), .val (.int p2), .val (.int p3), .val (.int p4), .val (.int p5), .val (.int p5), .val (.int ((24 : Int32) - ((8 : Int32) * (p2 &&& (3 : Int32)))))] [(.ref a1)])) _
        refine XS.iloadN X0.here hx rfl (hb hby d10_39) rfl ?_
        show Steps p.tables e below (s₁.setTop (mkF m 40 #[.val (.ref a1), .val (.int p2), .val (.int p3), .val (.int p4), .val (.int p5), .val (.int p5), .val (.int ((24 : Int32) - ((8 : Int32) * (p2 &&& (3 : Int32)))))] [(.int p2), (.ref a1)])) _
        refine X0.baloadBytes hx (j := p2) (v := (.int w6)) (by rw [e0]; exact Ar_a1.1) (State.isArrayOf_alike hZ.alike Ar_a1.2.1) Ar_a1.2.2 hin40 hat40 (g := (mkF m 40 #[.val (.ref a1), .val (.int p2), .val (.int p3), .val (.int p4), .val (.int p5), .val (.int p5), .val (.int ((24 : Int32) - ((8 : Int32) * (p2 &&& (3 : Int32)))))] [(.int p2), (.ref a1)])) rfl rfl (hb hby d10_40) _ ?_
        show Steps p.tables e below (s₁.setTop (mkF m 41 #[.val (.ref a1), .val (.int p2), .val (.int p3), .val (.int p4), .val (.int p5), .val (.int p5), .val (.int ((24 : Int32) - ((8 : Int32) * (p2 &&& (3 : Int32)))))] [(.int w6)])) _
        refine XS.iload X0.here hx rfl (hb hby d10_41) rfl ?_
        show Steps p.tables e below (s₁.setTop (mkF m 43 #[.val (.ref a1), .val (.int p2), .val (.int p3), .val (.int p4), .val (.int p5), .val (.int p5), .val (.int ((24 : Int32) - ((8 : Int32) * (p2 &&& (3 : Int32)))))] [(.int p5), (.int w6)])) _
        refine XS.iload X0.here hx rfl (hb hby d10_43) rfl ?_
        show Steps p.tables e below (s₁.setTop (mkF m 45 #[.val (.ref a1), .val (.int p2), .val (.int p3), .val (.int p4), .val (.int p5), .val (.int p5), .val (.int ((24 : Int32) - ((8 : Int32) * (p2 &&& (3 : Int32)))))] [(.int ((24 : Int32) - ((8 : Int32) * (p2 &&& (3 : Int32))))), (.int p5), (.int w6)])) _
        refine XS.iushr X0.here hx rfl (hb hby d10_45) rfl ?_
        show Steps p.tables e below (s₁.setTop (mkF m 46 #[.val (.ref a1), .val (.int p2), .val (.int p3), .val (.int p4), .val (.int p5), .val (.int p5), .val (.int ((24 : Int32) - ((8 : Int32) * (p2 &&& (3 : Int32)))))] [(.int ((p5.toUInt32 >>> (((24 : Int32) - ((8 : Int32) * (p2 &&& (3 : Int32)))) &&& 31).toUInt32).toInt32)), (.int w6)])) _
        refine XS.i2b X0.here hx rfl (hb hby d10_46) rfl ?_
        show Steps p.tables e below (s₁.setTop (mkF m 47 #[.val (.ref a1), .val (.int p2), .val (.int p3), .val (.int p4), .val (.int p5), .val (.int p5), .val (.int ((24 : Int32) - ((8 : Int32) * (p2 &&& (3 : Int32)))))] [(.int (((p5.toUInt32 >>> (((24 : Int32) - ((8 : Int32) * (p2 &&& (3 : Int32)))) &&& 31).toUInt32).toInt32).toInt8.toInt32)), (.int w6)])) _
        by_cases hc47 : w6 = (((p5.toUInt32 >>> (((24 : Int32) - ((8 : Int32) * (p2 &&& (3 : Int32)))) &&& 31).toUInt32).toInt32).toInt8.toInt32)
        · refine XS.icmpNo X0.here hx rfl (hb hby d10_47) rfl (teq hc47).2 ?_
          show Steps p.tables e below (s₁.setTop (mkF m 50 #[.val (.ref a1), .val (.int p2), .val (.int p3), .val (.int p4), .val (.int p5), .val (.int p5), .val (.int ((24 : Int32) - ((8 : Int32) * (p2 &&& (3 : Int32)))))] [])) _
          refine XS.iconst X0.here hx rfl (hb hby d10_50) ?_
          show Steps p.tables e below (s₁.setTop (mkF m 51 #[.val (.ref a1), .val (.int p2), .val (.int p3), .val (.int p4), .val (.int p5), .val (.int p5), .val (.int ((24 : Int32) - ((8 : Int32) * (p2 &&& (3 : Int32)))))] [(.int (1 : Int32))])) _
          refine XS.goto X0.here hx rfl (pc0 := 51) (pc' := 55) rfl (hb hby d10_51) (by decide) (by decide) ?_
          show Steps p.tables e below (s₁.setTop (mkF m 55 #[.val (.ref a1), .val (.int p2), .val (.int p3), .val (.int p4), .val (.int p5), .val (.int p5), .val (.int ((24 : Int32) - ((8 : Int32) * (p2 &&& (3 : Int32)))))] [(.int (1 : Int32))])) _
          have hv : (own_kept p2 p3 p4 p5 w6) = (1 : Int32) := by unfold own_kept; rw [if_pos hc2, if_neg hc16, if_pos hc47]
          rw [hv] at hr
          exact retN X0 hx (t := .boolean) Bd.returns (by simp) (hb hby d10_55) hr
        · refine XS.icmpYes X0.here hx rfl (pc0 := 47) (pc' := 54) rfl (hb hby d10_47) rfl (feq hc47).2 (by decide) (by decide) ?_
          show Steps p.tables e below (s₁.setTop (mkF m 54 #[.val (.ref a1), .val (.int p2), .val (.int p3), .val (.int p4), .val (.int p5), .val (.int p5), .val (.int ((24 : Int32) - ((8 : Int32) * (p2 &&& (3 : Int32)))))] [])) _
          refine XS.iconst X0.here hx rfl (hb hby d10_54) ?_
          show Steps p.tables e below (s₁.setTop (mkF m 55 #[.val (.ref a1), .val (.int p2), .val (.int p3), .val (.int p4), .val (.int p5), .val (.int p5), .val (.int ((24 : Int32) - ((8 : Int32) * (p2 &&& (3 : Int32)))))] [(.int (0 : Int32))])) _
          have hv : (own_kept p2 p3 p4 p5 w6) = (0 : Int32) := by unfold own_kept; rw [if_pos hc2, if_neg hc16, if_neg hc47]
          rw [hv] at hr
          exact retN X0 hx (t := .boolean) Bd.returns (by simp) (hb hby d10_55) hr
    · refine XS.icmpNo X0.here hx rfl (hb hby d10_2) rfl (flt hc2).1 ?_
      show Steps p.tables e below (s₁.setTop (mkF m 5 #[.val (.ref a1), .val (.int p2), .val (.int p3), .val (.int p4), .val (.int p5), .unset, .unset] [])) _
      refine XS.iloadN X0.here hx rfl (hb hby d10_5) rfl ?_
      show Steps p.tables e below (s₁.setTop (mkF m 6 #[.val (.ref a1), .val (.int p2), .val (.int p3), .val (.int p4), .val (.int p5), .unset, .unset] [(.int p2)])) _
      refine XS.iloadN X0.here hx rfl (hb hby d10_6) rfl ?_
      show Steps p.tables e below (s₁.setTop (mkF m 7 #[.val (.ref a1), .val (.int p2), .val (.int p3), .val (.int p4), .val (.int p5), .unset, .unset] [(.int p3), (.int p2)])) _
      refine XS.iconst X0.here hx rfl (hb hby d10_7) ?_
      show Steps p.tables e below (s₁.setTop (mkF m 8 #[.val (.ref a1), .val (.int p2), .val (.int p3), .val (.int p4), .val (.int p5), .unset, .unset] [(.int (4 : Int32)), (.int p3), (.int p2)])) _
      refine XS.iadd X0.here hx rfl (hb hby d10_8) rfl ?_
      show Steps p.tables e below (s₁.setTop (mkF m 9 #[.val (.ref a1), .val (.int p2), .val (.int p3), .val (.int p4), .val (.int p5), .unset, .unset] [(.int (p3 + (4 : Int32))), (.int p2)])) _
      by_cases hc9 : p2 < (p3 + (4 : Int32))
      · refine XS.icmpNo X0.here hx rfl (hb hby d10_9) rfl (tlt hc9).2.1 ?_
        show Steps p.tables e below (s₁.setTop (mkF m 12 #[.val (.ref a1), .val (.int p2), .val (.int p3), .val (.int p4), .val (.int p5), .unset, .unset] [])) _
        refine XS.iconst X0.here hx rfl (hb hby d10_12) ?_
        show Steps p.tables e below (s₁.setTop (mkF m 13 #[.val (.ref a1), .val (.int p2), .val (.int p3), .val (.int p4), .val (.int p5), .unset, .unset] [(.int (1 : Int32))])) _
        have hv : (own_kept p2 p3 p4 p5 w6) = (1 : Int32) := by unfold own_kept; rw [if_neg hc2, if_pos hc9]
        rw [hv] at hr
        exact retN X0 hx (t := .boolean) Bd.returns (by simp) (hb hby d10_13) hr
      · refine XS.icmpYes X0.here hx rfl (pc0 := 9) (pc' := 14) rfl (hb hby d10_9) rfl (flt hc9).2.1 (by decide) (by decide) ?_
        show Steps p.tables e below (s₁.setTop (mkF m 14 #[.val (.ref a1), .val (.int p2), .val (.int p3), .val (.int p4), .val (.int p5), .unset, .unset] [])) _
        refine XS.iloadN X0.here hx rfl (hb hby d10_14) rfl ?_
        show Steps p.tables e below (s₁.setTop (mkF m 15 #[.val (.ref a1), .val (.int p2), .val (.int p3), .val (.int p4), .val (.int p5), .unset, .unset] [(.int p2)])) _
        refine XS.iconst X0.here hx rfl (hb hby d10_15) ?_
        show Steps p.tables e below (s₁.setTop (mkF m 16 #[.val (.ref a1), .val (.int p2), .val (.int p3), .val (.int p4), .val (.int p5), .unset, .unset] [(.int (4 : Int32)), (.int p2)])) _
        by_cases hc16 : p2 < (4 : Int32)
        · refine XS.icmpNo X0.here hx rfl (hb hby d10_16) rfl (tlt hc16).2.1 ?_
          show Steps p.tables e below (s₁.setTop (mkF m 19 #[.val (.ref a1), .val (.int p2), .val (.int p3), .val (.int p4), .val (.int p5), .unset, .unset] [])) _
          refine XS.iloadN X0.here hx rfl (hb hby d10_19) rfl ?_
          show Steps p.tables e below (s₁.setTop (mkF m 20 #[.val (.ref a1), .val (.int p2), .val (.int p3), .val (.int p4), .val (.int p5), .unset, .unset] [(.int p4)])) _
          refine XS.goto X0.here hx rfl (pc0 := 20) (pc' := 25) rfl (hb hby d10_20) (by decide) (by decide) ?_
          show Steps p.tables e below (s₁.setTop (mkF m 25 #[.val (.ref a1), .val (.int p2), .val (.int p3), .val (.int p4), .val (.int p5), .unset, .unset] [(.int p4)])) _
          refine XS.istore X0.here hx rfl (hb hby d10_25) rfl (l' := #[.val (.ref a1), .val (.int p2), .val (.int p3), .val (.int p4), .val (.int p5), .val (.int p4), .unset]) rfl ?_
          show Steps p.tables e below (s₁.setTop (mkF m 27 #[.val (.ref a1), .val (.int p2), .val (.int p3), .val (.int p4), .val (.int p5), .val (.int p4), .unset] [])) _
          refine XS.bipush X0.here hx rfl (hb hby d10_27) ?_
          show Steps p.tables e below (s₁.setTop (mkF m 29 #[.val (.ref a1), .val (.int p2), .val (.int p3), .val (.int p4), .val (.int p5), .val (.int p4), .unset] [(.int (24 : Int32))])) _
          refine XS.bipush X0.here hx rfl (hb hby d10_29) ?_
          show Steps p.tables e below (s₁.setTop (mkF m 31 #[.val (.ref a1), .val (.int p2), .val (.int p3), .val (.int p4), .val (.int p5), .val (.int p4), .unset] [(.int (8 : Int32)), (.int (24 : Int32))])) _
          refine XS.iloadN X0.here hx rfl (hb hby d10_31) rfl ?_
          show Steps p.tables e below (s₁.setTop (mkF m 32 #[.val (.ref a1), .val (.int p2), .val (.int p3), .val (.int p4), .val (.int p5), .val (.int p4), .unset] [(.int p2), (.int (8 : Int32)), (.int (24 : Int32))])) _
          refine XS.iconst X0.here hx rfl (hb hby d10_32) ?_
          show Steps p.tables e below (s₁.setTop (mkF m 33 #[.val (.ref a1), .val (.int p2), .val (.int p3), .val (.int p4), .val (.int p5), .val (.int p4), .unset] [(.int (3 : Int32)), (.int p2), (.int (8 : Int32)), (.int (24 : Int32))])) _
          refine XS.iand X0.here hx rfl (hb hby d10_33) rfl ?_
          show Steps p.tables e below (s₁.setTop (mkF m 34 #[.val (.ref a1), .val (.int p2), .val (.int p3), .val (.int p4), .val (.int p5), .val (.int p4), .unset] [(.int (p2 &&& (3 : Int32))), (.int (8 : Int32)), (.int (24 : Int32))])) _
          refine XS.imul X0.here hx rfl (hb hby d10_34) rfl ?_
          show Steps p.tables e below (s₁.setTop (mkF m 35 #[.val (.ref a1), .val (.int p2), .val (.int p3), .val (.int p4), .val (.int p5), .val (.int p4), .unset] [(.int ((8 : Int32) * (p2 &&& (3 : Int32)))), (.int (24 : Int32))])) _
          refine XS.isub X0.here hx rfl (hb hby d10_35) rfl ?_
          show Steps p.tables e below (s₁.setTop (mkF m 36 #[.val (.ref a1), .val (.int p2), .val (.int p3), .val (.int p4), .val (.int p5), .val (.int p4), .unset] [(.int ((24 : Int32) - ((8 : Int32) * (p2 &&& (3 : Int32)))))])) _
          refine XS.istore X0.here hx rfl (hb hby d10_36) rfl (l' := #[.val (.ref a1), .val (.int p2), .val (.int p3), .val (.int p4), .val (.int p5), .val (.int p4), .val (.int ((24 : Int32) - ((8 : Int32) * (p2 &&& (3 : Int32)))))]) rfl ?_
          show Steps p.tables e below (s₁.setTop (mkF m 38 #[.val (.ref a1), .val (.int p2), .val (.int p3), .val (.int p4), .val (.int p5), .val (.int p4), .val (.int ((24 : Int32) - ((8 : Int32) * (p2 &&& (3 : Int32)))))] [])) _
          refine XS.aloadN X0.here hx rfl (hb hby d10_38) rfl rfl ?_
          show Steps p.tables e below (s₁.setTop (mkF m 39 #[.val (.ref a1), .val (.int p2), .val (.int p3), .val (.int p4), .val (.int p5), .val (.int p4), .val (.int ((24 : Int32) - ((8 : Int32) * (p2 &&& (3 : Int32)))))] [(.ref a1)])) _
          refine XS.iloadN X0.here hx rfl (hb hby d10_39) rfl ?_
          show Steps p.tables e below (s₁.setTop (mkF m 40 #[.val (.ref a1), .val (.int p2), .val (.int p3), .val (.int p4), .val (.int p5), .val (.int p4), .val (.int ((24 : Int32) - ((8 : Int32) * (p2 &&& (3 : Int32)))))] [(.int p2), (.ref a1)])) _
          refine X0.baloadBytes hx (j := p2) (v := (.int w6)) (by rw [e0]; exact Ar_a1.1) (State.isArrayOf_alike hZ.alike Ar_a1.2.1) Ar_a1.2.2 hin40 hat40 (g := (mkF m 40 #[.val (.ref a1), .val (.int p2), .val (.int p3), .val (.int p4), .val (.int p5), .val (.int p4), .val (.int ((24 : Int32) - ((8 : Int32) * (p2 &&& (3 : Int32)))))] [(.int p2), (.ref a1)])) rfl rfl (hb hby d10_40) _ ?_
          show Steps p.tables e below (s₁.setTop (mkF m 41 #[.val (.ref a1), .val (.int p2), .val (.int p3), .val (.int p4), .val (.int p5), .val (.int p4), .val (.int ((24 : Int32) - ((8 : Int32) * (p2 &&& (3 : Int32)))))] [(.int w6)])) _
          refine XS.iload X0.here hx rfl (hb hby d10_41) rfl ?_
          show Steps p.tables e below (s₁.setTop (mkF m 43 #[.val (.ref a1), .val (.int p2), .val (.int p3), .val (.int p4), .val (.int p5), .val (.int p4), .val (.int ((24 : Int32) - ((8 : Int32) * (p2 &&& (3 : Int32)))))] [(.int p4), (.int w6)])) _
          refine XS.iload X0.here hx rfl (hb hby d10_43) rfl ?_
          show Steps p.tables e below (s₁.setTop (mkF m 45 #[.val (.ref a1), .val (.int p2), .val (.int p3), .val (.int p4), .val (.int p5), .val (.int p4), .val (.int ((24 : Int32) - ((8 : Int32) * (p2 &&& (3 : Int32)))))] [(.int ((24 : Int32) - ((8 : Int32) * (p2 &&& (3 : Int32))))), (.int p4), (.int w6)])) _
          refine XS.iushr X0.here hx rfl (hb hby d10_45) rfl ?_
          show Steps p.tables e below (s₁.setTop (mkF m 46 #[.val (.ref a1), .val (.int p2), .val (.int p3), .val (.int p4), .val (.int p5), .val (.int p4), .val (.int ((24 : Int32) - ((8 : Int32) * (p2 &&& (3 : Int32)))))] [(.int ((p4.toUInt32 >>> (((24 : Int32) - ((8 : Int32) * (p2 &&& (3 : Int32)))) &&& 31).toUInt32).toInt32)), (.int w6)])) _
          refine XS.i2b X0.here hx rfl (hb hby d10_46) rfl ?_
          show Steps p.tables e below (s₁.setTop (mkF m 47 #[.val (.ref a1), .val (.int p2), .val (.int p3), .val (.int p4), .val (.int p5), .val (.int p4), .val (.int ((24 : Int32) - ((8 : Int32) * (p2 &&& (3 : Int32)))))] [(.int (((p4.toUInt32 >>> (((24 : Int32) - ((8 : Int32) * (p2 &&& (3 : Int32)))) &&& 31).toUInt32).toInt32).toInt8.toInt32)), (.int w6)])) _
          by_cases hc47 : w6 = (((p4.toUInt32 >>> (((24 : Int32) - ((8 : Int32) * (p2 &&& (3 : Int32)))) &&& 31).toUInt32).toInt32).toInt8.toInt32)
          · refine XS.icmpNo X0.here hx rfl (hb hby d10_47) rfl (teq hc47).2 ?_
            show Steps p.tables e below (s₁.setTop (mkF m 50 #[.val (.ref a1), .val (.int p2), .val (.int p3), .val (.int p4), .val (.int p5), .val (.int p4), .val (.int ((24 : Int32) - ((8 : Int32) * (p2 &&& (3 : Int32)))))] [])) _
            refine XS.iconst X0.here hx rfl (hb hby d10_50) ?_
            show Steps p.tables e below (s₁.setTop (mkF m 51 #[.val (.ref a1), .val (.int p2), .val (.int p3), .val (.int p4), .val (.int p5), .val (.int p4), .val (.int ((24 : Int32) - ((8 : Int32) * (p2 &&& (3 : Int32)))))] [(.int (1 : Int32))])) _
            refine XS.goto X0.here hx rfl (pc0 := 51) (pc' := 55) rfl (hb hby d10_51) (by decide) (by decide) ?_
            show Steps p.tables e below (s₁.setTop (mkF m 55 #[.val (.ref a1), .val (.int p2), .val (.int p3), .val (.int p4), .val (.int p5), .val (.int p4), .val (.int ((24 : Int32) - ((8 : Int32) * (p2 &&& (3 : Int32)))))] [(.int (1 : Int32))])) _
            have hv : (own_kept p2 p3 p4 p5 w6) = (1 : Int32) := by unfold own_kept; rw [if_neg hc2, if_neg hc9, if_pos hc16, if_pos hc47]
            rw [hv] at hr
            exact retN X0 hx (t := .boolean) Bd.returns (by simp) (hb hby d10_55) hr
          · refine XS.icmpYes X0.here hx rfl (pc0 := 47) (pc' := 54) rfl (hb hby d10_47) rfl (feq hc47).2 (by decide) (by decide) ?_
            show Steps p.tables e below (s₁.setTop (mkF m 54 #[.val (.ref a1), .val (.int p2), .val (.int p3), .val (.int p4), .val (.int p5), .val (.int p4), .val (.int ((24 : Int32) - ((8 : Int32) * (p2 &&& (3 : Int32)))))] [])) _
            refine XS.iconst X0.here hx rfl (hb hby d10_54) ?_
            show Steps p.tables e below (s₁.setTop (mkF m 55 #[.val (.ref a1), .val (.int p2), .val (.int p3), .val (.int p4), .val (.int p5), .val (.int p4), .val (.int ((24 : Int32) - ((8 : Int32) * (p2 &&& (3 : Int32)))))] [(.int (0 : Int32))])) _
            have hv : (own_kept p2 p3 p4 p5 w6) = (0 : Int32) := by unfold own_kept; rw [if_neg hc2, if_neg hc9, if_pos hc16, if_neg hc47]
            rw [hv] at hr
            exact retN X0 hx (t := .boolean) Bd.returns (by simp) (hb hby d10_55) hr
        · refine XS.icmpYes X0.here hx rfl (pc0 := 16) (pc' := 23) rfl (hb hby d10_16) rfl (flt hc16).2.1 (by decide) (by decide) ?_
          show Steps p.tables e below (s₁.setTop (mkF m 23 #[.val (.ref a1), .val (.int p2), .val (.int p3), .val (.int p4), .val (.int p5), .unset, .unset] [])) _
          refine XS.iload X0.here hx rfl (hb hby d10_23) rfl ?_
          show Steps p.tables e below (s₁.setTop (mkF m 25 #[.val (.ref a1), .val (.int p2), .val (.int p3), .val (.int p4), .val (.int p5), .unset, .unset] [(.int p5)])) _
          refine XS.istore X0.here hx rfl (hb hby d10_25) rfl (l' := #[.val (.ref a1), .val (.int p2), .val (.int p3), .val (.int p4), .val (.int p5), .val (.int p5), .unset]) rfl ?_
          show Steps p.tables e below (s₁.setTop (mkF m 27 #[.val (.ref a1), .val (.int p2), .val (.int p3), .val (.int p4), .val (.int p5), .val (.int p5), .unset] [])) _
          refine XS.bipush X0.here hx rfl (hb hby d10_27) ?_
          show Steps p.tables e below (s₁.setTop (mkF m 29 #[.val (.ref a1), .val (.int p2), .val (.int p3), .val (.int p4), .val (.int p5), .val (.int p5), .unset] [(.int (24 : Int32))])) _
          refine XS.bipush X0.here hx rfl (hb hby d10_29) ?_
          show Steps p.tables e below (s₁.setTop (mkF m 31 #[.val (.ref a1), .val (.int p2), .val (.int p3), .val (.int p4), .val (.int p5), .val (.int p5), .unset] [(.int (8 : Int32)), (.int (24 : Int32))])) _
          refine XS.iloadN X0.here hx rfl (hb hby d10_31) rfl ?_
          show Steps p.tables e below (s₁.setTop (mkF m 32 #[.val (.ref a1), .val (.int p2), .val (.int p3), .val (.int p4), .val (.int p5), .val (.int p5), .unset] [(.int p2), (.int (8 : Int32)), (.int (24 : Int32))])) _
          refine XS.iconst X0.here hx rfl (hb hby d10_32) ?_
          show Steps p.tables e below (s₁.setTop (mkF m 33 #[.val (.ref a1), .val (.int p2), .val (.int p3), .val (.int p4), .val (.int p5), .val (.int p5), .unset] [(.int (3 : Int32)), (.int p2), (.int (8 : Int32)), (.int (24 : Int32))])) _
          refine XS.iand X0.here hx rfl (hb hby d10_33) rfl ?_
          show Steps p.tables e below (s₁.setTop (mkF m 34 #[.val (.ref a1), .val (.int p2), .val (.int p3), .val (.int p4), .val (.int p5), .val (.int p5), .unset] [(.int (p2 &&& (3 : Int32))), (.int (8 : Int32)), (.int (24 : Int32))])) _
          refine XS.imul X0.here hx rfl (hb hby d10_34) rfl ?_
          show Steps p.tables e below (s₁.setTop (mkF m 35 #[.val (.ref a1), .val (.int p2), .val (.int p3), .val (.int p4), .val (.int p5), .val (.int p5), .unset] [(.int ((8 : Int32) * (p2 &&& (3 : Int32)))), (.int (24 : Int32))])) _
          refine XS.isub X0.here hx rfl (hb hby d10_35) rfl ?_
          show Steps p.tables e below (s₁.setTop (mkF m 36 #[.val (.ref a1), .val (.int p2), .val (.int p3), .val (.int p4), .val (.int p5), .val (.int p5), .unset] [(.int ((24 : Int32) - ((8 : Int32) * (p2 &&& (3 : Int32)))))])) _
          refine XS.istore X0.here hx rfl (hb hby d10_36) rfl (l' := #[.val (.ref a1), .val (.int p2), .val (.int p3), .val (.int p4), .val (.int p5), .val (.int p5), .val (.int ((24 : Int32) - ((8 : Int32) * (p2 &&& (3 : Int32)))))]) rfl ?_
          show Steps p.tables e below (s₁.setTop (mkF m 38 #[.val (.ref a1), .val (.int p2), .val (.int p3), .val (.int p4), .val (.int p5), .val (.int p5), .val (.int ((24 : Int32) - ((8 : Int32) * (p2 &&& (3 : Int32)))))] [])) _
          refine XS.aloadN X0.here hx rfl (hb hby d10_38) rfl rfl ?_
          show Steps p.tables e below (s₁.setTop (mkF m 39 #[.val (.ref a1), .val (.int p2), .val (.int p3), .val (.int p4), .val (.int p5), .val (.int p5), .val (.int ((24 : Int32) - ((8 : Int32) * (p2 &&& (3 : Int32)))))] [(.ref a1)])) _
          refine XS.iloadN X0.here hx rfl (hb hby d10_39) rfl ?_
          show Steps p.tables e below (s₁.setTop (mkF m 40 #[.val (.ref a1), .val (.int p2), .val (.int p3), .val (.int p4), .val (.int p5), .val (.int p5), .val (.int ((24 : Int32) - ((8 : Int32) * (p2 &&& (3 : Int32)))))] [(.int p2), (.ref a1)])) _
          refine X0.baloadBytes hx (j := p2) (v := (.int w6)) (by rw [e0]; exact Ar_a1.1) (State.isArrayOf_alike hZ.alike Ar_a1.2.1) Ar_a1.2.2 hin40 hat40 (g := (mkF m 40 #[.val (.ref a1), .val (.int p2), .val (.int p3), .val (.int p4), .val (.int p5), .val (.int p5), .val (.int ((24 : Int32) - ((8 : Int32) * (p2 &&& (3 : Int32)))))] [(.int p2), (.ref a1)])) rfl rfl (hb hby d10_40) _ ?_
          show Steps p.tables e below (s₁.setTop (mkF m 41 #[.val (.ref a1), .val (.int p2), .val (.int p3), .val (.int p4), .val (.int p5), .val (.int p5), .val (.int ((24 : Int32) - ((8 : Int32) * (p2 &&& (3 : Int32)))))] [(.int w6)])) _
          refine XS.iload X0.here hx rfl (hb hby d10_41) rfl ?_
          show Steps p.tables e below (s₁.setTop (mkF m 43 #[.val (.ref a1), .val (.int p2), .val (.int p3), .val (.int p4), .val (.int p5), .val (.int p5), .val (.int ((24 : Int32) - ((8 : Int32) * (p2 &&& (3 : Int32)))))] [(.int p5), (.int w6)])) _
          refine XS.iload X0.here hx rfl (hb hby d10_43) rfl ?_
          show Steps p.tables e below (s₁.setTop (mkF m 45 #[.val (.ref a1), .val (.int p2), .val (.int p3), .val (.int p4), .val (.int p5), .val (.int p5), .val (.int ((24 : Int32) - ((8 : Int32) * (p2 &&& (3 : Int32)))))] [(.int ((24 : Int32) - ((8 : Int32) * (p2 &&& (3 : Int32))))), (.int p5), (.int w6)])) _
          refine XS.iushr X0.here hx rfl (hb hby d10_45) rfl ?_
          show Steps p.tables e below (s₁.setTop (mkF m 46 #[.val (.ref a1), .val (.int p2), .val (.int p3), .val (.int p4), .val (.int p5), .val (.int p5), .val (.int ((24 : Int32) - ((8 : Int32) * (p2 &&& (3 : Int32)))))] [(.int ((p5.toUInt32 >>> (((24 : Int32) - ((8 : Int32) * (p2 &&& (3 : Int32)))) &&& 31).toUInt32).toInt32)), (.int w6)])) _
          refine XS.i2b X0.here hx rfl (hb hby d10_46) rfl ?_
          show Steps p.tables e below (s₁.setTop (mkF m 47 #[.val (.ref a1), .val (.int p2), .val (.int p3), .val (.int p4), .val (.int p5), .val (.int p5), .val (.int ((24 : Int32) - ((8 : Int32) * (p2 &&& (3 : Int32)))))] [(.int (((p5.toUInt32 >>> (((24 : Int32) - ((8 : Int32) * (p2 &&& (3 : Int32)))) &&& 31).toUInt32).toInt32).toInt8.toInt32)), (.int w6)])) _
          by_cases hc47 : w6 = (((p5.toUInt32 >>> (((24 : Int32) - ((8 : Int32) * (p2 &&& (3 : Int32)))) &&& 31).toUInt32).toInt32).toInt8.toInt32)
          · refine XS.icmpNo X0.here hx rfl (hb hby d10_47) rfl (teq hc47).2 ?_
            show Steps p.tables e below (s₁.setTop (mkF m 50 #[.val (.ref a1), .val (.int p2), .val (.int p3), .val (.int p4), .val (.int p5), .val (.int p5), .val (.int ((24 : Int32) - ((8 : Int32) * (p2 &&& (3 : Int32)))))] [])) _
            refine XS.iconst X0.here hx rfl (hb hby d10_50) ?_
            show Steps p.tables e below (s₁.setTop (mkF m 51 #[.val (.ref a1), .val (.int p2), .val (.int p3), .val (.int p4), .val (.int p5), .val (.int p5), .val (.int ((24 : Int32) - ((8 : Int32) * (p2 &&& (3 : Int32)))))] [(.int (1 : Int32))])) _
            refine XS.goto X0.here hx rfl (pc0 := 51) (pc' := 55) rfl (hb hby d10_51) (by decide) (by decide) ?_
            show Steps p.tables e below (s₁.setTop (mkF m 55 #[.val (.ref a1), .val (.int p2), .val (.int p3), .val (.int p4), .val (.int p5), .val (.int p5), .val (.int ((24 : Int32) - ((8 : Int32) * (p2 &&& (3 : Int32)))))] [(.int (1 : Int32))])) _
            have hv : (own_kept p2 p3 p4 p5 w6) = (1 : Int32) := by unfold own_kept; rw [if_neg hc2, if_neg hc9, if_neg hc16, if_pos hc47]
            rw [hv] at hr
            exact retN X0 hx (t := .boolean) Bd.returns (by simp) (hb hby d10_55) hr
          · refine XS.icmpYes X0.here hx rfl (pc0 := 47) (pc' := 54) rfl (hb hby d10_47) rfl (feq hc47).2 (by decide) (by decide) ?_
            show Steps p.tables e below (s₁.setTop (mkF m 54 #[.val (.ref a1), .val (.int p2), .val (.int p3), .val (.int p4), .val (.int p5), .val (.int p5), .val (.int ((24 : Int32) - ((8 : Int32) * (p2 &&& (3 : Int32)))))] [])) _
            refine XS.iconst X0.here hx rfl (hb hby d10_54) ?_
            show Steps p.tables e below (s₁.setTop (mkF m 55 #[.val (.ref a1), .val (.int p2), .val (.int p3), .val (.int p4), .val (.int p5), .val (.int p5), .val (.int ((24 : Int32) - ((8 : Int32) * (p2 &&& (3 : Int32)))))] [(.int (0 : Int32))])) _
            have hv : (own_kept p2 p3 p4 p5 w6) = (0 : Int32) := by unfold own_kept; rw [if_neg hc2, if_neg hc9, if_neg hc16, if_neg hc47]
            rw [hv] at hr
            exact retN X0 hx (t := .boolean) Bd.returns (by simp) (hb hby d10_55) hr
  · show Q10 Z a1 p2 p3 p4 p5 w6 cl_a1 h0 n0 _ s₁.heap _
    rw [e0]
    exact ⟨rfl, N0, rfl⟩
def own_flag (i4 : Int32) : Int32 := if (i4 &&& (1 : Int32)) = (0 : Int32) then (0 : Int32) else (1 : Int32)
set_option maxRecDepth 65536 in
set_option maxHeartbeats 40000000 in
theorem tn0_4_16 {p : Program} {l : Launch} {e : Env} {R : Room} {s : State} {m : MethodId} {args : Array Value} {below : List Frame} {meth : Method} {c : Code} {T0 : State} {locs : List Loc} {cells slots : Nat} {Z : State} {a0 : Array Value} {h0 : Heap} (s0 : Slot) (s1 : Slot) (s2 : Slot) (s3 : Slot) (i4 : Int32) (s5 : Slot) (s6 : Slot) (s7 : Slot) (s8 : Slot) (rest : List Value)
    (X0 : Stand p l e R s m args below meth c T0 locs cells slots) (hx : p.tables.exec = Jvm.exec) (hZ : Z.Warmed39 s.vm) (hw : ∀ d ∈ tables_1, d.before a0 Z = true) (hby : c.code = code) (hml : c.maxLocals = 9) (hown : s.vm.findClass "com/example/acqueue/acqueue/WireWriterPutInt32PinLaw" = some m.cls) (e0 : T0.heap = h0) :
      ∀ target, Steps p.tables e below (T0.setTop (mkF m 16 #[s0, s1, s2, s3, .val (.int i4), s5, s6, s7, s8] ((.int (own_flag i4)) :: rest))) target → Steps p.tables e below (T0.setTop (mkF m 4 #[s0, s1, s2, s3, .val (.int i4), s5, s6, s7, s8] (rest))) target := by
  intro target kt
  show Steps p.tables e below (T0.setTop (mkF m 4 #[s0, s1, s2, s3, .val (.int i4), s5, s6, s7, s8] (rest))) _
  refine XS.iload X0.here hx rfl (hb hby at_4) rfl ?_
  show Steps p.tables e below (T0.setTop (mkF m 6 #[s0, s1, s2, s3, .val (.int i4), s5, s6, s7, s8] ((.int i4) :: rest))) _
  refine XS.iconst X0.here hx rfl (hb hby at_6) ?_
  show Steps p.tables e below (T0.setTop (mkF m 7 #[s0, s1, s2, s3, .val (.int i4), s5, s6, s7, s8] ((.int (1 : Int32)) :: (.int i4) :: rest))) _
  refine XS.iand X0.here hx rfl (hb hby at_7) rfl ?_
  show Steps p.tables e below (T0.setTop (mkF m 8 #[s0, s1, s2, s3, .val (.int i4), s5, s6, s7, s8] ((.int (i4 &&& (1 : Int32))) :: rest))) _
  by_cases hc8 : (i4 &&& (1 : Int32)) = (0 : Int32)
  · refine XS.ifYes X0.here hx rfl (pc0 := 8) (pc' := 15) rfl (hb hby at_8) rfl ((if0 _ _).trans (teq hc8).1) (by decide) (by decide) ?_
    show Steps p.tables e below (T0.setTop (mkF m 15 #[s0, s1, s2, s3, .val (.int i4), s5, s6, s7, s8] (rest))) _
    refine XS.iconst X0.here hx rfl (hb hby at_15) ?_
    have hv : (own_flag i4) = (0 : Int32) := by unfold own_flag; rw [if_pos hc8]
    rw [hv] at kt
    exact kt
  · refine XS.ifNo X0.here hx rfl (hb hby at_8) rfl ((if0 _ _).trans (feq hc8).1) ?_
    show Steps p.tables e below (T0.setTop (mkF m 11 #[s0, s1, s2, s3, .val (.int i4), s5, s6, s7, s8] (rest))) _
    refine XS.iconst X0.here hx rfl (hb hby at_11) ?_
    show Steps p.tables e below (T0.setTop (mkF m 12 #[s0, s1, s2, s3, .val (.int i4), s5, s6, s7, s8] ((.int (1 : Int32)) :: rest))) _
    refine XS.goto X0.here hx rfl (pc0 := 12) (pc' := 16) rfl (hb hby at_12) (by decide) (by decide) ?_
    have hv : (own_flag i4) = (1 : Int32) := by unfold own_flag; rw [if_neg hc8]
    rw [hv] at kt
    exact kt

def own_int (v : Value) : Int32 := match v with
  | .int x => x
  | _ => 0
def own_w (a b v : Int32) (i j : Nat) : Int32 := own_int ((own_s4 (own_vs a b) i v).getD j (.int (0 : Int32)))
theorem own_w_eq (a b v : Int32) (i j : Nat) (hi : i < 5) (hj : j < 8) : (own_s4 (own_vs a b) i v).getD j (.int (0 : Int32)) = .int (own_w a b v i j) := by
  match i, j, hi, hj with
  | 0, 0, _, _ => exact rfl
  | 0, 1, _, _ => exact rfl
  | 0, 2, _, _ => exact rfl
  | 0, 3, _, _ => exact rfl
  | 0, 4, _, _ => exact rfl
  | 0, 5, _, _ => exact rfl
  | 0, 6, _, _ => exact rfl
  | 0, 7, _, _ => exact rfl
  | 1, 0, _, _ => exact rfl
  | 1, 1, _, _ => exact rfl
  | 1, 2, _, _ => exact rfl
  | 1, 3, _, _ => exact rfl
  | 1, 4, _, _ => exact rfl
  | 1, 5, _, _ => exact rfl
  | 1, 6, _, _ => exact rfl
  | 1, 7, _, _ => exact rfl
  | 2, 0, _, _ => exact rfl
  | 2, 1, _, _ => exact rfl
  | 2, 2, _, _ => exact rfl
  | 2, 3, _, _ => exact rfl
  | 2, 4, _, _ => exact rfl
  | 2, 5, _, _ => exact rfl
  | 2, 6, _, _ => exact rfl
  | 2, 7, _, _ => exact rfl
  | 3, 0, _, _ => exact rfl
  | 3, 1, _, _ => exact rfl
  | 3, 2, _, _ => exact rfl
  | 3, 3, _, _ => exact rfl
  | 3, 4, _, _ => exact rfl
  | 3, 5, _, _ => exact rfl
  | 3, 6, _, _ => exact rfl
  | 3, 7, _, _ => exact rfl
  | 4, 0, _, _ => exact rfl
  | 4, 1, _, _ => exact rfl
  | 4, 2, _, _ => exact rfl
  | 4, 3, _, _ => exact rfl
  | 4, 4, _, _ => exact rfl
  | 4, 5, _, _ => exact rfl
  | 4, 6, _, _ => exact rfl
  | 4, 7, _, _ => exact rfl
theorem own_nar (x : Int32) : nar .byte (x.toInt8.toInt32) = x.toInt8.toInt32 := by
  show (x.toInt8.toInt32).toInt8.toInt32 = _
  rw [Int8.toInt8_toInt32]
theorem own_us_t (x k : Int32) (n : Nat) (hk : k.toBitVec.toNat % 32 = n) (h0 : 0 < n) : (own_us x k).toInt = (x.toInt % 4294967296) / (2 ^ n : Nat) := c_iushr x k n hk h0
theorem own_us24 (a : Int32) : own_us (own_us a (16 : Int32)) (8 : Int32) = own_us a (24 : Int32) := by
  rw [← Int32.toInt_inj, own_us_t _ _ 8 (by decide) (by decide), own_us_t _ _ 16 (by decide) (by decide), own_us_t _ _ 24 (by decide) (by decide)]
  omega
theorem own_us0 (a k : Int32) (h : (k &&& 31) = 0) : own_us a k = a := by
  unfold own_us
  rw [h]
  show (a.toUInt32 >>> (0 : UInt32)).toInt32 = a
  rw [UInt32.shiftRight_zero]
  rfl
theorem own_q0 (a k : Int32) (h : k = (24 : Int32)) : nar .byte ((own_us (own_us a (16 : Int32)) (8 : Int32)).toInt8.toInt32) = (own_us a k).toInt8.toInt32 := by
  rw [own_nar, own_us24, h]
theorem own_q1 (a k : Int32) (h : k = (16 : Int32)) : nar .byte ((own_us a (16 : Int32)).toInt8.toInt32) = (own_us a k).toInt8.toInt32 := by
  rw [own_nar, h]
theorem own_q2 (a k : Int32) (h : k = (8 : Int32)) : nar .byte ((own_us a (8 : Int32)).toInt8.toInt32) = (own_us a k).toInt8.toInt32 := by
  rw [own_nar, h]
theorem own_q3 (a k : Int32) (h : k = (0 : Int32)) : nar .byte (a.toInt8.toInt32) = (own_us a k).toInt8.toInt32 := by
  rw [own_nar, own_us0 _ _ (by rw [h]; decide)]
theorem own_kc_0 (a b v : Int32) (j : Nat) (hj : j < 8) : own_kept (Int32.ofNat j) (Int32.ofNat 0) a b (own_w a b v 0 j) = (1 : Int32) := by
  match j, hj with
  | 0, _ => unfold own_kept; rw [if_neg (by decide), if_pos (by decide)]
  | 1, _ => unfold own_kept; rw [if_neg (by decide), if_pos (by decide)]
  | 2, _ => unfold own_kept; rw [if_neg (by decide), if_pos (by decide)]
  | 3, _ => unfold own_kept; rw [if_neg (by decide), if_pos (by decide)]
  | 4, _ => unfold own_kept; rw [if_neg (by decide), if_neg (by decide), if_neg (by decide)]; exact if_pos (own_q0 b _ (by decide))
  | 5, _ => unfold own_kept; rw [if_neg (by decide), if_neg (by decide), if_neg (by decide)]; exact if_pos (own_q1 b _ (by decide))
  | 6, _ => unfold own_kept; rw [if_neg (by decide), if_neg (by decide), if_neg (by decide)]; exact if_pos (own_q2 b _ (by decide))
  | 7, _ => unfold own_kept; rw [if_neg (by decide), if_neg (by decide), if_neg (by decide)]; exact if_pos (own_q3 b _ (by decide))
theorem own_kc_1 (a b v : Int32) (j : Nat) (hj : j < 8) : own_kept (Int32.ofNat j) (Int32.ofNat 1) a b (own_w a b v 1 j) = (1 : Int32) := by
  match j, hj with
  | 0, _ => unfold own_kept; rw [if_pos (by decide), if_pos (by decide)]; exact if_pos (own_q0 a _ (by decide))
  | 1, _ => unfold own_kept; rw [if_neg (by decide), if_pos (by decide)]
  | 2, _ => unfold own_kept; rw [if_neg (by decide), if_pos (by decide)]
  | 3, _ => unfold own_kept; rw [if_neg (by decide), if_pos (by decide)]
  | 4, _ => unfold own_kept; rw [if_neg (by decide), if_pos (by decide)]
  | 5, _ => unfold own_kept; rw [if_neg (by decide), if_neg (by decide), if_neg (by decide)]; exact if_pos (own_q1 b _ (by decide))
  | 6, _ => unfold own_kept; rw [if_neg (by decide), if_neg (by decide), if_neg (by decide)]; exact if_pos (own_q2 b _ (by decide))
  | 7, _ => unfold own_kept; rw [if_neg (by decide), if_neg (by decide), if_neg (by decide)]; exact if_pos (own_q3 b _ (by decide))
theorem own_kc_2 (a b v : Int32) (j : Nat) (hj : j < 8) : own_kept (Int32.ofNat j) (Int32.ofNat 2) a b (own_w a b v 2 j) = (1 : Int32) := by
  match j, hj with
  | 0, _ => unfold own_kept; rw [if_pos (by decide), if_pos (by decide)]; exact if_pos (own_q0 a _ (by decide))
  | 1, _ => unfold own_kept; rw [if_pos (by decide), if_pos (by decide)]; exact if_pos (own_q1 a _ (by decide))
  | 2, _ => unfold own_kept; rw [if_neg (by decide), if_pos (by decide)]
  | 3, _ => unfold own_kept; rw [if_neg (by decide), if_pos (by decide)]
  | 4, _ => unfold own_kept; rw [if_neg (by decide), if_pos (by decide)]
  | 5, _ => unfold own_kept; rw [if_neg (by decide), if_pos (by decide)]
  | 6, _ => unfold own_kept; rw [if_neg (by decide), if_neg (by decide), if_neg (by decide)]; exact if_pos (own_q2 b _ (by decide))
  | 7, _ => unfold own_kept; rw [if_neg (by decide), if_neg (by decide), if_neg (by decide)]; exact if_pos (own_q3 b _ (by decide))
theorem own_kc_3 (a b v : Int32) (j : Nat) (hj : j < 8) : own_kept (Int32.ofNat j) (Int32.ofNat 3) a b (own_w a b v 3 j) = (1 : Int32) := by
  match j, hj with
  | 0, _ => unfold own_kept; rw [if_pos (by decide), if_pos (by decide)]; exact if_pos (own_q0 a _ (by decide))
  | 1, _ => unfold own_kept; rw [if_pos (by decide), if_pos (by decide)]; exact if_pos (own_q1 a _ (by decide))
  | 2, _ => unfold own_kept; rw [if_pos (by decide), if_pos (by decide)]; exact if_pos (own_q2 a _ (by decide))
  | 3, _ => unfold own_kept; rw [if_neg (by decide), if_pos (by decide)]
  | 4, _ => unfold own_kept; rw [if_neg (by decide), if_pos (by decide)]
  | 5, _ => unfold own_kept; rw [if_neg (by decide), if_pos (by decide)]
  | 6, _ => unfold own_kept; rw [if_neg (by decide), if_pos (by decide)]
  | 7, _ => unfold own_kept; rw [if_neg (by decide), if_neg (by decide), if_neg (by decide)]; exact if_pos (own_q3 b _ (by decide))
theorem own_kc_4 (a b v : Int32) (j : Nat) (hj : j < 8) : own_kept (Int32.ofNat j) (Int32.ofNat 4) a b (own_w a b v 4 j) = (1 : Int32) := by
  match j, hj with
  | 0, _ => unfold own_kept; rw [if_pos (by decide), if_pos (by decide)]; exact if_pos (own_q0 a _ (by decide))
  | 1, _ => unfold own_kept; rw [if_pos (by decide), if_pos (by decide)]; exact if_pos (own_q1 a _ (by decide))
  | 2, _ => unfold own_kept; rw [if_pos (by decide), if_pos (by decide)]; exact if_pos (own_q2 a _ (by decide))
  | 3, _ => unfold own_kept; rw [if_pos (by decide), if_pos (by decide)]; exact if_pos (own_q3 a _ (by decide))
  | 4, _ => unfold own_kept; rw [if_neg (by decide), if_pos (by decide)]
  | 5, _ => unfold own_kept; rw [if_neg (by decide), if_pos (by decide)]
  | 6, _ => unfold own_kept; rw [if_neg (by decide), if_pos (by decide)]
  | 7, _ => unfold own_kept; rw [if_neg (by decide), if_pos (by decide)]
theorem own_k1 {P : Int32} {i : Nat} (hi : i < 5) (hP : P = Int32.ofNat i) (a b v : Int32) (j : Nat) (hj : j < 8) : ¬ (own_kept (Int32.ofNat j) P a b (own_w a b v i j) = (0 : Int32)) := by
  have h : own_kept (Int32.ofNat j) P a b (own_w a b v i j) = (1 : Int32) := by
    subst hP
    match i, hi with
    | 0, _ => exact own_kc_0 a b v j hj
    | 1, _ => exact own_kc_1 a b v j hj
    | 2, _ => exact own_kc_2 a b v j hj
    | 3, _ => exact own_kc_3 a b v j hj
    | 4, _ => exact own_kc_4 a b v j hj
  rw [h]
  decide
def own_P (pos : Int32) : Int32 := (pos &&& (2147483647 : Int32)) % (5 : Int32)
theorem own_P5 (pos : Int32) : ∃ i : Nat, i < 5 ∧ (own_P pos).toInt = (i : Int) ∧ own_P pos = Int32.ofNat i := by
  have h := c_mask pos (2147483647 : Int32) 31 (by decide) (by decide)
  have k : (5 : Int32).toInt = 5 := by decide
  have q := (c_irem (pos &&& (2147483647 : Int32)) (5 : Int32) 5 k).1 (by rw [h]; omega)
  have e : (own_P pos).toInt = (pos &&& (2147483647 : Int32)).toInt % 5 := q
  refine ⟨(own_P pos).toInt.toNat, by omega, by omega, ?_⟩
  rw [← Int32.toInt_inj, Int32.toInt_ofNat_of_lt (by omega)]
  omega
def own_got (w0 w1 w2 w3 : Int32) : Int32 := (((((w0 &&& (255 : Int32)) <<< ((24 : Int32) &&& 31)) ||| ((w1 &&& (255 : Int32)) <<< ((16 : Int32) &&& 31))) ||| ((w2 &&& (255 : Int32)) <<< ((8 : Int32) &&& 31))) ||| (w3 &&& (255 : Int32)))
theorem own_b8 (x : Int32) : ((nar .byte (x.toInt8.toInt32)) &&& (255 : Int32)).toInt = x.toInt % 256 := by
  rw [own_nar, c_mask _ (255 : Int32) 8 (by decide) (by decide)]
  have h := c_i2b x
  omega
theorem own_got_eq (v : Int32) : own_got (nar .byte ((own_us v (24 : Int32)).toInt8.toInt32)) (nar .byte ((own_us v (16 : Int32)).toInt8.toInt32)) (nar .byte ((own_us v (8 : Int32)).toInt8.toInt32)) (nar .byte (v.toInt8.toInt32)) = v := by
  have b0 := own_b8 (own_us v (24 : Int32))
  have b1 := own_b8 (own_us v (16 : Int32))
  have b2 := own_b8 (own_us v (8 : Int32))
  have b3 := own_b8 v
  rw [own_us_t _ _ 24 (by decide) (by decide)] at b0
  rw [own_us_t _ _ 16 (by decide) (by decide)] at b1
  rw [own_us_t _ _ 8 (by decide) (by decide)] at b2
  unfold own_got
  generalize (nar .byte ((own_us v (24 : Int32)).toInt8.toInt32)) &&& (255 : Int32) = x0 at *
  generalize (nar .byte ((own_us v (16 : Int32)).toInt8.toInt32)) &&& (255 : Int32) = x1 at *
  generalize (nar .byte ((own_us v (8 : Int32)).toInt8.toInt32)) &&& (255 : Int32) = x2 at *
  generalize (nar .byte (v.toInt8.toInt32)) &&& (255 : Int32) = x3 at *
  have s0 := c_ishl x0 (24 : Int32) 24 (by decide)
  have s1 := c_ishl x1 (16 : Int32) 16 (by decide)
  have s2 := c_ishl x2 (8 : Int32) 8 (by decide)
  generalize x0 <<< ((24 : Int32) &&& 31) = y0 at *
  generalize x1 <<< ((16 : Int32) &&& 31) = y1 at *
  generalize x2 <<< ((8 : Int32) &&& 31) = y2 at *
  have rv := rng32 v
  have r0 := rng32 y0
  have r1 := rng32 y1
  have r2 := rng32 y2
  have o1 := c_or y0 y1 24 (by decide) 16777216 (by decide) (by omega) (by omega) (by omega)
  have q1 := rng32 (y0 ||| y1)
  generalize y0 ||| y1 = u1 at *
  have o2 := c_or u1 y2 16 (by decide) 65536 (by decide) (by omega) (by omega) (by omega)
  have q2 := rng32 (u1 ||| y2)
  generalize u1 ||| y2 = u2 at *
  have o3 := c_or u2 x3 8 (by decide) 256 (by decide) (by omega) (by omega) (by omega)
  have q3 := rng32 (u2 ||| x3)
  rw [← Int32.toInt_inj]
  omega
theorem own_got_w (a b v : Int32) (i : Nat) (hi : i < 5) : own_got (own_w a b v i (i + 0)) (own_w a b v i (i + 1)) (own_w a b v i (i + 2)) (own_w a b v i (i + 3)) = v := by
  match i, hi with
  | 0, _ => exact own_got_eq v
  | 1, _ => exact own_got_eq v
  | 2, _ => exact own_got_eq v
  | 3, _ => exact own_got_eq v
  | 4, _ => exact own_got_eq v

theorem own_len (vs : List Value) (i : Nat) (x : Int32) : (own_s4 vs i x).length = vs.length := by
  unfold own_s4
  rw [List.length_set, List.length_set, List.length_set, List.length_set]
theorem own_bd8 {j : Int32} {i : Nat} (h : j.toInt = (i : Int)) (hb : i < 8) : ¬ j < 0 ∧ j < (8 : Int32) := by
  have k0 : (0 : Int32).toInt = 0 := by decide
  have k1 : (8 : Int32).toInt = 8 := by decide
  rw [Int32.lt_iff_toInt_lt, Int32.lt_iff_toInt_lt, k0, k1]
  omega
theorem own_at {cl : Cell} {a b v : Int32} {i : Nat} (H : Has cl (own_s4 (own_vs a b) i v) (.int (0 : Int32))) (S : cl.slots.size = (8 : Int32).toNatClampNeg) {j : Int32} {n : Nat} (hj : j.toInt = (n : Int)) (hi : i < 5) (hn : n < 8) : cl.slots[j.toNatClampNeg]? = some (.int (own_w a b v i n)) := by
  rw [own_ix hj, H n (by rw [S]; exact hn), own_w_eq a b v i n hi hn]
theorem pn_0 : plainName "com/example/acqueue/acqueue/WireWriterPutInt32PinLaw" = true := by first | (simp [plainName, overriddenIn]; done) | decide +kernel
theorem pd_0_0 : parseMethodDescriptor "(Z)V" = some ⟨[.boolean], none⟩ := by decide +kernel
theorem pd_0_2 : parseMethodDescriptor "(I)V" = some ⟨[.int], none⟩ := by decide +kernel
theorem pd_0_3 : parseMethodDescriptor "(II)V" = some ⟨[.int, .int], none⟩ := by decide +kernel
theorem pd_0_4 : parseMethodDescriptor "()[B" = some ⟨[], some (.array .byte)⟩ := by decide +kernel
theorem pd_0_8 : parseMethodDescriptor "()I" = some ⟨[], some .int⟩ := by decide +kernel
theorem pd_0_9 : parseMethodDescriptor "([BIIII)Z" = some ⟨[(.array .byte), .int, .int, .int, .int], some .boolean⟩ := by decide +kernel
theorem ef_0 (m : MethodId) (x0 : Int32) (x1 : Int32) (x2 : Int32) (x3 : Int32) (x4 : Int32) : entryFrame m #[(.int x0), (.int x1), (.int x2), (.int x3), (.int x4)] maxLocals = mkF m 0 #[.val (.int x0), .val (.int x1), .val (.int x2), .val (.int x3), .val (.int x4), .unset, .unset, .unset, .unset] [] := by first | (simp [entryFrame, mkF, argsToLocals, Value.category, maxLocals]; done) | rfl
def Q0 (Z : State) (p1 : Int32) (p2 : Int32) (p3 : Int32) (p4 : Int32) (p5 : Int32) (h0 : Heap) (n0 : Nat) (v : Option Value) (h : Heap) (L : List Loc) : Prop := v = some (.int (1 : Int32)) ∧ Fr n0 L
set_option maxRecDepth 65536 in
set_option maxHeartbeats 40000000 in
theorem rm0 (l : Launch) (Z : State) (a0 : Array Value) (hw : ∀ d ∈ tables_1, d.before a0 Z = true) (ws : List Jvm.Cond) (p1 : Int32) (p2 : Int32) (p3 : Int32) (p4 : Int32) (p5 : Int32) (h0 : Heap) (n0 : Nat) (Z0 : n0 ≤ h0.size) :
    MetFree l x (head1 (Jvm.Cond.code x code maxLocals ret :: ws) room_1) (fun a U => a = #[(.int p1), (.int p2), (.int p3), (.int p4), (.int p5)] ∧ Z.Warmed39 U.vm ∧ U.heap = h0) (fun _ _ _ _ _ => True) (fun _ U o U' => ∃ v L, o = .returned v ∧ Q0 Z p1 p2 p3 p4 p5 h0 n0 v U'.heap L ∧ FrameEnd U o U' L room_1.cells room_1.slots) := by
  refine MetFree.of_bodySF (plainFor_of_name pn_0) hisR ?_
  intro p e s m args below meth c s₁ Bd hml0 hP hK
  obtain ⟨rfl, hZ, hh⟩ := hP
  have hx := Bd.exec
  have hby := Bd.bytes
  have hml : c.maxLocals = 9 := hml0
  have hown : s.vm.findClass "com/example/acqueue/acqueue/WireWriterPutInt32PinLaw" = some m.cls := findClass_of_methodNamed Bd.named
  have hnm := (name_of_methodNamed Bd.named Bd.method).1
  have X0 : Stand p l e room_1 s m #[(.int p1), (.int p2), (.int p3), (.int p4), (.int p5)] below meth c s₁ [] 0 0 := Stand.of_body Bd
  have e0 : s₁.heap = h0 := by rw [← hh, Bd.state]; rfl
  have N0 := Fr.nil n0
  have pre0 : ∀ t, Steps p.tables e below (s₁.setTop (mkF m 0 #[.val (.int p1), .val (.int p2), .val (.int p3), .val (.int p4), .val (.int p5), .unset, .unset, .unset, .unset] [])) t → Steps p.tables e below (s₁.setTop (entryFrame m #[(.int p1), (.int p2), (.int p3), (.int p4), (.int p5)] maxLocals)) t := fun t k => castTop (ef_0 m p1 p2 p3 p4 p5) k
  obtain ⟨T6, h6, X6, e6, E6, A6, D6, -, st6⟩ := newO X0 hx hZ hown (hw _ (List.mem_of_getElem? (i := 0) rfl)) (hw _ (List.mem_of_getElem? (i := 1) rfl)) (hw _ (List.mem_of_getElem? (i := 2) rfl)) e0 (g := (mkF m 0 #[.val (.int p1), .val (.int p2), .val (.int p3), .val (.int p4), .val (.int p5), .unset, .unset, .unset, .unset] [])) rfl (hb hby at_0) (by decide) (by decide)
  obtain ⟨b6, g6⟩ : ∃ z, z = h0.size := ⟨_, rfl⟩
  rw [← g6] at A6 D6 st6
  have F_bytes_b6 : Fld Z h6 b6 "com/example/acqueue/acqueue/WireWriter" "bytes" "[B" .null := D6 (Or.inl (hw _ (List.mem_of_getElem? (i := 11) rfl))) (ty := (.array .byte)) (by decide)
  have F_flexible_b6 : Fld Z h6 b6 "com/example/acqueue/acqueue/WireWriter" "flexible" "Z" (.int (0 : Int32)) := D6 (Or.inr (hw _ (List.mem_of_getElem? (i := 13) rfl))) (ty := .boolean) (by decide)
  have F_size_b6 : Fld Z h6 b6 "com/example/acqueue/acqueue/WireWriter" "size" "I" (.int (0 : Int32)) := D6 (Or.inl (hw _ (List.mem_of_getElem? (i := 24) rfl))) (ty := .int) (by decide)
  have E_b6 := A6
  have g_b6 : n0 ≤ b6 := Nat.le_trans Z0 (Nat.le_of_eq g6.symm)
  have sz_b6 : h0.size ≤ b6 := (Nat.le_trans (Keep.refl h0 []).1 (Nat.le_of_eq g6.symm))
  have K6 : Keep h0 h6 [] := (Keep.refl h0 []).ext E6
  obtain ⟨_, _, ⟨T7, L7, k7, n7⟩, -, X7, ⟨Lc7, hQ7, l7, y7, z7⟩, st7⟩ := X6.specialBack hx (y := (⟨"com/example/acqueue/acqueue/WireWriter", "<init>", "(Z)V"⟩ : MethodName)) rfl hown (mvT hZ (hw _ (List.mem_of_getElem? (i := 3) rfl))) (mvT hZ (hw _ (List.mem_of_getElem? (i := 4) rfl))) (mvT hZ (hw _ (List.mem_of_getElem? (i := 5) rfl))) (by decide) (backOf (W := 1) (rm1 l Z a0 hw [] b6 (own_flag p5) .null (.int (0 : Int32)) h6 n0 (Nat.le_trans Z0 K6.1) E_b6 F_bytes_b6 g_b6 F_flexible_b6 F_size_b6) hZ (hw _ (List.mem_of_getElem? (i := 5) rfl)) (hw _ (List.mem_of_getElem? (i := 2) rfl)) (by decide) (by decide)) (g := (mkF m 16 #[.val (.int p1), .val (.int p2), .val (.int p3), .val (.int p4), .val (.int p5), .unset, .unset, .unset, .unset] [(.int (own_flag p5)), (.ref b6), (.ref b6)])) rfl (by rw [hml]; rfl) (Steps.refl _) (a := b6) (argsL := [(.int (own_flag p5))]) (rest := [(.ref b6)]) (lenOf pd_0_0 rfl) rfl (by show 2 * 0 + _ ≤ _; exact Nat.le_of_eq rfl) (hb hby at_16) (fun _ _ => ⟨rfl, e6, (by decide : 1 + 1 ≤ _), (by decide : 3 + 256 ≤ _)⟩)
  dsimp only [Pt.U, Pt.locs, Pt.cells, Pt.slots] at X7 l7 y7 z7 st7 hQ7
  subst l7 y7 z7
  obtain ⟨bb, kB, rfl, N7q, K7q, gbb, W7⟩ := hQ7
  have N7 := Fr.app N0 N7q
  have Z7 : n0 ≤ T7.heap.size := Nat.le_trans (Nat.le_trans Z0 K6.1) K7q.1
  obtain ⟨cq8, kq8, q8a, q8b, q8c⟩ := isOf hZ rfl W7.1
  obtain ⟨_, _, ⟨T8, L8, k8, n8⟩, -, X8, ⟨Lc8, hQ8, l8, y8, z8⟩, st8⟩ := X7.virtualBack hx (y := (⟨"com/example/acqueue/acqueue/WireWriter", "int16", "(I)V"⟩ : MethodName)) (z := (⟨"com/example/acqueue/acqueue/WireWriter", "int16", "(I)V"⟩ : MethodName)) hown (mvT hZ (hw _ (List.mem_of_getElem? (i := 14) rfl))) (mvT hZ (hw _ (List.mem_of_getElem? (i := 15) rfl))) (notFace_of_selects (args := #[]) (mvT hZ (hw _ (List.mem_of_getElem? (i := 17) rfl)))) (mvT hZ (hw _ (List.mem_of_getElem? (i := 17) rfl))) (mvT hZ (hw _ (List.mem_of_getElem? (i := 16) rfl))) (by decide) (backOf (W := 0) (rm3 l Z a0 hw [] b6 ((p1.toUInt32 >>> ((16 : Int32) &&& 31).toUInt32).toInt32) bb (0 : Int32) kB own_z 0 T7.heap n0 Z7 W7.1 W7.2.1 W7.2.2.1 g_b6 W7.2.2.2 (by decide) rfl (by decide) gbb) hZ (hw _ (List.mem_of_getElem? (i := 18) rfl)) (hw _ (List.mem_of_getElem? (i := 2) rfl)) (by decide) (by decide)) q8a q8c (g := (mkF m 27 #[.val (.int p1), .val (.int p2), .val (.int p3), .val (.int p4), .val (.int p5), .val (.ref b6), .unset, .unset, .unset] [(.int ((p1.toUInt32 >>> ((16 : Int32) &&& 31).toUInt32).toInt32)), (.ref b6)])) rfl (by rw [hml]; rfl) (Steps.refl _) (argsL := [(.int ((p1.toUInt32 >>> ((16 : Int32) &&& 31).toUInt32).toInt32))]) (rest := []) (lenOf pd_0_2 rfl) rfl (by show 2 * 0 + _ ≤ _; exact Nat.le_of_eq rfl) (hb hby at_27) (fun _ _ => ⟨rfl, rfl, (by decide : 2 + 0 ≤ _), (by decide : 259 + 0 ≤ _)⟩)
  dsimp only [Pt.U, Pt.locs, Pt.cells, Pt.slots] at X8 l8 y8 z8 st8 hQ8
  subst l8 y8 z8
  obtain ⟨rfl, N8q, K8q, W8q⟩ := hQ8
  have N8 := Fr.app N7 N8q
  rw [show (((0 : Int32) + (1 : Int32)) + (1 : Int32)) = (2 : Int32) by decide] at W8q
  have W8 : own_W Z T8.heap b6 bb kB (2 : Int32) (own_s2 own_z 0 (own_us p1 (16 : Int32))) := W8q
  have Z8 : n0 ≤ T8.heap.size := Nat.le_trans Z7 K8q.1
  obtain ⟨cq9, kq9, q9a, q9b, q9c⟩ := isOf hZ rfl W8.1
  obtain ⟨_, _, ⟨T9, L9, k9, n9⟩, -, X9, ⟨Lc9, hQ9, l9, y9, z9⟩, st9⟩ := X8.virtualBack hx (y := (⟨"com/example/acqueue/acqueue/WireWriter", "int16", "(I)V"⟩ : MethodName)) (z := (⟨"com/example/acqueue/acqueue/WireWriter", "int16", "(I)V"⟩ : MethodName)) hown (mvT hZ (hw _ (List.mem_of_getElem? (i := 14) rfl))) (mvT hZ (hw _ (List.mem_of_getElem? (i := 15) rfl))) (notFace_of_selects (args := #[]) (mvT hZ (hw _ (List.mem_of_getElem? (i := 17) rfl)))) (mvT hZ (hw _ (List.mem_of_getElem? (i := 17) rfl))) (mvT hZ (hw _ (List.mem_of_getElem? (i := 16) rfl))) (by decide) (backOf (W := 0) (rm3 l Z a0 hw [] b6 p1 bb (2 : Int32) kB (own_s2 own_z 0 (own_us p1 (16 : Int32))) 2 T8.heap n0 Z8 W8.1 W8.2.1 W8.2.2.1 g_b6 W8.2.2.2 (by decide) rfl (by decide) gbb) hZ (hw _ (List.mem_of_getElem? (i := 18) rfl)) (hw _ (List.mem_of_getElem? (i := 2) rfl)) (by decide) (by decide)) q9a q9c (g := (mkF m 33 #[.val (.int p1), .val (.int p2), .val (.int p3), .val (.int p4), .val (.int p5), .val (.ref b6), .unset, .unset, .unset] [(.int p1), (.ref b6)])) rfl (by rw [hml]; rfl) (Steps.refl _) (argsL := [(.int p1)]) (rest := []) (lenOf pd_0_2 rfl) rfl (by show 2 * 0 + _ ≤ _; exact Nat.le_of_eq rfl) (hb hby at_33) (fun _ _ => ⟨rfl, rfl, (by decide : 2 + 0 ≤ _), (by decide : 259 + 0 ≤ _)⟩)
  dsimp only [Pt.U, Pt.locs, Pt.cells, Pt.slots] at X9 l9 y9 z9 st9 hQ9
  subst l9 y9 z9
  obtain ⟨rfl, N9q, K9q, W9q⟩ := hQ9
  have N9 := Fr.app N8 N9q
  rw [show (((2 : Int32) + (1 : Int32)) + (1 : Int32)) = (4 : Int32) by decide] at W9q
  have W9 : own_W Z T9.heap b6 bb kB (4 : Int32) (own_s2 (own_s2 own_z 0 (own_us p1 (16 : Int32))) 2 p1) := W9q
  have Z9 : n0 ≤ T9.heap.size := Nat.le_trans Z8 K9q.1
  obtain ⟨cq10, kq10, q10a, q10b, q10c⟩ := isOf hZ rfl W9.1
  obtain ⟨_, _, ⟨T10, L10, k10, n10⟩, -, X10, ⟨Lc10, hQ10, l10, y10, z10⟩, st10⟩ := X9.virtualBack hx (y := (⟨"com/example/acqueue/acqueue/WireWriter", "int16", "(I)V"⟩ : MethodName)) (z := (⟨"com/example/acqueue/acqueue/WireWriter", "int16", "(I)V"⟩ : MethodName)) hown (mvT hZ (hw _ (List.mem_of_getElem? (i := 14) rfl))) (mvT hZ (hw _ (List.mem_of_getElem? (i := 15) rfl))) (notFace_of_selects (args := #[]) (mvT hZ (hw _ (List.mem_of_getElem? (i := 17) rfl)))) (mvT hZ (hw _ (List.mem_of_getElem? (i := 17) rfl))) (mvT hZ (hw _ (List.mem_of_getElem? (i := 16) rfl))) (by decide) (backOf (W := 0) (rm3 l Z a0 hw [] b6 ((p2.toUInt32 >>> ((16 : Int32) &&& 31).toUInt32).toInt32) bb (4 : Int32) kB (own_s2 (own_s2 own_z 0 (own_us p1 (16 : Int32))) 2 p1) 4 T9.heap n0 Z9 W9.1 W9.2.1 W9.2.2.1 g_b6 W9.2.2.2 (by decide) rfl (by decide) gbb) hZ (hw _ (List.mem_of_getElem? (i := 18) rfl)) (hw _ (List.mem_of_getElem? (i := 2) rfl)) (by decide) (by decide)) q10a q10c (g := (mkF m 42 #[.val (.int p1), .val (.int p2), .val (.int p3), .val (.int p4), .val (.int p5), .val (.ref b6), .unset, .unset, .unset] [(.int ((p2.toUInt32 >>> ((16 : Int32) &&& 31).toUInt32).toInt32)), (.ref b6)])) rfl (by rw [hml]; rfl) (Steps.refl _) (argsL := [(.int ((p2.toUInt32 >>> ((16 : Int32) &&& 31).toUInt32).toInt32))]) (rest := []) (lenOf pd_0_2 rfl) rfl (by show 2 * 0 + _ ≤ _; exact Nat.le_of_eq rfl) (hb hby at_42) (fun _ _ => ⟨rfl, rfl, (by decide : 2 + 0 ≤ _), (by decide : 259 + 0 ≤ _)⟩)
  dsimp only [Pt.U, Pt.locs, Pt.cells, Pt.slots] at X10 l10 y10 z10 st10 hQ10
  subst l10 y10 z10
  obtain ⟨rfl, N10q, K10q, W10q⟩ := hQ10
  have N10 := Fr.app N9 N10q
  rw [show (((4 : Int32) + (1 : Int32)) + (1 : Int32)) = (6 : Int32) by decide] at W10q
  have W10 : own_W Z T10.heap b6 bb kB (6 : Int32) (own_s2 (own_s2 (own_s2 own_z 0 (own_us p1 (16 : Int32))) 2 p1) 4 (own_us p2 (16 : Int32))) := W10q
  have Z10 : n0 ≤ T10.heap.size := Nat.le_trans Z9 K10q.1
  obtain ⟨cq11, kq11, q11a, q11b, q11c⟩ := isOf hZ rfl W10.1
  obtain ⟨_, _, ⟨T11, L11, k11, n11⟩, -, X11, ⟨Lc11, hQ11, l11, y11, z11⟩, st11⟩ := X10.virtualBack hx (y := (⟨"com/example/acqueue/acqueue/WireWriter", "int16", "(I)V"⟩ : MethodName)) (z := (⟨"com/example/acqueue/acqueue/WireWriter", "int16", "(I)V"⟩ : MethodName)) hown (mvT hZ (hw _ (List.mem_of_getElem? (i := 14) rfl))) (mvT hZ (hw _ (List.mem_of_getElem? (i := 15) rfl))) (notFace_of_selects (args := #[]) (mvT hZ (hw _ (List.mem_of_getElem? (i := 17) rfl)))) (mvT hZ (hw _ (List.mem_of_getElem? (i := 17) rfl))) (mvT hZ (hw _ (List.mem_of_getElem? (i := 16) rfl))) (by decide) (backOf (W := 0) (rm3 l Z a0 hw [] b6 p2 bb (6 : Int32) kB (own_s2 (own_s2 (own_s2 own_z 0 (own_us p1 (16 : Int32))) 2 p1) 4 (own_us p2 (16 : Int32))) 6 T10.heap n0 Z10 W10.1 W10.2.1 W10.2.2.1 g_b6 W10.2.2.2 (by decide) rfl (by decide) gbb) hZ (hw _ (List.mem_of_getElem? (i := 18) rfl)) (hw _ (List.mem_of_getElem? (i := 2) rfl)) (by decide) (by decide)) q11a q11c (g := (mkF m 48 #[.val (.int p1), .val (.int p2), .val (.int p3), .val (.int p4), .val (.int p5), .val (.ref b6), .unset, .unset, .unset] [(.int p2), (.ref b6)])) rfl (by rw [hml]; rfl) (Steps.refl _) (argsL := [(.int p2)]) (rest := []) (lenOf pd_0_2 rfl) rfl (by show 2 * 0 + _ ≤ _; exact Nat.le_of_eq rfl) (hb hby at_48) (fun _ _ => ⟨rfl, rfl, (by decide : 2 + 0 ≤ _), (by decide : 259 + 0 ≤ _)⟩)
  dsimp only [Pt.U, Pt.locs, Pt.cells, Pt.slots] at X11 l11 y11 z11 st11 hQ11
  subst l11 y11 z11
  obtain ⟨rfl, N11q, K11q, W11q⟩ := hQ11
  have N11 := Fr.app N10 N11q
  rw [show (((6 : Int32) + (1 : Int32)) + (1 : Int32)) = (8 : Int32) by decide] at W11q
  have W11 : own_W Z T11.heap b6 bb kB (8 : Int32) (own_s2 (own_s2 (own_s2 (own_s2 own_z 0 (own_us p1 (16 : Int32))) 2 p1) 4 (own_us p2 (16 : Int32))) 6 p2) := W11q
  have Z11 : n0 ≤ T11.heap.size := Nat.le_trans Z10 K11q.1
  have W11v : own_W Z T11.heap b6 bb kB (8 : Int32) (own_vs p1 p2) := W11
  obtain ⟨i, hi5, hPt, hPi⟩ := own_P5 p3
  have hnb : b6 ∉ [bb] := by
    obtain ⟨c0, A0, -⟩ := W11.2.2.2
    exact fun q => ne_arr W11.1 (hw _ (List.mem_of_getElem? (i := 1) rfl)) A0 (List.mem_singleton.mp q)
  obtain ⟨cq12, kq12, q12a, q12b, q12c⟩ := isOf hZ rfl W11.1
  obtain ⟨_, _, ⟨T12, L12, k12, n12⟩, -, X12, ⟨Lc12, hQ12, l12, y12, z12⟩, st12⟩ := X11.virtualBack hx (y := (⟨"com/example/acqueue/acqueue/WireWriter", "putInt32", "(II)V"⟩ : MethodName)) (z := (⟨"com/example/acqueue/acqueue/WireWriter", "putInt32", "(II)V"⟩ : MethodName)) hown (mvT hZ (hw _ (List.mem_of_getElem? (i := 26) rfl))) (mvT hZ (hw _ (List.mem_of_getElem? (i := 27) rfl))) (notFace_of_selects (args := #[]) (mvT hZ (hw _ (List.mem_of_getElem? (i := 29) rfl)))) (mvT hZ (hw _ (List.mem_of_getElem? (i := 29) rfl))) (mvT hZ (hw _ (List.mem_of_getElem? (i := 28) rfl))) (by decide) (backOf (W := 0) (rm5 l Z a0 hw [] b6 (own_P p3) p4 bb kB (own_vs p1 p2) i T11.heap n0 Z11 W11v.2.1 W11v.2.2.2 W11v.1 hPt rfl (by omega) gbb) hZ (hw _ (List.mem_of_getElem? (i := 30) rfl)) (hw _ (List.mem_of_getElem? (i := 2) rfl)) (by decide) (by decide)) q12a q12c (g := (mkF m 64 #[.val (.int p1), .val (.int p2), .val (.int p3), .val (.int p4), .val (.int p5), .val (.ref b6), .val (.int (own_P p3)), .unset, .unset] [(.int p4), (.int (own_P p3)), (.ref b6)])) rfl (by rw [hml]; rfl) (Steps.refl _) (argsL := [(.int (own_P p3)), (.int p4)]) (rest := []) (lenOf pd_0_3 rfl) rfl (by show 2 * 0 + _ ≤ _; exact Nat.le_of_eq rfl) (hb hby at_64) (fun _ _ => ⟨rfl, rfl, (by decide : 2 + 0 ≤ _), (by decide : 259 + 0 ≤ _)⟩)
  dsimp only [Pt.U, Pt.locs, Pt.cells, Pt.slots] at X12 l12 y12 z12 st12 hQ12
  subst l12 y12 z12
  obtain ⟨rfl, N12q, K12q, V12q⟩ := hQ12
  have N12 := Fr.app N11 N12q
  have W12 : own_W Z T12.heap b6 bb kB (8 : Int32) (own_s4 (own_vs p1 p2) i p4) := ⟨W11.1.keep K12q, W11.2.1.keep K12q hnb, W11.2.2.1.keep K12q hnb, V12q⟩
  have Z12 : n0 ≤ T12.heap.size := Nat.le_trans Z11 K12q.1
  obtain ⟨cq13, kq13, q13a, q13b, q13c⟩ := isOf hZ rfl W12.1
  obtain ⟨_, _, ⟨T13, L13, k13, n13⟩, -, X13, ⟨Lc13, hQ13, l13, y13, z13⟩, st13⟩ := X12.virtualBack hx (y := (⟨"com/example/acqueue/acqueue/WireWriter", "toByteArray", "()[B"⟩ : MethodName)) (z := (⟨"com/example/acqueue/acqueue/WireWriter", "toByteArray", "()[B"⟩ : MethodName)) hown (mvT hZ (hw _ (List.mem_of_getElem? (i := 31) rfl))) (mvT hZ (hw _ (List.mem_of_getElem? (i := 32) rfl))) (notFace_of_selects (args := #[]) (mvT hZ (hw _ (List.mem_of_getElem? (i := 34) rfl)))) (mvT hZ (hw _ (List.mem_of_getElem? (i := 34) rfl))) (mvT hZ (hw _ (List.mem_of_getElem? (i := 33) rfl))) (by decide) (backOf (W := 0) (rm6 l Z a0 hw [] b6 bb (8 : Int32) kB (own_s4 (own_vs p1 p2) i p4) T12.heap n0 Z12 W12.2.1 W12.2.2.1 W12.2.2.2 rfl (own_len _ _ _)) hZ (hw _ (List.mem_of_getElem? (i := 35) rfl)) (hw _ (List.mem_of_getElem? (i := 2) rfl)) (by decide) (by decide)) q13a q13c (g := (mkF m 69 #[.val (.int p1), .val (.int p2), .val (.int p3), .val (.int p4), .val (.int p5), .val (.ref b6), .val (.int (own_P p3)), .unset, .unset] [(.ref b6)])) rfl (by rw [hml]; rfl) (Steps.refl _) (argsL := []) (rest := []) (lenOf pd_0_4 rfl) rfl (by show 2 * 0 + _ ≤ _; exact Nat.le_of_eq rfl) (hb hby at_69) (fun _ _ => ⟨rfl, rfl, (by decide : 2 + 1 ≤ _), (by decide : 259 + 8 ≤ _)⟩)
  dsimp only [Pt.U, Pt.locs, Pt.cells, Pt.slots] at X13 l13 y13 z13 st13 hQ13
  subst l13 y13 z13
  obtain ⟨rr, k13r, rfl, N13q, K13q, V13q⟩ := hQ13
  have N13 := Fr.app N12 N13q
  obtain ⟨cl_r, Ar_r, q_r, S_r, M_r, H_r, G_r⟩ := V13q
  have W13 := own_W_keep W12 K13q
  have Z13 : n0 ≤ T13.heap.size := Nat.le_trans Z12 K13q.1
  have hin_0 : ¬ ((own_P p3) < 0 ∨ cl_r.slots.size ≤ (own_P p3).toNatClampNeg) := inb_of S_r (own_bd8 hPt (by omega))
  have hat_0 : cl_r.slots[(own_P p3).toNatClampNeg]? = some (.int (own_w p1 p2 p4 i (i + 0))) := own_at H_r S_r hPt hi5 (by omega)
  have hin_1 : ¬ (((own_P p3) + (1 : Int32)) < 0 ∨ cl_r.slots.size ≤ ((own_P p3) + (1 : Int32)).toNatClampNeg) := inb_of S_r (own_bd8 (own_st hPt (by omega) (1 : Int32) 1 (by decide) (by decide)) (by omega))
  have hat_1 : cl_r.slots[((own_P p3) + (1 : Int32)).toNatClampNeg]? = some (.int (own_w p1 p2 p4 i (i + 1))) := own_at H_r S_r (own_st hPt (by omega) (1 : Int32) 1 (by decide) (by decide)) hi5 (by omega)
  have hin_2 : ¬ (((own_P p3) + (2 : Int32)) < 0 ∨ cl_r.slots.size ≤ ((own_P p3) + (2 : Int32)).toNatClampNeg) := inb_of S_r (own_bd8 (own_st hPt (by omega) (2 : Int32) 2 (by decide) (by decide)) (by omega))
  have hat_2 : cl_r.slots[((own_P p3) + (2 : Int32)).toNatClampNeg]? = some (.int (own_w p1 p2 p4 i (i + 2))) := own_at H_r S_r (own_st hPt (by omega) (2 : Int32) 2 (by decide) (by decide)) hi5 (by omega)
  have hin_3 : ¬ (((own_P p3) + (3 : Int32)) < 0 ∨ cl_r.slots.size ≤ ((own_P p3) + (3 : Int32)).toNatClampNeg) := inb_of S_r (own_bd8 (own_st hPt (by omega) (3 : Int32) 3 (by decide) (by decide)) (by omega))
  have hat_3 : cl_r.slots[((own_P p3) + (3 : Int32)).toNatClampNeg]? = some (.int (own_w p1 p2 p4 i (i + 3))) := own_at H_r S_r (own_st hPt (by omega) (3 : Int32) 3 (by decide) (by decide)) hi5 (by omega)
  obtain ⟨cq14, kq14, q14a, q14b, q14c⟩ := isOf hZ rfl W13.1
  obtain ⟨_, _, ⟨T14, L14, k14, n14⟩, -, X14, ⟨Lc14, hQ14, l14, y14, z14⟩, st14⟩ := X13.virtualBack hx (y := (⟨"com/example/acqueue/acqueue/WireWriter", "size", "()I"⟩ : MethodName)) (z := (⟨"com/example/acqueue/acqueue/WireWriter", "size", "()I"⟩ : MethodName)) hown (mvT hZ (hw _ (List.mem_of_getElem? (i := 48) rfl))) (mvT hZ (hw _ (List.mem_of_getElem? (i := 49) rfl))) (notFace_of_selects (args := #[]) (mvT hZ (hw _ (List.mem_of_getElem? (i := 51) rfl)))) (mvT hZ (hw _ (List.mem_of_getElem? (i := 51) rfl))) (mvT hZ (hw _ (List.mem_of_getElem? (i := 50) rfl))) (by decide) (backOf (W := 0) (rm9 l Z a0 hw [] b6 (8 : Int32) T13.heap n0 Z13 W13.2.2.1) hZ (hw _ (List.mem_of_getElem? (i := 52) rfl)) (hw _ (List.mem_of_getElem? (i := 2) rfl)) (by decide) (by decide)) q14a q14c (g := (mkF m 84 #[.val (.int p1), .val (.int p2), .val (.int p3), .val (.int p4), .val (.int p5), .val (.ref b6), .val (.int (own_P p3)), .val (.ref rr), .unset] [(.ref b6)])) rfl (by rw [hml]; rfl) (Steps.refl _) (argsL := []) (rest := []) (lenOf pd_0_8 rfl) rfl (by show 2 * 0 + _ ≤ _; exact Nat.le_of_eq rfl) (hb hby at_84) (fun _ _ => ⟨rfl, rfl, (by decide : 3 + 0 ≤ _), (by decide : 267 + 0 ≤ _)⟩)
  dsimp only [Pt.U, Pt.locs, Pt.cells, Pt.slots] at X14 l14 y14 z14 st14 hQ14
  subst l14 y14 z14
  obtain ⟨rfl, N14q, hs14⟩ := hQ14
  have N14 := Fr.app N13 N14q
  have hsz : T14.heap = T13.heap := hs14
  have hq14 : T14.heap = T13.heap := hs14
  obtain ⟨_, _, ⟨T15, L15, k15, n15⟩, -, X15, ⟨Lc15, hQ15, l15, y15, z15⟩, st15⟩ := Jvm.LawKit.callS X14 hx (y := (⟨"com/example/acqueue/acqueue/WireWriterPutInt32PinLaw", "kept", "([BIIII)Z"⟩ : MethodName)) hown (mvT hZ (hw _ (List.mem_of_getElem? (i := 53) rfl))) (mvT hZ (hw _ (List.mem_of_getElem? (i := 54) rfl))) (mvT hZ (hw _ (List.mem_of_getElem? (i := 55) rfl))) (mvT hZ (hw _ (List.mem_of_getElem? (i := 56) rfl))) (by decide) (backOf (W := 0) (rm10 l Z a0 hw [] rr (0 : Int32) (own_P p3) p1 p2 (own_w p1 p2 p4 i 0) cl_r T14.heap n0 (by rw [hq14]; exact Z13) (by rw [hq14]; exact Ar_r) (inb_of S_r ⟨by decide, by decide⟩) (own_at H_r S_r (by decide) hi5 (by decide))) hZ (hw _ (List.mem_of_getElem? (i := 56) rfl)) (hw _ (List.mem_of_getElem? (i := 55) rfl)) (by decide) (by decide)) (g := (mkF m 165 #[.val (.int p1), .val (.int p2), .val (.int p3), .val (.int p4), .val (.int p5), .val (.ref b6), .val (.int (own_P p3)), .val (.ref rr), .val (.int (own_got (own_w p1 p2 p4 i (i + 0)) (own_w p1 p2 p4 i (i + 1)) (own_w p1 p2 p4 i (i + 2)) (own_w p1 p2 p4 i (i + 3))))] [(.int p2), (.int p1), (.int (own_P p3)), (.int (0 : Int32)), (.ref rr)])) rfl (by rw [hml]; rfl) (argsL := [(.ref rr), (.int (0 : Int32)), (.int (own_P p3)), (.int p1), (.int p2)]) (rest := []) (lenOf pd_0_9 rfl) rfl (by show 2 * 0 + _ ≤ _; exact Nat.le_of_eq rfl) (hb hby at_165) (fun _ _ => ⟨rfl, rfl, (by decide : 3 + 0 ≤ _), (by decide : 267 + 0 ≤ _)⟩)
  dsimp only [Pt.U, Pt.locs, Pt.cells, Pt.slots] at X15 l15 y15 z15 st15 hQ15
  subst l15 y15 z15
  obtain ⟨rfl, N15q, hs15⟩ := hQ15
  have N15 := Fr.app N14 N15q
  have hq15 : T15.heap = T13.heap := hs15.trans hq14
  obtain ⟨_, _, ⟨T16, L16, k16, n16⟩, -, X16, ⟨Lc16, hQ16, l16, y16, z16⟩, st16⟩ := Jvm.LawKit.callS X15 hx (y := (⟨"com/example/acqueue/acqueue/WireWriterPutInt32PinLaw", "kept", "([BIIII)Z"⟩ : MethodName)) hown (mvT hZ (hw _ (List.mem_of_getElem? (i := 53) rfl))) (mvT hZ (hw _ (List.mem_of_getElem? (i := 54) rfl))) (mvT hZ (hw _ (List.mem_of_getElem? (i := 55) rfl))) (mvT hZ (hw _ (List.mem_of_getElem? (i := 56) rfl))) (by decide) (backOf (W := 0) (rm10 l Z a0 hw [] rr (1 : Int32) (own_P p3) p1 p2 (own_w p1 p2 p4 i 1) cl_r T15.heap n0 (by rw [hq15]; exact Z13) (by rw [hq15]; exact Ar_r) (inb_of S_r ⟨by decide, by decide⟩) (own_at H_r S_r (by decide) hi5 (by decide))) hZ (hw _ (List.mem_of_getElem? (i := 56) rfl)) (hw _ (List.mem_of_getElem? (i := 55) rfl)) (by decide) (by decide)) (g := (mkF m 178 #[.val (.int p1), .val (.int p2), .val (.int p3), .val (.int p4), .val (.int p5), .val (.ref b6), .val (.int (own_P p3)), .val (.ref rr), .val (.int (own_got (own_w p1 p2 p4 i (i + 0)) (own_w p1 p2 p4 i (i + 1)) (own_w p1 p2 p4 i (i + 2)) (own_w p1 p2 p4 i (i + 3))))] [(.int p2), (.int p1), (.int (own_P p3)), (.int (1 : Int32)), (.ref rr)])) rfl (by rw [hml]; rfl) (argsL := [(.ref rr), (.int (1 : Int32)), (.int (own_P p3)), (.int p1), (.int p2)]) (rest := []) (lenOf pd_0_9 rfl) rfl (by show 2 * 0 + _ ≤ _; exact Nat.le_of_eq rfl) (hb hby at_178) (fun _ _ => ⟨rfl, rfl, (by decide : 3 + 0 ≤ _), (by decide : 267 + 0 ≤ _)⟩)
  dsimp only [Pt.U, Pt.locs, Pt.cells, Pt.slots] at X16 l16 y16 z16 st16 hQ16
  subst l16 y16 z16
  obtain ⟨rfl, N16q, hs16⟩ := hQ16
  have N16 := Fr.app N15 N16q
  have hq16 : T16.heap = T13.heap := hs16.trans hq15
  obtain ⟨_, _, ⟨T17, L17, k17, n17⟩, -, X17, ⟨Lc17, hQ17, l17, y17, z17⟩, st17⟩ := Jvm.LawKit.callS X16 hx (y := (⟨"com/example/acqueue/acqueue/WireWriterPutInt32PinLaw", "kept", "([BIIII)Z"⟩ : MethodName)) hown (mvT hZ (hw _ (List.mem_of_getElem? (i := 53) rfl))) (mvT hZ (hw _ (List.mem_of_getElem? (i := 54) rfl))) (mvT hZ (hw _ (List.mem_of_getElem? (i := 55) rfl))) (mvT hZ (hw _ (List.mem_of_getElem? (i := 56) rfl))) (by decide) (backOf (W := 0) (rm10 l Z a0 hw [] rr (2 : Int32) (own_P p3) p1 p2 (own_w p1 p2 p4 i 2) cl_r T16.heap n0 (by rw [hq16]; exact Z13) (by rw [hq16]; exact Ar_r) (inb_of S_r ⟨by decide, by decide⟩) (own_at H_r S_r (by decide) hi5 (by decide))) hZ (hw _ (List.mem_of_getElem? (i := 56) rfl)) (hw _ (List.mem_of_getElem? (i := 55) rfl)) (by decide) (by decide)) (g := (mkF m 191 #[.val (.int p1), .val (.int p2), .val (.int p3), .val (.int p4), .val (.int p5), .val (.ref b6), .val (.int (own_P p3)), .val (.ref rr), .val (.int (own_got (own_w p1 p2 p4 i (i + 0)) (own_w p1 p2 p4 i (i + 1)) (own_w p1 p2 p4 i (i + 2)) (own_w p1 p2 p4 i (i + 3))))] [(.int p2), (.int p1), (.int (own_P p3)), (.int (2 : Int32)), (.ref rr)])) rfl (by rw [hml]; rfl) (argsL := [(.ref rr), (.int (2 : Int32)), (.int (own_P p3)), (.int p1), (.int p2)]) (rest := []) (lenOf pd_0_9 rfl) rfl (by show 2 * 0 + _ ≤ _; exact Nat.le_of_eq rfl) (hb hby at_191) (fun _ _ => ⟨rfl, rfl, (by decide : 3 + 0 ≤ _), (by decide : 267 + 0 ≤ _)⟩)
  dsimp only [Pt.U, Pt.locs, Pt.cells, Pt.slots] at X17 l17 y17 z17 st17 hQ17
  subst l17 y17 z17
  obtain ⟨rfl, N17q, hs17⟩ := hQ17
  have N17 := Fr.app N16 N17q
  have hq17 : T17.heap = T13.heap := hs17.trans hq16
  obtain ⟨_, _, ⟨T18, L18, k18, n18⟩, -, X18, ⟨Lc18, hQ18, l18, y18, z18⟩, st18⟩ := Jvm.LawKit.callS X17 hx (y := (⟨"com/example/acqueue/acqueue/WireWriterPutInt32PinLaw", "kept", "([BIIII)Z"⟩ : MethodName)) hown (mvT hZ (hw _ (List.mem_of_getElem? (i := 53) rfl))) (mvT hZ (hw _ (List.mem_of_getElem? (i := 54) rfl))) (mvT hZ (hw _ (List.mem_of_getElem? (i := 55) rfl))) (mvT hZ (hw _ (List.mem_of_getElem? (i := 56) rfl))) (by decide) (backOf (W := 0) (rm10 l Z a0 hw [] rr (3 : Int32) (own_P p3) p1 p2 (own_w p1 p2 p4 i 3) cl_r T17.heap n0 (by rw [hq17]; exact Z13) (by rw [hq17]; exact Ar_r) (inb_of S_r ⟨by decide, by decide⟩) (own_at H_r S_r (by decide) hi5 (by decide))) hZ (hw _ (List.mem_of_getElem? (i := 56) rfl)) (hw _ (List.mem_of_getElem? (i := 55) rfl)) (by decide) (by decide)) (g := (mkF m 204 #[.val (.int p1), .val (.int p2), .val (.int p3), .val (.int p4), .val (.int p5), .val (.ref b6), .val (.int (own_P p3)), .val (.ref rr), .val (.int (own_got (own_w p1 p2 p4 i (i + 0)) (own_w p1 p2 p4 i (i + 1)) (own_w p1 p2 p4 i (i + 2)) (own_w p1 p2 p4 i (i + 3))))] [(.int p2), (.int p1), (.int (own_P p3)), (.int (3 : Int32)), (.ref rr)])) rfl (by rw [hml]; rfl) (argsL := [(.ref rr), (.int (3 : Int32)), (.int (own_P p3)), (.int p1), (.int p2)]) (rest := []) (lenOf pd_0_9 rfl) rfl (by show 2 * 0 + _ ≤ _; exact Nat.le_of_eq rfl) (hb hby at_204) (fun _ _ => ⟨rfl, rfl, (by decide : 3 + 0 ≤ _), (by decide : 267 + 0 ≤ _)⟩)
  dsimp only [Pt.U, Pt.locs, Pt.cells, Pt.slots] at X18 l18 y18 z18 st18 hQ18
  subst l18 y18 z18
  obtain ⟨rfl, N18q, hs18⟩ := hQ18
  have N18 := Fr.app N17 N18q
  have hq18 : T18.heap = T13.heap := hs18.trans hq17
  obtain ⟨_, _, ⟨T19, L19, k19, n19⟩, -, X19, ⟨Lc19, hQ19, l19, y19, z19⟩, st19⟩ := Jvm.LawKit.callS X18 hx (y := (⟨"com/example/acqueue/acqueue/WireWriterPutInt32PinLaw", "kept", "([BIIII)Z"⟩ : MethodName)) hown (mvT hZ (hw _ (List.mem_of_getElem? (i := 53) rfl))) (mvT hZ (hw _ (List.mem_of_getElem? (i := 54) rfl))) (mvT hZ (hw _ (List.mem_of_getElem? (i := 55) rfl))) (mvT hZ (hw _ (List.mem_of_getElem? (i := 56) rfl))) (by decide) (backOf (W := 0) (rm10 l Z a0 hw [] rr (4 : Int32) (own_P p3) p1 p2 (own_w p1 p2 p4 i 4) cl_r T18.heap n0 (by rw [hq18]; exact Z13) (by rw [hq18]; exact Ar_r) (inb_of S_r ⟨by decide, by decide⟩) (own_at H_r S_r (by decide) hi5 (by decide))) hZ (hw _ (List.mem_of_getElem? (i := 56) rfl)) (hw _ (List.mem_of_getElem? (i := 55) rfl)) (by decide) (by decide)) (g := (mkF m 217 #[.val (.int p1), .val (.int p2), .val (.int p3), .val (.int p4), .val (.int p5), .val (.ref b6), .val (.int (own_P p3)), .val (.ref rr), .val (.int (own_got (own_w p1 p2 p4 i (i + 0)) (own_w p1 p2 p4 i (i + 1)) (own_w p1 p2 p4 i (i + 2)) (own_w p1 p2 p4 i (i + 3))))] [(.int p2), (.int p1), (.int (own_P p3)), (.int (4 : Int32)), (.ref rr)])) rfl (by rw [hml]; rfl) (argsL := [(.ref rr), (.int (4 : Int32)), (.int (own_P p3)), (.int p1), (.int p2)]) (rest := []) (lenOf pd_0_9 rfl) rfl (by show 2 * 0 + _ ≤ _; exact Nat.le_of_eq rfl) (hb hby at_217) (fun _ _ => ⟨rfl, rfl, (by decide : 3 + 0 ≤ _), (by decide : 267 + 0 ≤ _)⟩)
  dsimp only [Pt.U, Pt.locs, Pt.cells, Pt.slots] at X19 l19 y19 z19 st19 hQ19
  subst l19 y19 z19
  obtain ⟨rfl, N19q, hs19⟩ := hQ19
  have N19 := Fr.app N18 N19q
  have hq19 : T19.heap = T13.heap := hs19.trans hq18
  obtain ⟨_, _, ⟨T20, L20, k20, n20⟩, -, X20, ⟨Lc20, hQ20, l20, y20, z20⟩, st20⟩ := Jvm.LawKit.callS X19 hx (y := (⟨"com/example/acqueue/acqueue/WireWriterPutInt32PinLaw", "kept", "([BIIII)Z"⟩ : MethodName)) hown (mvT hZ (hw _ (List.mem_of_getElem? (i := 53) rfl))) (mvT hZ (hw _ (List.mem_of_getElem? (i := 54) rfl))) (mvT hZ (hw _ (List.mem_of_getElem? (i := 55) rfl))) (mvT hZ (hw _ (List.mem_of_getElem? (i := 56) rfl))) (by decide) (backOf (W := 0) (rm10 l Z a0 hw [] rr (5 : Int32) (own_P p3) p1 p2 (own_w p1 p2 p4 i 5) cl_r T19.heap n0 (by rw [hq19]; exact Z13) (by rw [hq19]; exact Ar_r) (inb_of S_r ⟨by decide, by decide⟩) (own_at H_r S_r (by decide) hi5 (by decide))) hZ (hw _ (List.mem_of_getElem? (i := 56) rfl)) (hw _ (List.mem_of_getElem? (i := 55) rfl)) (by decide) (by decide)) (g := (mkF m 230 #[.val (.int p1), .val (.int p2), .val (.int p3), .val (.int p4), .val (.int p5), .val (.ref b6), .val (.int (own_P p3)), .val (.ref rr), .val (.int (own_got (own_w p1 p2 p4 i (i + 0)) (own_w p1 p2 p4 i (i + 1)) (own_w p1 p2 p4 i (i + 2)) (own_w p1 p2 p4 i (i + 3))))] [(.int p2), (.int p1), (.int (own_P p3)), (.int (5 : Int32)), (.ref rr)])) rfl (by rw [hml]; rfl) (argsL := [(.ref rr), (.int (5 : Int32)), (.int (own_P p3)), (.int p1), (.int p2)]) (rest := []) (lenOf pd_0_9 rfl) rfl (by show 2 * 0 + _ ≤ _; exact Nat.le_of_eq rfl) (hb hby at_230) (fun _ _ => ⟨rfl, rfl, (by decide : 3 + 0 ≤ _), (by decide : 267 + 0 ≤ _)⟩)
  dsimp only [Pt.U, Pt.locs, Pt.cells, Pt.slots] at X20 l20 y20 z20 st20 hQ20
  subst l20 y20 z20
  obtain ⟨rfl, N20q, hs20⟩ := hQ20
  have N20 := Fr.app N19 N20q
  have hq20 : T20.heap = T13.heap := hs20.trans hq19
  obtain ⟨_, _, ⟨T21, L21, k21, n21⟩, -, X21, ⟨Lc21, hQ21, l21, y21, z21⟩, st21⟩ := Jvm.LawKit.callS X20 hx (y := (⟨"com/example/acqueue/acqueue/WireWriterPutInt32PinLaw", "kept", "([BIIII)Z"⟩ : MethodName)) hown (mvT hZ (hw _ (List.mem_of_getElem? (i := 53) rfl))) (mvT hZ (hw _ (List.mem_of_getElem? (i := 54) rfl))) (mvT hZ (hw _ (List.mem_of_getElem? (i := 55) rfl))) (mvT hZ (hw _ (List.mem_of_getElem? (i := 56) rfl))) (by decide) (backOf (W := 0) (rm10 l Z a0 hw [] rr (6 : Int32) (own_P p3) p1 p2 (own_w p1 p2 p4 i 6) cl_r T20.heap n0 (by rw [hq20]; exact Z13) (by rw [hq20]; exact Ar_r) (inb_of S_r ⟨by decide, by decide⟩) (own_at H_r S_r (by decide) hi5 (by decide))) hZ (hw _ (List.mem_of_getElem? (i := 56) rfl)) (hw _ (List.mem_of_getElem? (i := 55) rfl)) (by decide) (by decide)) (g := (mkF m 244 #[.val (.int p1), .val (.int p2), .val (.int p3), .val (.int p4), .val (.int p5), .val (.ref b6), .val (.int (own_P p3)), .val (.ref rr), .val (.int (own_got (own_w p1 p2 p4 i (i + 0)) (own_w p1 p2 p4 i (i + 1)) (own_w p1 p2 p4 i (i + 2)) (own_w p1 p2 p4 i (i + 3))))] [(.int p2), (.int p1), (.int (own_P p3)), (.int (6 : Int32)), (.ref rr)])) rfl (by rw [hml]; rfl) (argsL := [(.ref rr), (.int (6 : Int32)), (.int (own_P p3)), (.int p1), (.int p2)]) (rest := []) (lenOf pd_0_9 rfl) rfl (by show 2 * 0 + _ ≤ _; exact Nat.le_of_eq rfl) (hb hby at_244) (fun _ _ => ⟨rfl, rfl, (by decide : 3 + 0 ≤ _), (by decide : 267 + 0 ≤ _)⟩)
  dsimp only [Pt.U, Pt.locs, Pt.cells, Pt.slots] at X21 l21 y21 z21 st21 hQ21
  subst l21 y21 z21
  obtain ⟨rfl, N21q, hs21⟩ := hQ21
  have N21 := Fr.app N20 N21q
  have hq21 : T21.heap = T13.heap := hs21.trans hq20
  obtain ⟨_, _, ⟨T22, L22, k22, n22⟩, -, X22, ⟨Lc22, hQ22, l22, y22, z22⟩, st22⟩ := Jvm.LawKit.callS X21 hx (y := (⟨"com/example/acqueue/acqueue/WireWriterPutInt32PinLaw", "kept", "([BIIII)Z"⟩ : MethodName)) hown (mvT hZ (hw _ (List.mem_of_getElem? (i := 53) rfl))) (mvT hZ (hw _ (List.mem_of_getElem? (i := 54) rfl))) (mvT hZ (hw _ (List.mem_of_getElem? (i := 55) rfl))) (mvT hZ (hw _ (List.mem_of_getElem? (i := 56) rfl))) (by decide) (backOf (W := 0) (rm10 l Z a0 hw [] rr (7 : Int32) (own_P p3) p1 p2 (own_w p1 p2 p4 i 7) cl_r T21.heap n0 (by rw [hq21]; exact Z13) (by rw [hq21]; exact Ar_r) (inb_of S_r ⟨by decide, by decide⟩) (own_at H_r S_r (by decide) hi5 (by decide))) hZ (hw _ (List.mem_of_getElem? (i := 56) rfl)) (hw _ (List.mem_of_getElem? (i := 55) rfl)) (by decide) (by decide)) (g := (mkF m 258 #[.val (.int p1), .val (.int p2), .val (.int p3), .val (.int p4), .val (.int p5), .val (.ref b6), .val (.int (own_P p3)), .val (.ref rr), .val (.int (own_got (own_w p1 p2 p4 i (i + 0)) (own_w p1 p2 p4 i (i + 1)) (own_w p1 p2 p4 i (i + 2)) (own_w p1 p2 p4 i (i + 3))))] [(.int p2), (.int p1), (.int (own_P p3)), (.int (7 : Int32)), (.ref rr)])) rfl (by rw [hml]; rfl) (argsL := [(.ref rr), (.int (7 : Int32)), (.int (own_P p3)), (.int p1), (.int p2)]) (rest := []) (lenOf pd_0_9 rfl) rfl (by show 2 * 0 + _ ≤ _; exact Nat.le_of_eq rfl) (hb hby at_258) (fun _ _ => ⟨rfl, rfl, (by decide : 3 + 0 ≤ _), (by decide : 267 + 0 ≤ _)⟩)
  dsimp only [Pt.U, Pt.locs, Pt.cells, Pt.slots] at X22 l22 y22 z22 st22 hQ22
  subst l22 y22 z22
  obtain ⟨rfl, N22q, hs22⟩ := hQ22
  have N22 := Fr.app N21 N22q
  have hq22 : T22.heap = T13.heap := hs22.trans hq21
  obtain ⟨fs, hr, hrun, hended, hW, hsame⟩ := X22.leave (v := some (.int (1 : Int32))) (fun h => by rw [Bd.returns] at h; cases h)
  refine ⟨_, _, pre0 _ ?_, hrun, hended, _, _, rfl, ?_, ⟨_, rfl⟩, hW, hsame.mono (by decide) (by decide)⟩
  · show Steps p.tables e below (s₁.setTop (mkF m 0 #[.val (.int p1), .val (.int p2), .val (.int p3), .val (.int p4), .val (.int p5), .unset, .unset, .unset, .unset] [])) _
    refine st6 _ ?_
    show Steps p.tables e below (T6.setTop (mkF m 3 #[.val (.int p1), .val (.int p2), .val (.int p3), .val (.int p4), .val (.int p5), .unset, .unset, .unset, .unset] [(.ref b6)])) _
    refine XS.dup X6.here hx rfl (hb hby at_3) rfl rfl ?_
    show Steps p.tables e below (T6.setTop (mkF m 4 #[.val (.int p1), .val (.int p2), .val (.int p3), .val (.int p4), .val (.int p5), .unset, .unset, .unset, .unset] [(.ref b6), (.ref b6)])) _
    refine tn0_4_16 _ _ _ _ _ _ _ _ _ _ X6 hx hZ hw hby hml hown e6 _ ?_
    show Steps p.tables e below (T6.setTop (mkF m 16 #[.val (.int p1), .val (.int p2), .val (.int p3), .val (.int p4), .val (.int p5), .unset, .unset, .unset, .unset] [(.int (own_flag p5)), (.ref b6), (.ref b6)])) _
    refine st7.trans ?_
    show Steps p.tables e below (T7.setTop (mkF m 19 #[.val (.int p1), .val (.int p2), .val (.int p3), .val (.int p4), .val (.int p5), .unset, .unset, .unset, .unset] [(.ref b6)])) _
    refine XS.astore X7.here hx rfl (hb hby at_19) rfl rfl (l' := #[.val (.int p1), .val (.int p2), .val (.int p3), .val (.int p4), .val (.int p5), .val (.ref b6), .unset, .unset, .unset]) rfl ?_
    show Steps p.tables e below (T7.setTop (mkF m 21 #[.val (.int p1), .val (.int p2), .val (.int p3), .val (.int p4), .val (.int p5), .val (.ref b6), .unset, .unset, .unset] [])) _
    refine XS.aload X7.here hx rfl (hb hby at_21) rfl rfl ?_
    show Steps p.tables e below (T7.setTop (mkF m 23 #[.val (.int p1), .val (.int p2), .val (.int p3), .val (.int p4), .val (.int p5), .val (.ref b6), .unset, .unset, .unset] [(.ref b6)])) _
    refine XS.iloadN X7.here hx rfl (hb hby at_23) rfl ?_
    show Steps p.tables e below (T7.setTop (mkF m 24 #[.val (.int p1), .val (.int p2), .val (.int p3), .val (.int p4), .val (.int p5), .val (.ref b6), .unset, .unset, .unset] [(.int p1), (.ref b6)])) _
    refine XS.bipush X7.here hx rfl (hb hby at_24) ?_
    show Steps p.tables e below (T7.setTop (mkF m 26 #[.val (.int p1), .val (.int p2), .val (.int p3), .val (.int p4), .val (.int p5), .val (.ref b6), .unset, .unset, .unset] [(.int (16 : Int32)), (.int p1), (.ref b6)])) _
    refine XS.iushr X7.here hx rfl (hb hby at_26) rfl ?_
    show Steps p.tables e below (T7.setTop (mkF m 27 #[.val (.int p1), .val (.int p2), .val (.int p3), .val (.int p4), .val (.int p5), .val (.ref b6), .unset, .unset, .unset] [(.int ((p1.toUInt32 >>> ((16 : Int32) &&& 31).toUInt32).toInt32)), (.ref b6)])) _
    refine st8.trans ?_
    show Steps p.tables e below (T8.setTop (mkF m 30 #[.val (.int p1), .val (.int p2), .val (.int p3), .val (.int p4), .val (.int p5), .val (.ref b6), .unset, .unset, .unset] [])) _
    refine XS.aload X8.here hx rfl (hb hby at_30) rfl rfl ?_
    show Steps p.tables e below (T8.setTop (mkF m 32 #[.val (.int p1), .val (.int p2), .val (.int p3), .val (.int p4), .val (.int p5), .val (.ref b6), .unset, .unset, .unset] [(.ref b6)])) _
    refine XS.iloadN X8.here hx rfl (hb hby at_32) rfl ?_
    show Steps p.tables e below (T8.setTop (mkF m 33 #[.val (.int p1), .val (.int p2), .val (.int p3), .val (.int p4), .val (.int p5), .val (.ref b6), .unset, .unset, .unset] [(.int p1), (.ref b6)])) _
    refine st9.trans ?_
    show Steps p.tables e below (T9.setTop (mkF m 36 #[.val (.int p1), .val (.int p2), .val (.int p3), .val (.int p4), .val (.int p5), .val (.ref b6), .unset, .unset, .unset] [])) _
    refine XS.aload X9.here hx rfl (hb hby at_36) rfl rfl ?_
    show Steps p.tables e below (T9.setTop (mkF m 38 #[.val (.int p1), .val (.int p2), .val (.int p3), .val (.int p4), .val (.int p5), .val (.ref b6), .unset, .unset, .unset] [(.ref b6)])) _
    refine XS.iloadN X9.here hx rfl (hb hby at_38) rfl ?_
    show Steps p.tables e below (T9.setTop (mkF m 39 #[.val (.int p1), .val (.int p2), .val (.int p3), .val (.int p4), .val (.int p5), .val (.ref b6), .unset, .unset, .unset] [(.int p2), (.ref b6)])) _
    refine XS.bipush X9.here hx rfl (hb hby at_39) ?_
    show Steps p.tables e below (T9.setTop (mkF m 41 #[.val (.int p1), .val (.int p2), .val (.int p3), .val (.int p4), .val (.int p5), .val (.ref b6), .unset, .unset, .unset] [(.int (16 : Int32)), (.int p2), (.ref b6)])) _
    refine XS.iushr X9.here hx rfl (hb hby at_41) rfl ?_
    show Steps p.tables e below (T9.setTop (mkF m 42 #[.val (.int p1), .val (.int p2), .val (.int p3), .val (.int p4), .val (.int p5), .val (.ref b6), .unset, .unset, .unset] [(.int ((p2.toUInt32 >>> ((16 : Int32) &&& 31).toUInt32).toInt32)), (.ref b6)])) _
    refine st10.trans ?_
    show Steps p.tables e below (T10.setTop (mkF m 45 #[.val (.int p1), .val (.int p2), .val (.int p3), .val (.int p4), .val (.int p5), .val (.ref b6), .unset, .unset, .unset] [])) _
    refine XS.aload X10.here hx rfl (hb hby at_45) rfl rfl ?_
    show Steps p.tables e below (T10.setTop (mkF m 47 #[.val (.int p1), .val (.int p2), .val (.int p3), .val (.int p4), .val (.int p5), .val (.ref b6), .unset, .unset, .unset] [(.ref b6)])) _
    refine XS.iloadN X10.here hx rfl (hb hby at_47) rfl ?_
    show Steps p.tables e below (T10.setTop (mkF m 48 #[.val (.int p1), .val (.int p2), .val (.int p3), .val (.int p4), .val (.int p5), .val (.ref b6), .unset, .unset, .unset] [(.int p2), (.ref b6)])) _
    refine st11.trans ?_
    show Steps p.tables e below (T11.setTop (mkF m 51 #[.val (.int p1), .val (.int p2), .val (.int p3), .val (.int p4), .val (.int p5), .val (.ref b6), .unset, .unset, .unset] [])) _
    refine XS.iloadN X11.here hx rfl (hb hby at_51) rfl ?_
    show Steps p.tables e below (T11.setTop (mkF m 52 #[.val (.int p1), .val (.int p2), .val (.int p3), .val (.int p4), .val (.int p5), .val (.ref b6), .unset, .unset, .unset] [(.int p3)])) _
    refine X11.ldcInt hx hown (mvT hZ (hw _ (List.mem_of_getElem? (i := 25) rfl))) (g := (mkF m 52 #[.val (.int p1), .val (.int p2), .val (.int p3), .val (.int p4), .val (.int p5), .val (.ref b6), .unset, .unset, .unset] [(.int p3)])) rfl (hb hby at_52) _ ?_
    show Steps p.tables e below (T11.setTop (mkF m 54 #[.val (.int p1), .val (.int p2), .val (.int p3), .val (.int p4), .val (.int p5), .val (.ref b6), .unset, .unset, .unset] [(.int (2147483647 : Int32)), (.int p3)])) _
    refine XS.iand X11.here hx rfl (hb hby at_54) rfl ?_
    show Steps p.tables e below (T11.setTop (mkF m 55 #[.val (.int p1), .val (.int p2), .val (.int p3), .val (.int p4), .val (.int p5), .val (.ref b6), .unset, .unset, .unset] [(.int (p3 &&& (2147483647 : Int32)))])) _
    refine XS.iconst X11.here hx rfl (hb hby at_55) ?_
    show Steps p.tables e below (T11.setTop (mkF m 56 #[.val (.int p1), .val (.int p2), .val (.int p3), .val (.int p4), .val (.int p5), .val (.ref b6), .unset, .unset, .unset] [(.int (5 : Int32)), (.int (p3 &&& (2147483647 : Int32)))])) _
    refine Jvm.RoadKit.iremM X11 hx rfl (hb hby at_56) rfl (by decide) ?_
    show Steps p.tables e below (T11.setTop (mkF m 57 #[.val (.int p1), .val (.int p2), .val (.int p3), .val (.int p4), .val (.int p5), .val (.ref b6), .unset, .unset, .unset] [(.int ((p3 &&& (2147483647 : Int32)) % (5 : Int32)))])) _
    refine XS.istore X11.here hx rfl (hb hby at_57) rfl (l' := #[.val (.int p1), .val (.int p2), .val (.int p3), .val (.int p4), .val (.int p5), .val (.ref b6), .val (.int ((p3 &&& (2147483647 : Int32)) % (5 : Int32))), .unset, .unset]) rfl ?_
    show Steps p.tables e below (T11.setTop (mkF m 59 #[.val (.int p1), .val (.int p2), .val (.int p3), .val (.int p4), .val (.int p5), .val (.ref b6), .val (.int (own_P p3)), .unset, .unset] [])) _
    refine XS.aload X11.here hx rfl (hb hby at_59) rfl rfl ?_
    show Steps p.tables e below (T11.setTop (mkF m 61 #[.val (.int p1), .val (.int p2), .val (.int p3), .val (.int p4), .val (.int p5), .val (.ref b6), .val (.int (own_P p3)), .unset, .unset] [(.ref b6)])) _
    refine XS.iload X11.here hx rfl (hb hby at_61) rfl ?_
    show Steps p.tables e below (T11.setTop (mkF m 63 #[.val (.int p1), .val (.int p2), .val (.int p3), .val (.int p4), .val (.int p5), .val (.ref b6), .val (.int (own_P p3)), .unset, .unset] [(.int (own_P p3)), (.ref b6)])) _
    refine XS.iloadN X11.here hx rfl (hb hby at_63) rfl ?_
    show Steps p.tables e below (T11.setTop (mkF m 64 #[.val (.int p1), .val (.int p2), .val (.int p3), .val (.int p4), .val (.int p5), .val (.ref b6), .val (.int (own_P p3)), .unset, .unset] [(.int p4), (.int (own_P p3)), (.ref b6)])) _
    refine st12.trans ?_
    show Steps p.tables e below (T12.setTop (mkF m 67 #[.val (.int p1), .val (.int p2), .val (.int p3), .val (.int p4), .val (.int p5), .val (.ref b6), .val (.int (own_P p3)), .unset, .unset] [])) _
    refine XS.aload X12.here hx rfl (hb hby at_67) rfl rfl ?_
    show Steps p.tables e below (T12.setTop (mkF m 69 #[.val (.int p1), .val (.int p2), .val (.int p3), .val (.int p4), .val (.int p5), .val (.ref b6), .val (.int (own_P p3)), .unset, .unset] [(.ref b6)])) _
    refine st13.trans ?_
    show Steps p.tables e below (T13.setTop (mkF m 72 #[.val (.int p1), .val (.int p2), .val (.int p3), .val (.int p4), .val (.int p5), .val (.ref b6), .val (.int (own_P p3)), .unset, .unset] [(.ref rr)])) _
    refine XS.astore X13.here hx rfl (hb hby at_72) rfl rfl (l' := #[.val (.int p1), .val (.int p2), .val (.int p3), .val (.int p4), .val (.int p5), .val (.ref b6), .val (.int (own_P p3)), .val (.ref rr), .unset]) rfl ?_
    show Steps p.tables e below (T13.setTop (mkF m 74 #[.val (.int p1), .val (.int p2), .val (.int p3), .val (.int p4), .val (.int p5), .val (.ref b6), .val (.int (own_P p3)), .val (.ref rr), .unset] [])) _
    refine XS.aload X13.here hx rfl (hb hby at_74) rfl rfl ?_
    show Steps p.tables e below (T13.setTop (mkF m 76 #[.val (.int p1), .val (.int p2), .val (.int p3), .val (.int p4), .val (.int p5), .val (.ref b6), .val (.int (own_P p3)), .val (.ref rr), .unset] [(.ref rr)])) _
    refine X13.arraylength hx Ar_r.1 (State.isArrayOf_alike hZ.alike Ar_r.2.1) (g := (mkF m 76 #[.val (.int p1), .val (.int p2), .val (.int p3), .val (.int p4), .val (.int p5), .val (.ref b6), .val (.int (own_P p3)), .val (.ref rr), .unset] [(.ref rr)])) rfl rfl (hb hby at_76) _ ?_
    rw [len_of S_r M_r]
    show Steps p.tables e below (T13.setTop (mkF m 77 #[.val (.int p1), .val (.int p2), .val (.int p3), .val (.int p4), .val (.int p5), .val (.ref b6), .val (.int (own_P p3)), .val (.ref rr), .unset] [(.int (8 : Int32))])) _
    refine XS.bipush X13.here hx rfl (hb hby at_77) ?_
    show Steps p.tables e below (T13.setTop (mkF m 79 #[.val (.int p1), .val (.int p2), .val (.int p3), .val (.int p4), .val (.int p5), .val (.ref b6), .val (.int (own_P p3)), .val (.ref rr), .unset] [(.int (8 : Int32)), (.int (8 : Int32))])) _
    refine XS.icmpNo X13.here hx rfl (hb hby at_79) rfl (teq (rfl : (8 : Int32) = (8 : Int32))).2 ?_
    show Steps p.tables e below (T13.setTop (mkF m 82 #[.val (.int p1), .val (.int p2), .val (.int p3), .val (.int p4), .val (.int p5), .val (.ref b6), .val (.int (own_P p3)), .val (.ref rr), .unset] [])) _
    refine XS.aload X13.here hx rfl (hb hby at_82) rfl rfl ?_
    show Steps p.tables e below (T13.setTop (mkF m 84 #[.val (.int p1), .val (.int p2), .val (.int p3), .val (.int p4), .val (.int p5), .val (.ref b6), .val (.int (own_P p3)), .val (.ref rr), .unset] [(.ref b6)])) _
    refine st14.trans ?_
    show Steps p.tables e below (T14.setTop (mkF m 87 #[.val (.int p1), .val (.int p2), .val (.int p3), .val (.int p4), .val (.int p5), .val (.ref b6), .val (.int (own_P p3)), .val (.ref rr), .unset] [(.int (8 : Int32))])) _
    refine XS.bipush X14.here hx rfl (hb hby at_87) ?_
    show Steps p.tables e below (T14.setTop (mkF m 89 #[.val (.int p1), .val (.int p2), .val (.int p3), .val (.int p4), .val (.int p5), .val (.ref b6), .val (.int (own_P p3)), .val (.ref rr), .unset] [(.int (8 : Int32)), (.int (8 : Int32))])) _
    refine XS.icmpYes X14.here hx rfl (pc0 := 89) (pc' := 94) rfl (hb hby at_89) rfl (teq (rfl : (8 : Int32) = (8 : Int32))).1 (by decide) (by decide) ?_
    show Steps p.tables e below (T14.setTop (mkF m 94 #[.val (.int p1), .val (.int p2), .val (.int p3), .val (.int p4), .val (.int p5), .val (.ref b6), .val (.int (own_P p3)), .val (.ref rr), .unset] [])) _
    refine XS.aload X14.here hx rfl (hb hby at_94) rfl rfl ?_
    show Steps p.tables e below (T14.setTop (mkF m 96 #[.val (.int p1), .val (.int p2), .val (.int p3), .val (.int p4), .val (.int p5), .val (.ref b6), .val (.int (own_P p3)), .val (.ref rr), .unset] [(.ref rr)])) _
    refine XS.iload X14.here hx rfl (hb hby at_96) rfl ?_
    show Steps p.tables e below (T14.setTop (mkF m 98 #[.val (.int p1), .val (.int p2), .val (.int p3), .val (.int p4), .val (.int p5), .val (.ref b6), .val (.int (own_P p3)), .val (.ref rr), .unset] [(.int (own_P p3)), (.ref rr)])) _
    refine X14.baloadBytes hx (j := (own_P p3)) (v := (.int (own_w p1 p2 p4 i (i + 0)))) (by rw [hsz]; exact Ar_r.1) (State.isArrayOf_alike hZ.alike Ar_r.2.1) Ar_r.2.2 hin_0 hat_0 (g := (mkF m 98 #[.val (.int p1), .val (.int p2), .val (.int p3), .val (.int p4), .val (.int p5), .val (.ref b6), .val (.int (own_P p3)), .val (.ref rr), .unset] [(.int (own_P p3)), (.ref rr)])) rfl rfl (hb hby at_98) _ ?_
    show Steps p.tables e below (T14.setTop (mkF m 99 #[.val (.int p1), .val (.int p2), .val (.int p3), .val (.int p4), .val (.int p5), .val (.ref b6), .val (.int (own_P p3)), .val (.ref rr), .unset] [(.int (own_w p1 p2 p4 i (i + 0)))])) _
    refine XS.sipush X14.here hx rfl (hb hby at_99) ?_
    show Steps p.tables e below (T14.setTop (mkF m 102 #[.val (.int p1), .val (.int p2), .val (.int p3), .val (.int p4), .val (.int p5), .val (.ref b6), .val (.int (own_P p3)), .val (.ref rr), .unset] [(.int (255 : Int32)), (.int (own_w p1 p2 p4 i (i + 0)))])) _
    refine XS.iand X14.here hx rfl (hb hby at_102) rfl ?_
    show Steps p.tables e below (T14.setTop (mkF m 103 #[.val (.int p1), .val (.int p2), .val (.int p3), .val (.int p4), .val (.int p5), .val (.ref b6), .val (.int (own_P p3)), .val (.ref rr), .unset] [(.int ((own_w p1 p2 p4 i (i + 0)) &&& (255 : Int32)))])) _
    refine XS.bipush X14.here hx rfl (hb hby at_103) ?_
    show Steps p.tables e below (T14.setTop (mkF m 105 #[.val (.int p1), .val (.int p2), .val (.int p3), .val (.int p4), .val (.int p5), .val (.ref b6), .val (.int (own_P p3)), .val (.ref rr), .unset] [(.int (24 : Int32)), (.int ((own_w p1 p2 p4 i (i + 0)) &&& (255 : Int32)))])) _
    refine XS.ishl X14.here hx rfl (hb hby at_105) rfl ?_
    show Steps p.tables e below (T14.setTop (mkF m 106 #[.val (.int p1), .val (.int p2), .val (.int p3), .val (.int p4), .val (.int p5), .val (.ref b6), .val (.int (own_P p3)), .val (.ref rr), .unset] [(.int (((own_w p1 p2 p4 i (i + 0)) &&& (255 : Int32)) <<< ((24 : Int32) &&& 31)))])) _
    refine XS.aload X14.here hx rfl (hb hby at_106) rfl rfl ?_
    show Steps p.tables e below (T14.setTop (mkF m 108 #[.val (.int p1), .val (.int p2), .val (.int p3), .val (.int p4), .val (.int p5), .val (.ref b6), .val (.int (own_P p3)), .val (.ref rr), .unset] [(.ref rr), (.int (((own_w p1 p2 p4 i (i + 0)) &&& (255 : Int32)) <<< ((24 : Int32) &&& 31)))])) _
    refine XS.iload X14.here hx rfl (hb hby at_108) rfl ?_
    show Steps p.tables e below (T14.setTop (mkF m 110 #[.val (.int p1), .val (.int p2), .val (.int p3), .val (.int p4), .val (.int p5), .val (.ref b6), .val (.int (own_P p3)), .val (.ref rr), .unset] [(.int (own_P p3)), (.ref rr), (.int (((own_w p1 p2 p4 i (i + 0)) &&& (255 : Int32)) <<< ((24 : Int32) &&& 31)))])) _
    refine XS.iconst X14.here hx rfl (hb hby at_110) ?_
    show Steps p.tables e below (T14.setTop (mkF m 111 #[.val (.int p1), .val (.int p2), .val (.int p3), .val (.int p4), .val (.int p5), .val (.ref b6), .val (.int (own_P p3)), .val (.ref rr), .unset] [(.int (1 : Int32)), (.int (own_P p3)), (.ref rr), (.int (((own_w p1 p2 p4 i (i + 0)) &&& (255 : Int32)) <<< ((24 : Int32) &&& 31)))])) _
    refine XS.iadd X14.here hx rfl (hb hby at_111) rfl ?_
    show Steps p.tables e below (T14.setTop (mkF m 112 #[.val (.int p1), .val (.int p2), .val (.int p3), .val (.int p4), .val (.int p5), .val (.ref b6), .val (.int (own_P p3)), .val (.ref rr), .unset] [(.int ((own_P p3) + (1 : Int32))), (.ref rr), (.int (((own_w p1 p2 p4 i (i + 0)) &&& (255 : Int32)) <<< ((24 : Int32) &&& 31)))])) _
    refine X14.baloadBytes hx (j := ((own_P p3) + (1 : Int32))) (v := (.int (own_w p1 p2 p4 i (i + 1)))) (by rw [hsz]; exact Ar_r.1) (State.isArrayOf_alike hZ.alike Ar_r.2.1) Ar_r.2.2 hin_1 hat_1 (g := (mkF m 112 #[.val (.int p1), .val (.int p2), .val (.int p3), .val (.int p4), .val (.int p5), .val (.ref b6), .val (.int (own_P p3)), .val (.ref rr), .unset] [(.int ((own_P p3) + (1 : Int32))), (.ref rr), (.int (((own_w p1 p2 p4 i (i + 0)) &&& (255 : Int32)) <<< ((24 : Int32) &&& 31)))])) rfl rfl (hb hby at_112) _ ?_
    show Steps p.tables e below (T14.setTop (mkF m 113 #[.val (.int p1), .val (.int p2), .val (.int p3), .val (.int p4), .val (.int p5), .val (.ref b6), .val (.int (own_P p3)), .val (.ref rr), .unset] [(.int (own_w p1 p2 p4 i (i + 1))), (.int (((own_w p1 p2 p4 i (i + 0)) &&& (255 : Int32)) <<< ((24 : Int32) &&& 31)))])) _
    refine XS.sipush X14.here hx rfl (hb hby at_113) ?_
    show Steps p.tables e below (T14.setTop (mkF m 116 #[.val (.int p1), .val (.int p2), .val (.int p3), .val (.int p4), .val (.int p5), .val (.ref b6), .val (.int (own_P p3)), .val (.ref rr), .unset] [(.int (255 : Int32)), (.int (own_w p1 p2 p4 i (i + 1))), (.int (((own_w p1 p2 p4 i (i + 0)) &&& (255 : Int32)) <<< ((24 : Int32) &&& 31)))])) _
    refine XS.iand X14.here hx rfl (hb hby at_116) rfl ?_
    show Steps p.tables e below (T14.setTop (mkF m 117 #[.val (.int p1), .val (.int p2), .val (.int p3), .val (.int p4), .val (.int p5), .val (.ref b6), .val (.int (own_P p3)), .val (.ref rr), .unset] [(.int ((own_w p1 p2 p4 i (i + 1)) &&& (255 : Int32))), (.int (((own_w p1 p2 p4 i (i + 0)) &&& (255 : Int32)) <<< ((24 : Int32) &&& 31)))])) _
    refine XS.bipush X14.here hx rfl (hb hby at_117) ?_
    show Steps p.tables e below (T14.setTop (mkF m 119 #[.val (.int p1), .val (.int p2), .val (.int p3), .val (.int p4), .val (.int p5), .val (.ref b6), .val (.int (own_P p3)), .val (.ref rr), .unset] [(.int (16 : Int32)), (.int ((own_w p1 p2 p4 i (i + 1)) &&& (255 : Int32))), (.int (((own_w p1 p2 p4 i (i + 0)) &&& (255 : Int32)) <<< ((24 : Int32) &&& 31)))])) _
    refine XS.ishl X14.here hx rfl (hb hby at_119) rfl ?_
    show Steps p.tables e below (T14.setTop (mkF m 120 #[.val (.int p1), .val (.int p2), .val (.int p3), .val (.int p4), .val (.int p5), .val (.ref b6), .val (.int (own_P p3)), .val (.ref rr), .unset] [(.int (((own_w p1 p2 p4 i (i + 1)) &&& (255 : Int32)) <<< ((16 : Int32) &&& 31))), (.int (((own_w p1 p2 p4 i (i + 0)) &&& (255 : Int32)) <<< ((24 : Int32) &&& 31)))])) _
    refine XS.ior X14.here hx rfl (hb hby at_120) rfl ?_
    show Steps p.tables e below (T14.setTop (mkF m 121 #[.val (.int p1), .val (.int p2), .val (.int p3), .val (.int p4), .val (.int p5), .val (.ref b6), .val (.int (own_P p3)), .val (.ref rr), .unset] [(.int ((((own_w p1 p2 p4 i (i + 0)) &&& (255 : Int32)) <<< ((24 : Int32) &&& 31)) ||| (((own_w p1 p2 p4 i (i + 1)) &&& (255 : Int32)) <<< ((16 : Int32) &&& 31))))])) _
    refine XS.aload X14.here hx rfl (hb hby at_121) rfl rfl ?_
    show Steps p.tables e below (T14.setTop (mkF m 123 #[.val (.int p1), .val (.int p2), .val (.int p3), .val (.int p4), .val (.int p5), .val (.ref b6), .val (.int (own_P p3)), .val (.ref rr), .unset] [(.ref rr), (.int ((((own_w p1 p2 p4 i (i + 0)) &&& (255 : Int32)) <<< ((24 : Int32) &&& 31)) ||| (((own_w p1 p2 p4 i (i + 1)) &&& (255 : Int32)) <<< ((16 : Int32) &&& 31))))])) _
    refine XS.iload X14.here hx rfl (hb hby at_123) rfl ?_
    show Steps p.tables e below (T14.setTop (mkF m 125 #[.val (.int p1), .val (.int p2), .val (.int p3), .val (.int p4), .val (.int p5), .val (.ref b6), .val (.int (own_P p3)), .val (.ref rr), .unset] [(.int (own_P p3)), (.ref rr), (.int ((((own_w p1 p2 p4 i (i + 0)) &&& (255 : Int32)) <<< ((24 : Int32) &&& 31)) ||| (((own_w p1 p2 p4 i (i + 1)) &&& (255 : Int32)) <<< ((16 : Int32) &&& 31))))])) _
    refine XS.iconst X14.here hx rfl (hb hby at_125) ?_
    show Steps p.tables e below (T14.setTop (mkF m 126 #[.val (.int p1), .val (.int p2), .val (.int p3), .val (.int p4), .val (.int p5), .val (.ref b6), .val (.int (own_P p3)), .val (.ref rr), .unset] [(.int (2 : Int32)), (.int (own_P p3)), (.ref rr), (.int ((((own_w p1 p2 p4 i (i + 0)) &&& (255 : Int32)) <<< ((24 : Int32) &&& 31)) ||| (((own_w p1 p2 p4 i (i + 1)) &&& (255 : Int32)) <<< ((16 : Int32) &&& 31))))])) _
    refine XS.iadd X14.here hx rfl (hb hby at_126) rfl ?_
    show Steps p.tables e below (T14.setTop (mkF m 127 #[.val (.int p1), .val (.int p2), .val (.int p3), .val (.int p4), .val (.int p5), .val (.ref b6), .val (.int (own_P p3)), .val (.ref rr), .unset] [(.int ((own_P p3) + (2 : Int32))), (.ref rr), (.int ((((own_w p1 p2 p4 i (i + 0)) &&& (255 : Int32)) <<< ((24 : Int32) &&& 31)) ||| (((own_w p1 p2 p4 i (i + 1)) &&& (255 : Int32)) <<< ((16 : Int32) &&& 31))))])) _
    refine X14.baloadBytes hx (j := ((own_P p3) + (2 : Int32))) (v := (.int (own_w p1 p2 p4 i (i + 2)))) (by rw [hsz]; exact Ar_r.1) (State.isArrayOf_alike hZ.alike Ar_r.2.1) Ar_r.2.2 hin_2 hat_2 (g := (mkF m 127 #[.val (.int p1), .val (.int p2), .val (.int p3), .val (.int p4), .val (.int p5), .val (.ref b6), .val (.int (own_P p3)), .val (.ref rr), .unset] [(.int ((own_P p3) + (2 : Int32))), (.ref rr), (.int ((((own_w p1 p2 p4 i (i + 0)) &&& (255 : Int32)) <<< ((24 : Int32) &&& 31)) ||| (((own_w p1 p2 p4 i (i + 1)) &&& (255 : Int32)) <<< ((16 : Int32) &&& 31))))])) rfl rfl (hb hby at_127) _ ?_
    show Steps p.tables e below (T14.setTop (mkF m 128 #[.val (.int p1), .val (.int p2), .val (.int p3), .val (.int p4), .val (.int p5), .val (.ref b6), .val (.int (own_P p3)), .val (.ref rr), .unset] [(.int (own_w p1 p2 p4 i (i + 2))), (.int ((((own_w p1 p2 p4 i (i + 0)) &&& (255 : Int32)) <<< ((24 : Int32) &&& 31)) ||| (((own_w p1 p2 p4 i (i + 1)) &&& (255 : Int32)) <<< ((16 : Int32) &&& 31))))])) _
    refine XS.sipush X14.here hx rfl (hb hby at_128) ?_
    show Steps p.tables e below (T14.setTop (mkF m 131 #[.val (.int p1), .val (.int p2), .val (.int p3), .val (.int p4), .val (.int p5), .val (.ref b6), .val (.int (own_P p3)), .val (.ref rr), .unset] [(.int (255 : Int32)), (.int (own_w p1 p2 p4 i (i + 2))), (.int ((((own_w p1 p2 p4 i (i + 0)) &&& (255 : Int32)) <<< ((24 : Int32) &&& 31)) ||| (((own_w p1 p2 p4 i (i + 1)) &&& (255 : Int32)) <<< ((16 : Int32) &&& 31))))])) _
    refine XS.iand X14.here hx rfl (hb hby at_131) rfl ?_
    show Steps p.tables e below (T14.setTop (mkF m 132 #[.val (.int p1), .val (.int p2), .val (.int p3), .val (.int p4), .val (.int p5), .val (.ref b6), .val (.int (own_P p3)), .val (.ref rr), .unset] [(.int ((own_w p1 p2 p4 i (i + 2)) &&& (255 : Int32))), (.int ((((own_w p1 p2 p4 i (i + 0)) &&& (255 : Int32)) <<< ((24 : Int32) &&& 31)) ||| (((own_w p1 p2 p4 i (i + 1)) &&& (255 : Int32)) <<< ((16 : Int32) &&& 31))))])) _
    refine XS.bipush X14.here hx rfl (hb hby at_132) ?_
    show Steps p.tables e below (T14.setTop (mkF m 134 #[.val (.int p1), .val (.int p2), .val (.int p3), .val (.int p4), .val (.int p5), .val (.ref b6), .val (.int (own_P p3)), .val (.ref rr), .unset] [(.int (8 : Int32)), (.int ((own_w p1 p2 p4 i (i + 2)) &&& (255 : Int32))), (.int ((((own_w p1 p2 p4 i (i + 0)) &&& (255 : Int32)) <<< ((24 : Int32) &&& 31)) ||| (((own_w p1 p2 p4 i (i + 1)) &&& (255 : Int32)) <<< ((16 : Int32) &&& 31))))])) _
    refine XS.ishl X14.here hx rfl (hb hby at_134) rfl ?_
    show Steps p.tables e below (T14.setTop (mkF m 135 #[.val (.int p1), .val (.int p2), .val (.int p3), .val (.int p4), .val (.int p5), .val (.ref b6), .val (.int (own_P p3)), .val (.ref rr), .unset] [(.int (((own_w p1 p2 p4 i (i + 2)) &&& (255 : Int32)) <<< ((8 : Int32) &&& 31))), (.int ((((own_w p1 p2 p4 i (i + 0)) &&& (255 : Int32)) <<< ((24 : Int32) &&& 31)) ||| (((own_w p1 p2 p4 i (i + 1)) &&& (255 : Int32)) <<< ((16 : Int32) &&& 31))))])) _
    refine XS.ior X14.here hx rfl (hb hby at_135) rfl ?_
    show Steps p.tables e below (T14.setTop (mkF m 136 #[.val (.int p1), .val (.int p2), .val (.int p3), .val (.int p4), .val (.int p5), .val (.ref b6), .val (.int (own_P p3)), .val (.ref rr), .unset] [(.int (((((own_w p1 p2 p4 i (i + 0)) &&& (255 : Int32)) <<< ((24 : Int32) &&& 31)) ||| (((own_w p1 p2 p4 i (i + 1)) &&& (255 : Int32)) <<< ((16 : Int32) &&& 31))) ||| (((own_w p1 p2 p4 i (i + 2)) &&& (255 : Int32)) <<< ((8 : Int32) &&& 31))))])) _
    refine XS.aload X14.here hx rfl (hb hby at_136) rfl rfl ?_
    show Steps p.tables e below (T14.setTop (mkF m 138 #[.val (.int p1), .val (.int p2), .val (.int p3), .val (.int p4), .val (.int p5), .val (.ref b6), .val (.int (own_P p3)), .val (.ref rr), .unset] [(.ref rr), (.int (((((own_w p1 p2 p4 i (i + 0)) &&& (255 : Int32)) <<< ((24 : Int32) &&& 31)) ||| (((own_w p1 p2 p4 i (i + 1)) &&& (255 : Int32)) <<< ((16 : Int32) &&& 31))) ||| (((own_w p1 p2 p4 i (i + 2)) &&& (255 : Int32)) <<< ((8 : Int32) &&& 31))))])) _
    refine XS.iload X14.here hx rfl (hb hby at_138) rfl ?_
    show Steps p.tables e below (T14.setTop (mkF m 140 #[.val (.int p1), .val (.int p2), .val (.int p3), .val (.int p4), .val (.int p5), .val (.ref b6), .val (.int (own_P p3)), .val (.ref rr), .unset] [(.int (own_P p3)), (.ref rr), (.int (((((own_w p1 p2 p4 i (i + 0)) &&& (255 : Int32)) <<< ((24 : Int32) &&& 31)) ||| (((own_w p1 p2 p4 i (i + 1)) &&& (255 : Int32)) <<< ((16 : Int32) &&& 31))) ||| (((own_w p1 p2 p4 i (i + 2)) &&& (255 : Int32)) <<< ((8 : Int32) &&& 31))))])) _
    refine XS.iconst X14.here hx rfl (hb hby at_140) ?_
    show Steps p.tables e below (T14.setTop (mkF m 141 #[.val (.int p1), .val (.int p2), .val (.int p3), .val (.int p4), .val (.int p5), .val (.ref b6), .val (.int (own_P p3)), .val (.ref rr), .unset] [(.int (3 : Int32)), (.int (own_P p3)), (.ref rr), (.int (((((own_w p1 p2 p4 i (i + 0)) &&& (255 : Int32)) <<< ((24 : Int32) &&& 31)) ||| (((own_w p1 p2 p4 i (i + 1)) &&& (255 : Int32)) <<< ((16 : Int32) &&& 31))) ||| (((own_w p1 p2 p4 i (i + 2)) &&& (255 : Int32)) <<< ((8 : Int32) &&& 31))))])) _
    refine XS.iadd X14.here hx rfl (hb hby at_141) rfl ?_
    show Steps p.tables e below (T14.setTop (mkF m 142 #[.val (.int p1), .val (.int p2), .val (.int p3), .val (.int p4), .val (.int p5), .val (.ref b6), .val (.int (own_P p3)), .val (.ref rr), .unset] [(.int ((own_P p3) + (3 : Int32))), (.ref rr), (.int (((((own_w p1 p2 p4 i (i + 0)) &&& (255 : Int32)) <<< ((24 : Int32) &&& 31)) ||| (((own_w p1 p2 p4 i (i + 1)) &&& (255 : Int32)) <<< ((16 : Int32) &&& 31))) ||| (((own_w p1 p2 p4 i (i + 2)) &&& (255 : Int32)) <<< ((8 : Int32) &&& 31))))])) _
    refine X14.baloadBytes hx (j := ((own_P p3) + (3 : Int32))) (v := (.int (own_w p1 p2 p4 i (i + 3)))) (by rw [hsz]; exact Ar_r.1) (State.isArrayOf_alike hZ.alike Ar_r.2.1) Ar_r.2.2 hin_3 hat_3 (g := (mkF m 142 #[.val (.int p1), .val (.int p2), .val (.int p3), .val (.int p4), .val (.int p5), .val (.ref b6), .val (.int (own_P p3)), .val (.ref rr), .unset] [(.int ((own_P p3) + (3 : Int32))), (.ref rr), (.int (((((own_w p1 p2 p4 i (i + 0)) &&& (255 : Int32)) <<< ((24 : Int32) &&& 31)) ||| (((own_w p1 p2 p4 i (i + 1)) &&& (255 : Int32)) <<< ((16 : Int32) &&& 31))) ||| (((own_w p1 p2 p4 i (i + 2)) &&& (255 : Int32)) <<< ((8 : Int32) &&& 31))))])) rfl rfl (hb hby at_142) _ ?_
    show Steps p.tables e below (T14.setTop (mkF m 143 #[.val (.int p1), .val (.int p2), .val (.int p3), .val (.int p4), .val (.int p5), .val (.ref b6), .val (.int (own_P p3)), .val (.ref rr), .unset] [(.int (own_w p1 p2 p4 i (i + 3))), (.int (((((own_w p1 p2 p4 i (i + 0)) &&& (255 : Int32)) <<< ((24 : Int32) &&& 31)) ||| (((own_w p1 p2 p4 i (i + 1)) &&& (255 : Int32)) <<< ((16 : Int32) &&& 31))) ||| (((own_w p1 p2 p4 i (i + 2)) &&& (255 : Int32)) <<< ((8 : Int32) &&& 31))))])) _
    refine XS.sipush X14.here hx rfl (hb hby at_143) ?_
    show Steps p.tables e below (T14.setTop (mkF m 146 #[.val (.int p1), .val (.int p2), .val (.int p3), .val (.int p4), .val (.int p5), .val (.ref b6), .val (.int (own_P p3)), .val (.ref rr), .unset] [(.int (255 : Int32)), (.int (own_w p1 p2 p4 i (i + 3))), (.int (((((own_w p1 p2 p4 i (i + 0)) &&& (255 : Int32)) <<< ((24 : Int32) &&& 31)) ||| (((own_w p1 p2 p4 i (i + 1)) &&& (255 : Int32)) <<< ((16 : Int32) &&& 31))) ||| (((own_w p1 p2 p4 i (i + 2)) &&& (255 : Int32)) <<< ((8 : Int32) &&& 31))))])) _
    refine XS.iand X14.here hx rfl (hb hby at_146) rfl ?_
    show Steps p.tables e below (T14.setTop (mkF m 147 #[.val (.int p1), .val (.int p2), .val (.int p3), .val (.int p4), .val (.int p5), .val (.ref b6), .val (.int (own_P p3)), .val (.ref rr), .unset] [(.int ((own_w p1 p2 p4 i (i + 3)) &&& (255 : Int32))), (.int (((((own_w p1 p2 p4 i (i + 0)) &&& (255 : Int32)) <<< ((24 : Int32) &&& 31)) ||| (((own_w p1 p2 p4 i (i + 1)) &&& (255 : Int32)) <<< ((16 : Int32) &&& 31))) ||| (((own_w p1 p2 p4 i (i + 2)) &&& (255 : Int32)) <<< ((8 : Int32) &&& 31))))])) _
    refine XS.ior X14.here hx rfl (hb hby at_147) rfl ?_
    show Steps p.tables e below (T14.setTop (mkF m 148 #[.val (.int p1), .val (.int p2), .val (.int p3), .val (.int p4), .val (.int p5), .val (.ref b6), .val (.int (own_P p3)), .val (.ref rr), .unset] [(.int ((((((own_w p1 p2 p4 i (i + 0)) &&& (255 : Int32)) <<< ((24 : Int32) &&& 31)) ||| (((own_w p1 p2 p4 i (i + 1)) &&& (255 : Int32)) <<< ((16 : Int32) &&& 31))) ||| (((own_w p1 p2 p4 i (i + 2)) &&& (255 : Int32)) <<< ((8 : Int32) &&& 31))) ||| ((own_w p1 p2 p4 i (i + 3)) &&& (255 : Int32))))])) _
    refine XS.istore X14.here hx rfl (hb hby at_148) rfl (l' := #[.val (.int p1), .val (.int p2), .val (.int p3), .val (.int p4), .val (.int p5), .val (.ref b6), .val (.int (own_P p3)), .val (.ref rr), .val (.int ((((((own_w p1 p2 p4 i (i + 0)) &&& (255 : Int32)) <<< ((24 : Int32) &&& 31)) ||| (((own_w p1 p2 p4 i (i + 1)) &&& (255 : Int32)) <<< ((16 : Int32) &&& 31))) ||| (((own_w p1 p2 p4 i (i + 2)) &&& (255 : Int32)) <<< ((8 : Int32) &&& 31))) ||| ((own_w p1 p2 p4 i (i + 3)) &&& (255 : Int32))))]) rfl ?_
    show Steps p.tables e below (T14.setTop (mkF m 150 #[.val (.int p1), .val (.int p2), .val (.int p3), .val (.int p4), .val (.int p5), .val (.ref b6), .val (.int (own_P p3)), .val (.ref rr), .val (.int (own_got (own_w p1 p2 p4 i (i + 0)) (own_w p1 p2 p4 i (i + 1)) (own_w p1 p2 p4 i (i + 2)) (own_w p1 p2 p4 i (i + 3))))] [])) _
    refine XS.iload X14.here hx rfl (hb hby at_150) rfl ?_
    show Steps p.tables e below (T14.setTop (mkF m 152 #[.val (.int p1), .val (.int p2), .val (.int p3), .val (.int p4), .val (.int p5), .val (.ref b6), .val (.int (own_P p3)), .val (.ref rr), .val (.int (own_got (own_w p1 p2 p4 i (i + 0)) (own_w p1 p2 p4 i (i + 1)) (own_w p1 p2 p4 i (i + 2)) (own_w p1 p2 p4 i (i + 3))))] [(.int (own_got (own_w p1 p2 p4 i (i + 0)) (own_w p1 p2 p4 i (i + 1)) (own_w p1 p2 p4 i (i + 2)) (own_w p1 p2 p4 i (i + 3))))])) _
    refine XS.iloadN X14.here hx rfl (hb hby at_152) rfl ?_
    show Steps p.tables e below (T14.setTop (mkF m 153 #[.val (.int p1), .val (.int p2), .val (.int p3), .val (.int p4), .val (.int p5), .val (.ref b6), .val (.int (own_P p3)), .val (.ref rr), .val (.int (own_got (own_w p1 p2 p4 i (i + 0)) (own_w p1 p2 p4 i (i + 1)) (own_w p1 p2 p4 i (i + 2)) (own_w p1 p2 p4 i (i + 3))))] [(.int p4), (.int (own_got (own_w p1 p2 p4 i (i + 0)) (own_w p1 p2 p4 i (i + 1)) (own_w p1 p2 p4 i (i + 2)) (own_w p1 p2 p4 i (i + 3))))])) _
    refine XS.icmpYes X14.here hx rfl (pc0 := 153) (pc' := 158) rfl (hb hby at_153) rfl (teq (own_got_w p1 p2 p4 i hi5 : (own_got (own_w p1 p2 p4 i (i + 0)) (own_w p1 p2 p4 i (i + 1)) (own_w p1 p2 p4 i (i + 2)) (own_w p1 p2 p4 i (i + 3))) = p4)).1 (by decide) (by decide) ?_
    show Steps p.tables e below (T14.setTop (mkF m 158 #[.val (.int p1), .val (.int p2), .val (.int p3), .val (.int p4), .val (.int p5), .val (.ref b6), .val (.int (own_P p3)), .val (.ref rr), .val (.int (own_got (own_w p1 p2 p4 i (i + 0)) (own_w p1 p2 p4 i (i + 1)) (own_w p1 p2 p4 i (i + 2)) (own_w p1 p2 p4 i (i + 3))))] [])) _
    refine XS.aload X14.here hx rfl (hb hby at_158) rfl rfl ?_
    show Steps p.tables e below (T14.setTop (mkF m 160 #[.val (.int p1), .val (.int p2), .val (.int p3), .val (.int p4), .val (.int p5), .val (.ref b6), .val (.int (own_P p3)), .val (.ref rr), .val (.int (own_got (own_w p1 p2 p4 i (i + 0)) (own_w p1 p2 p4 i (i + 1)) (own_w p1 p2 p4 i (i + 2)) (own_w p1 p2 p4 i (i + 3))))] [(.ref rr)])) _
    refine XS.iconst X14.here hx rfl (hb hby at_160) ?_
    show Steps p.tables e below (T14.setTop (mkF m 161 #[.val (.int p1), .val (.int p2), .val (.int p3), .val (.int p4), .val (.int p5), .val (.ref b6), .val (.int (own_P p3)), .val (.ref rr), .val (.int (own_got (own_w p1 p2 p4 i (i + 0)) (own_w p1 p2 p4 i (i + 1)) (own_w p1 p2 p4 i (i + 2)) (own_w p1 p2 p4 i (i + 3))))] [(.int (0 : Int32)), (.ref rr)])) _
    refine XS.iload X14.here hx rfl (hb hby at_161) rfl ?_
    show Steps p.tables e below (T14.setTop (mkF m 163 #[.val (.int p1), .val (.int p2), .val (.int p3), .val (.int p4), .val (.int p5), .val (.ref b6), .val (.int (own_P p3)), .val (.ref rr), .val (.int (own_got (own_w p1 p2 p4 i (i + 0)) (own_w p1 p2 p4 i (i + 1)) (own_w p1 p2 p4 i (i + 2)) (own_w p1 p2 p4 i (i + 3))))] [(.int (own_P p3)), (.int (0 : Int32)), (.ref rr)])) _
    refine XS.iloadN X14.here hx rfl (hb hby at_163) rfl ?_
    show Steps p.tables e below (T14.setTop (mkF m 164 #[.val (.int p1), .val (.int p2), .val (.int p3), .val (.int p4), .val (.int p5), .val (.ref b6), .val (.int (own_P p3)), .val (.ref rr), .val (.int (own_got (own_w p1 p2 p4 i (i + 0)) (own_w p1 p2 p4 i (i + 1)) (own_w p1 p2 p4 i (i + 2)) (own_w p1 p2 p4 i (i + 3))))] [(.int p1), (.int (own_P p3)), (.int (0 : Int32)), (.ref rr)])) _
    refine XS.iloadN X14.here hx rfl (hb hby at_164) rfl ?_
    show Steps p.tables e below (T14.setTop (mkF m 165 #[.val (.int p1), .val (.int p2), .val (.int p3), .val (.int p4), .val (.int p5), .val (.ref b6), .val (.int (own_P p3)), .val (.ref rr), .val (.int (own_got (own_w p1 p2 p4 i (i + 0)) (own_w p1 p2 p4 i (i + 1)) (own_w p1 p2 p4 i (i + 2)) (own_w p1 p2 p4 i (i + 3))))] [(.int p2), (.int p1), (.int (own_P p3)), (.int (0 : Int32)), (.ref rr)])) _
    refine st15 _ ?_
    show Steps p.tables e below (T15.setTop (mkF m 168 #[.val (.int p1), .val (.int p2), .val (.int p3), .val (.int p4), .val (.int p5), .val (.ref b6), .val (.int (own_P p3)), .val (.ref rr), .val (.int (own_got (own_w p1 p2 p4 i (i + 0)) (own_w p1 p2 p4 i (i + 1)) (own_w p1 p2 p4 i (i + 2)) (own_w p1 p2 p4 i (i + 3))))] [(.int (own_kept (0 : Int32) (own_P p3) p1 p2 (own_w p1 p2 p4 i 0)))])) _
    refine XS.ifNo X15.here hx rfl (hb hby at_168) rfl ((if0 _ _).trans (feq (own_k1 hi5 hPi p1 p2 p4 0 (by decide) : ¬ ((own_kept (0 : Int32) (own_P p3) p1 p2 (own_w p1 p2 p4 i 0)) = (0 : Int32)))).1) ?_
    show Steps p.tables e below (T15.setTop (mkF m 171 #[.val (.int p1), .val (.int p2), .val (.int p3), .val (.int p4), .val (.int p5), .val (.ref b6), .val (.int (own_P p3)), .val (.ref rr), .val (.int (own_got (own_w p1 p2 p4 i (i + 0)) (own_w p1 p2 p4 i (i + 1)) (own_w p1 p2 p4 i (i + 2)) (own_w p1 p2 p4 i (i + 3))))] [])) _
    refine XS.aload X15.here hx rfl (hb hby at_171) rfl rfl ?_
    show Steps p.tables e below (T15.setTop (mkF m 173 #[.val (.int p1), .val (.int p2), .val (.int p3), .val (.int p4), .val (.int p5), .val (.ref b6), .val (.int (own_P p3)), .val (.ref rr), .val (.int (own_got (own_w p1 p2 p4 i (i + 0)) (own_w p1 p2 p4 i (i + 1)) (own_w p1 p2 p4 i (i + 2)) (own_w p1 p2 p4 i (i + 3))))] [(.ref rr)])) _
    refine XS.iconst X15.here hx rfl (hb hby at_173) ?_
    show Steps p.tables e below (T15.setTop (mkF m 174 #[.val (.int p1), .val (.int p2), .val (.int p3), .val (.int p4), .val (.int p5), .val (.ref b6), .val (.int (own_P p3)), .val (.ref rr), .val (.int (own_got (own_w p1 p2 p4 i (i + 0)) (own_w p1 p2 p4 i (i + 1)) (own_w p1 p2 p4 i (i + 2)) (own_w p1 p2 p4 i (i + 3))))] [(.int (1 : Int32)), (.ref rr)])) _
    refine XS.iload X15.here hx rfl (hb hby at_174) rfl ?_
    show Steps p.tables e below (T15.setTop (mkF m 176 #[.val (.int p1), .val (.int p2), .val (.int p3), .val (.int p4), .val (.int p5), .val (.ref b6), .val (.int (own_P p3)), .val (.ref rr), .val (.int (own_got (own_w p1 p2 p4 i (i + 0)) (own_w p1 p2 p4 i (i + 1)) (own_w p1 p2 p4 i (i + 2)) (own_w p1 p2 p4 i (i + 3))))] [(.int (own_P p3)), (.int (1 : Int32)), (.ref rr)])) _
    refine XS.iloadN X15.here hx rfl (hb hby at_176) rfl ?_
    show Steps p.tables e below (T15.setTop (mkF m 177 #[.val (.int p1), .val (.int p2), .val (.int p3), .val (.int p4), .val (.int p5), .val (.ref b6), .val (.int (own_P p3)), .val (.ref rr), .val (.int (own_got (own_w p1 p2 p4 i (i + 0)) (own_w p1 p2 p4 i (i + 1)) (own_w p1 p2 p4 i (i + 2)) (own_w p1 p2 p4 i (i + 3))))] [(.int p1), (.int (own_P p3)), (.int (1 : Int32)), (.ref rr)])) _
    refine XS.iloadN X15.here hx rfl (hb hby at_177) rfl ?_
    show Steps p.tables e below (T15.setTop (mkF m 178 #[.val (.int p1), .val (.int p2), .val (.int p3), .val (.int p4), .val (.int p5), .val (.ref b6), .val (.int (own_P p3)), .val (.ref rr), .val (.int (own_got (own_w p1 p2 p4 i (i + 0)) (own_w p1 p2 p4 i (i + 1)) (own_w p1 p2 p4 i (i + 2)) (own_w p1 p2 p4 i (i + 3))))] [(.int p2), (.int p1), (.int (own_P p3)), (.int (1 : Int32)), (.ref rr)])) _
    refine st16 _ ?_
    show Steps p.tables e below (T16.setTop (mkF m 181 #[.val (.int p1), .val (.int p2), .val (.int p3), .val (.int p4), .val (.int p5), .val (.ref b6), .val (.int (own_P p3)), .val (.ref rr), .val (.int (own_got (own_w p1 p2 p4 i (i + 0)) (own_w p1 p2 p4 i (i + 1)) (own_w p1 p2 p4 i (i + 2)) (own_w p1 p2 p4 i (i + 3))))] [(.int (own_kept (1 : Int32) (own_P p3) p1 p2 (own_w p1 p2 p4 i 1)))])) _
    refine XS.ifNo X16.here hx rfl (hb hby at_181) rfl ((if0 _ _).trans (feq (own_k1 hi5 hPi p1 p2 p4 1 (by decide) : ¬ ((own_kept (1 : Int32) (own_P p3) p1 p2 (own_w p1 p2 p4 i 1)) = (0 : Int32)))).1) ?_
    show Steps p.tables e below (T16.setTop (mkF m 184 #[.val (.int p1), .val (.int p2), .val (.int p3), .val (.int p4), .val (.int p5), .val (.ref b6), .val (.int (own_P p3)), .val (.ref rr), .val (.int (own_got (own_w p1 p2 p4 i (i + 0)) (own_w p1 p2 p4 i (i + 1)) (own_w p1 p2 p4 i (i + 2)) (own_w p1 p2 p4 i (i + 3))))] [])) _
    refine XS.aload X16.here hx rfl (hb hby at_184) rfl rfl ?_
    show Steps p.tables e below (T16.setTop (mkF m 186 #[.val (.int p1), .val (.int p2), .val (.int p3), .val (.int p4), .val (.int p5), .val (.ref b6), .val (.int (own_P p3)), .val (.ref rr), .val (.int (own_got (own_w p1 p2 p4 i (i + 0)) (own_w p1 p2 p4 i (i + 1)) (own_w p1 p2 p4 i (i + 2)) (own_w p1 p2 p4 i (i + 3))))] [(.ref rr)])) _
    refine XS.iconst X16.here hx rfl (hb hby at_186) ?_
    show Steps p.tables e below (T16.setTop (mkF m 187 #[.val (.int p1), .val (.int p2), .val (.int p3), .val (.int p4), .val (.int p5), .val (.ref b6), .val (.int (own_P p3)), .val (.ref rr), .val (.int (own_got (own_w p1 p2 p4 i (i + 0)) (own_w p1 p2 p4 i (i + 1)) (own_w p1 p2 p4 i (i + 2)) (own_w p1 p2 p4 i (i + 3))))] [(.int (2 : Int32)), (.ref rr)])) _
    refine XS.iload X16.here hx rfl (hb hby at_187) rfl ?_
    show Steps p.tables e below (T16.setTop (mkF m 189 #[.val (.int p1), .val (.int p2), .val (.int p3), .val (.int p4), .val (.int p5), .val (.ref b6), .val (.int (own_P p3)), .val (.ref rr), .val (.int (own_got (own_w p1 p2 p4 i (i + 0)) (own_w p1 p2 p4 i (i + 1)) (own_w p1 p2 p4 i (i + 2)) (own_w p1 p2 p4 i (i + 3))))] [(.int (own_P p3)), (.int (2 : Int32)), (.ref rr)])) _
    refine XS.iloadN X16.here hx rfl (hb hby at_189) rfl ?_
    show Steps p.tables e below (T16.setTop (mkF m 190 #[.val (.int p1), .val (.int p2), .val (.int p3), .val (.int p4), .val (.int p5), .val (.ref b6), .val (.int (own_P p3)), .val (.ref rr), .val (.int (own_got (own_w p1 p2 p4 i (i + 0)) (own_w p1 p2 p4 i (i + 1)) (own_w p1 p2 p4 i (i + 2)) (own_w p1 p2 p4 i (i + 3))))] [(.int p1), (.int (own_P p3)), (.int (2 : Int32)), (.ref rr)])) _
    refine XS.iloadN X16.here hx rfl (hb hby at_190) rfl ?_
    show Steps p.tables e below (T16.setTop (mkF m 191 #[.val (.int p1), .val (.int p2), .val (.int p3), .val (.int p4), .val (.int p5), .val (.ref b6), .val (.int (own_P p3)), .val (.ref rr), .val (.int (own_got (own_w p1 p2 p4 i (i + 0)) (own_w p1 p2 p4 i (i + 1)) (own_w p1 p2 p4 i (i + 2)) (own_w p1 p2 p4 i (i + 3))))] [(.int p2), (.int p1), (.int (own_P p3)), (.int (2 : Int32)), (.ref rr)])) _
    refine st17 _ ?_
    show Steps p.tables e below (T17.setTop (mkF m 194 #[.val (.int p1), .val (.int p2), .val (.int p3), .val (.int p4), .val (.int p5), .val (.ref b6), .val (.int (own_P p3)), .val (.ref rr), .val (.int (own_got (own_w p1 p2 p4 i (i + 0)) (own_w p1 p2 p4 i (i + 1)) (own_w p1 p2 p4 i (i + 2)) (own_w p1 p2 p4 i (i + 3))))] [(.int (own_kept (2 : Int32) (own_P p3) p1 p2 (own_w p1 p2 p4 i 2)))])) _
    refine XS.ifNo X17.here hx rfl (hb hby at_194) rfl ((if0 _ _).trans (feq (own_k1 hi5 hPi p1 p2 p4 2 (by decide) : ¬ ((own_kept (2 : Int32) (own_P p3) p1 p2 (own_w p1 p2 p4 i 2)) = (0 : Int32)))).1) ?_
    show Steps p.tables e below (T17.setTop (mkF m 197 #[.val (.int p1), .val (.int p2), .val (.int p3), .val (.int p4), .val (.int p5), .val (.ref b6), .val (.int (own_P p3)), .val (.ref rr), .val (.int (own_got (own_w p1 p2 p4 i (i + 0)) (own_w p1 p2 p4 i (i + 1)) (own_w p1 p2 p4 i (i + 2)) (own_w p1 p2 p4 i (i + 3))))] [])) _
    refine XS.aload X17.here hx rfl (hb hby at_197) rfl rfl ?_
    show Steps p.tables e below (T17.setTop (mkF m 199 #[.val (.int p1), .val (.int p2), .val (.int p3), .val (.int p4), .val (.int p5), .val (.ref b6), .val (.int (own_P p3)), .val (.ref rr), .val (.int (own_got (own_w p1 p2 p4 i (i + 0)) (own_w p1 p2 p4 i (i + 1)) (own_w p1 p2 p4 i (i + 2)) (own_w p1 p2 p4 i (i + 3))))] [(.ref rr)])) _
    refine XS.iconst X17.here hx rfl (hb hby at_199) ?_
    show Steps p.tables e below (T17.setTop (mkF m 200 #[.val (.int p1), .val (.int p2), .val (.int p3), .val (.int p4), .val (.int p5), .val (.ref b6), .val (.int (own_P p3)), .val (.ref rr), .val (.int (own_got (own_w p1 p2 p4 i (i + 0)) (own_w p1 p2 p4 i (i + 1)) (own_w p1 p2 p4 i (i + 2)) (own_w p1 p2 p4 i (i + 3))))] [(.int (3 : Int32)), (.ref rr)])) _
    refine XS.iload X17.here hx rfl (hb hby at_200) rfl ?_
    show Steps p.tables e below (T17.setTop (mkF m 202 #[.val (.int p1), .val (.int p2), .val (.int p3), .val (.int p4), .val (.int p5), .val (.ref b6), .val (.int (own_P p3)), .val (.ref rr), .val (.int (own_got (own_w p1 p2 p4 i (i + 0)) (own_w p1 p2 p4 i (i + 1)) (own_w p1 p2 p4 i (i + 2)) (own_w p1 p2 p4 i (i + 3))))] [(.int (own_P p3)), (.int (3 : Int32)), (.ref rr)])) _
    refine XS.iloadN X17.here hx rfl (hb hby at_202) rfl ?_
    show Steps p.tables e below (T17.setTop (mkF m 203 #[.val (.int p1), .val (.int p2), .val (.int p3), .val (.int p4), .val (.int p5), .val (.ref b6), .val (.int (own_P p3)), .val (.ref rr), .val (.int (own_got (own_w p1 p2 p4 i (i + 0)) (own_w p1 p2 p4 i (i + 1)) (own_w p1 p2 p4 i (i + 2)) (own_w p1 p2 p4 i (i + 3))))] [(.int p1), (.int (own_P p3)), (.int (3 : Int32)), (.ref rr)])) _
    refine XS.iloadN X17.here hx rfl (hb hby at_203) rfl ?_
    show Steps p.tables e below (T17.setTop (mkF m 204 #[.val (.int p1), .val (.int p2), .val (.int p3), .val (.int p4), .val (.int p5), .val (.ref b6), .val (.int (own_P p3)), .val (.ref rr), .val (.int (own_got (own_w p1 p2 p4 i (i + 0)) (own_w p1 p2 p4 i (i + 1)) (own_w p1 p2 p4 i (i + 2)) (own_w p1 p2 p4 i (i + 3))))] [(.int p2), (.int p1), (.int (own_P p3)), (.int (3 : Int32)), (.ref rr)])) _
    refine st18 _ ?_
    show Steps p.tables e below (T18.setTop (mkF m 207 #[.val (.int p1), .val (.int p2), .val (.int p3), .val (.int p4), .val (.int p5), .val (.ref b6), .val (.int (own_P p3)), .val (.ref rr), .val (.int (own_got (own_w p1 p2 p4 i (i + 0)) (own_w p1 p2 p4 i (i + 1)) (own_w p1 p2 p4 i (i + 2)) (own_w p1 p2 p4 i (i + 3))))] [(.int (own_kept (3 : Int32) (own_P p3) p1 p2 (own_w p1 p2 p4 i 3)))])) _
    refine XS.ifNo X18.here hx rfl (hb hby at_207) rfl ((if0 _ _).trans (feq (own_k1 hi5 hPi p1 p2 p4 3 (by decide) : ¬ ((own_kept (3 : Int32) (own_P p3) p1 p2 (own_w p1 p2 p4 i 3)) = (0 : Int32)))).1) ?_
    show Steps p.tables e below (T18.setTop (mkF m 210 #[.val (.int p1), .val (.int p2), .val (.int p3), .val (.int p4), .val (.int p5), .val (.ref b6), .val (.int (own_P p3)), .val (.ref rr), .val (.int (own_got (own_w p1 p2 p4 i (i + 0)) (own_w p1 p2 p4 i (i + 1)) (own_w p1 p2 p4 i (i + 2)) (own_w p1 p2 p4 i (i + 3))))] [])) _
    refine XS.aload X18.here hx rfl (hb hby at_210) rfl rfl ?_
    show Steps p.tables e below (T18.setTop (mkF m 212 #[.val (.int p1), .val (.int p2), .val (.int p3), .val (.int p4), .val (.int p5), .val (.ref b6), .val (.int (own_P p3)), .val (.ref rr), .val (.int (own_got (own_w p1 p2 p4 i (i + 0)) (own_w p1 p2 p4 i (i + 1)) (own_w p1 p2 p4 i (i + 2)) (own_w p1 p2 p4 i (i + 3))))] [(.ref rr)])) _
    refine XS.iconst X18.here hx rfl (hb hby at_212) ?_
    show Steps p.tables e below (T18.setTop (mkF m 213 #[.val (.int p1), .val (.int p2), .val (.int p3), .val (.int p4), .val (.int p5), .val (.ref b6), .val (.int (own_P p3)), .val (.ref rr), .val (.int (own_got (own_w p1 p2 p4 i (i + 0)) (own_w p1 p2 p4 i (i + 1)) (own_w p1 p2 p4 i (i + 2)) (own_w p1 p2 p4 i (i + 3))))] [(.int (4 : Int32)), (.ref rr)])) _
    refine XS.iload X18.here hx rfl (hb hby at_213) rfl ?_
    show Steps p.tables e below (T18.setTop (mkF m 215 #[.val (.int p1), .val (.int p2), .val (.int p3), .val (.int p4), .val (.int p5), .val (.ref b6), .val (.int (own_P p3)), .val (.ref rr), .val (.int (own_got (own_w p1 p2 p4 i (i + 0)) (own_w p1 p2 p4 i (i + 1)) (own_w p1 p2 p4 i (i + 2)) (own_w p1 p2 p4 i (i + 3))))] [(.int (own_P p3)), (.int (4 : Int32)), (.ref rr)])) _
    refine XS.iloadN X18.here hx rfl (hb hby at_215) rfl ?_
    show Steps p.tables e below (T18.setTop (mkF m 216 #[.val (.int p1), .val (.int p2), .val (.int p3), .val (.int p4), .val (.int p5), .val (.ref b6), .val (.int (own_P p3)), .val (.ref rr), .val (.int (own_got (own_w p1 p2 p4 i (i + 0)) (own_w p1 p2 p4 i (i + 1)) (own_w p1 p2 p4 i (i + 2)) (own_w p1 p2 p4 i (i + 3))))] [(.int p1), (.int (own_P p3)), (.int (4 : Int32)), (.ref rr)])) _
    refine XS.iloadN X18.here hx rfl (hb hby at_216) rfl ?_
    show Steps p.tables e below (T18.setTop (mkF m 217 #[.val (.int p1), .val (.int p2), .val (.int p3), .val (.int p4), .val (.int p5), .val (.ref b6), .val (.int (own_P p3)), .val (.ref rr), .val (.int (own_got (own_w p1 p2 p4 i (i + 0)) (own_w p1 p2 p4 i (i + 1)) (own_w p1 p2 p4 i (i + 2)) (own_w p1 p2 p4 i (i + 3))))] [(.int p2), (.int p1), (.int (own_P p3)), (.int (4 : Int32)), (.ref rr)])) _
    refine st19 _ ?_
    show Steps p.tables e below (T19.setTop (mkF m 220 #[.val (.int p1), .val (.int p2), .val (.int p3), .val (.int p4), .val (.int p5), .val (.ref b6), .val (.int (own_P p3)), .val (.ref rr), .val (.int (own_got (own_w p1 p2 p4 i (i + 0)) (own_w p1 p2 p4 i (i + 1)) (own_w p1 p2 p4 i (i + 2)) (own_w p1 p2 p4 i (i + 3))))] [(.int (own_kept (4 : Int32) (own_P p3) p1 p2 (own_w p1 p2 p4 i 4)))])) _
    refine XS.ifNo X19.here hx rfl (hb hby at_220) rfl ((if0 _ _).trans (feq (own_k1 hi5 hPi p1 p2 p4 4 (by decide) : ¬ ((own_kept (4 : Int32) (own_P p3) p1 p2 (own_w p1 p2 p4 i 4)) = (0 : Int32)))).1) ?_
    show Steps p.tables e below (T19.setTop (mkF m 223 #[.val (.int p1), .val (.int p2), .val (.int p3), .val (.int p4), .val (.int p5), .val (.ref b6), .val (.int (own_P p3)), .val (.ref rr), .val (.int (own_got (own_w p1 p2 p4 i (i + 0)) (own_w p1 p2 p4 i (i + 1)) (own_w p1 p2 p4 i (i + 2)) (own_w p1 p2 p4 i (i + 3))))] [])) _
    refine XS.aload X19.here hx rfl (hb hby at_223) rfl rfl ?_
    show Steps p.tables e below (T19.setTop (mkF m 225 #[.val (.int p1), .val (.int p2), .val (.int p3), .val (.int p4), .val (.int p5), .val (.ref b6), .val (.int (own_P p3)), .val (.ref rr), .val (.int (own_got (own_w p1 p2 p4 i (i + 0)) (own_w p1 p2 p4 i (i + 1)) (own_w p1 p2 p4 i (i + 2)) (own_w p1 p2 p4 i (i + 3))))] [(.ref rr)])) _
    refine XS.iconst X19.here hx rfl (hb hby at_225) ?_
    show Steps p.tables e below (T19.setTop (mkF m 226 #[.val (.int p1), .val (.int p2), .val (.int p3), .val (.int p4), .val (.int p5), .val (.ref b6), .val (.int (own_P p3)), .val (.ref rr), .val (.int (own_got (own_w p1 p2 p4 i (i + 0)) (own_w p1 p2 p4 i (i + 1)) (own_w p1 p2 p4 i (i + 2)) (own_w p1 p2 p4 i (i + 3))))] [(.int (5 : Int32)), (.ref rr)])) _
    refine XS.iload X19.here hx rfl (hb hby at_226) rfl ?_
    show Steps p.tables e below (T19.setTop (mkF m 228 #[.val (.int p1), .val (.int p2), .val (.int p3), .val (.int p4), .val (.int p5), .val (.ref b6), .val (.int (own_P p3)), .val (.ref rr), .val (.int (own_got (own_w p1 p2 p4 i (i + 0)) (own_w p1 p2 p4 i (i + 1)) (own_w p1 p2 p4 i (i + 2)) (own_w p1 p2 p4 i (i + 3))))] [(.int (own_P p3)), (.int (5 : Int32)), (.ref rr)])) _
    refine XS.iloadN X19.here hx rfl (hb hby at_228) rfl ?_
    show Steps p.tables e below (T19.setTop (mkF m 229 #[.val (.int p1), .val (.int p2), .val (.int p3), .val (.int p4), .val (.int p5), .val (.ref b6), .val (.int (own_P p3)), .val (.ref rr), .val (.int (own_got (own_w p1 p2 p4 i (i + 0)) (own_w p1 p2 p4 i (i + 1)) (own_w p1 p2 p4 i (i + 2)) (own_w p1 p2 p4 i (i + 3))))] [(.int p1), (.int (own_P p3)), (.int (5 : Int32)), (.ref rr)])) _
    refine XS.iloadN X19.here hx rfl (hb hby at_229) rfl ?_
    show Steps p.tables e below (T19.setTop (mkF m 230 #[.val (.int p1), .val (.int p2), .val (.int p3), .val (.int p4), .val (.int p5), .val (.ref b6), .val (.int (own_P p3)), .val (.ref rr), .val (.int (own_got (own_w p1 p2 p4 i (i + 0)) (own_w p1 p2 p4 i (i + 1)) (own_w p1 p2 p4 i (i + 2)) (own_w p1 p2 p4 i (i + 3))))] [(.int p2), (.int p1), (.int (own_P p3)), (.int (5 : Int32)), (.ref rr)])) _
    refine st20 _ ?_
    show Steps p.tables e below (T20.setTop (mkF m 233 #[.val (.int p1), .val (.int p2), .val (.int p3), .val (.int p4), .val (.int p5), .val (.ref b6), .val (.int (own_P p3)), .val (.ref rr), .val (.int (own_got (own_w p1 p2 p4 i (i + 0)) (own_w p1 p2 p4 i (i + 1)) (own_w p1 p2 p4 i (i + 2)) (own_w p1 p2 p4 i (i + 3))))] [(.int (own_kept (5 : Int32) (own_P p3) p1 p2 (own_w p1 p2 p4 i 5)))])) _
    refine XS.ifNo X20.here hx rfl (hb hby at_233) rfl ((if0 _ _).trans (feq (own_k1 hi5 hPi p1 p2 p4 5 (by decide) : ¬ ((own_kept (5 : Int32) (own_P p3) p1 p2 (own_w p1 p2 p4 i 5)) = (0 : Int32)))).1) ?_
    show Steps p.tables e below (T20.setTop (mkF m 236 #[.val (.int p1), .val (.int p2), .val (.int p3), .val (.int p4), .val (.int p5), .val (.ref b6), .val (.int (own_P p3)), .val (.ref rr), .val (.int (own_got (own_w p1 p2 p4 i (i + 0)) (own_w p1 p2 p4 i (i + 1)) (own_w p1 p2 p4 i (i + 2)) (own_w p1 p2 p4 i (i + 3))))] [])) _
    refine XS.aload X20.here hx rfl (hb hby at_236) rfl rfl ?_
    show Steps p.tables e below (T20.setTop (mkF m 238 #[.val (.int p1), .val (.int p2), .val (.int p3), .val (.int p4), .val (.int p5), .val (.ref b6), .val (.int (own_P p3)), .val (.ref rr), .val (.int (own_got (own_w p1 p2 p4 i (i + 0)) (own_w p1 p2 p4 i (i + 1)) (own_w p1 p2 p4 i (i + 2)) (own_w p1 p2 p4 i (i + 3))))] [(.ref rr)])) _
    refine XS.bipush X20.here hx rfl (hb hby at_238) ?_
    show Steps p.tables e below (T20.setTop (mkF m 240 #[.val (.int p1), .val (.int p2), .val (.int p3), .val (.int p4), .val (.int p5), .val (.ref b6), .val (.int (own_P p3)), .val (.ref rr), .val (.int (own_got (own_w p1 p2 p4 i (i + 0)) (own_w p1 p2 p4 i (i + 1)) (own_w p1 p2 p4 i (i + 2)) (own_w p1 p2 p4 i (i + 3))))] [(.int (6 : Int32)), (.ref rr)])) _
    refine XS.iload X20.here hx rfl (hb hby at_240) rfl ?_
    show Steps p.tables e below (T20.setTop (mkF m 242 #[.val (.int p1), .val (.int p2), .val (.int p3), .val (.int p4), .val (.int p5), .val (.ref b6), .val (.int (own_P p3)), .val (.ref rr), .val (.int (own_got (own_w p1 p2 p4 i (i + 0)) (own_w p1 p2 p4 i (i + 1)) (own_w p1 p2 p4 i (i + 2)) (own_w p1 p2 p4 i (i + 3))))] [(.int (own_P p3)), (.int (6 : Int32)), (.ref rr)])) _
    refine XS.iloadN X20.here hx rfl (hb hby at_242) rfl ?_
    show Steps p.tables e below (T20.setTop (mkF m 243 #[.val (.int p1), .val (.int p2), .val (.int p3), .val (.int p4), .val (.int p5), .val (.ref b6), .val (.int (own_P p3)), .val (.ref rr), .val (.int (own_got (own_w p1 p2 p4 i (i + 0)) (own_w p1 p2 p4 i (i + 1)) (own_w p1 p2 p4 i (i + 2)) (own_w p1 p2 p4 i (i + 3))))] [(.int p1), (.int (own_P p3)), (.int (6 : Int32)), (.ref rr)])) _
    refine XS.iloadN X20.here hx rfl (hb hby at_243) rfl ?_
    show Steps p.tables e below (T20.setTop (mkF m 244 #[.val (.int p1), .val (.int p2), .val (.int p3), .val (.int p4), .val (.int p5), .val (.ref b6), .val (.int (own_P p3)), .val (.ref rr), .val (.int (own_got (own_w p1 p2 p4 i (i + 0)) (own_w p1 p2 p4 i (i + 1)) (own_w p1 p2 p4 i (i + 2)) (own_w p1 p2 p4 i (i + 3))))] [(.int p2), (.int p1), (.int (own_P p3)), (.int (6 : Int32)), (.ref rr)])) _
    refine st21 _ ?_
    show Steps p.tables e below (T21.setTop (mkF m 247 #[.val (.int p1), .val (.int p2), .val (.int p3), .val (.int p4), .val (.int p5), .val (.ref b6), .val (.int (own_P p3)), .val (.ref rr), .val (.int (own_got (own_w p1 p2 p4 i (i + 0)) (own_w p1 p2 p4 i (i + 1)) (own_w p1 p2 p4 i (i + 2)) (own_w p1 p2 p4 i (i + 3))))] [(.int (own_kept (6 : Int32) (own_P p3) p1 p2 (own_w p1 p2 p4 i 6)))])) _
    refine XS.ifNo X21.here hx rfl (hb hby at_247) rfl ((if0 _ _).trans (feq (own_k1 hi5 hPi p1 p2 p4 6 (by decide) : ¬ ((own_kept (6 : Int32) (own_P p3) p1 p2 (own_w p1 p2 p4 i 6)) = (0 : Int32)))).1) ?_
    show Steps p.tables e below (T21.setTop (mkF m 250 #[.val (.int p1), .val (.int p2), .val (.int p3), .val (.int p4), .val (.int p5), .val (.ref b6), .val (.int (own_P p3)), .val (.ref rr), .val (.int (own_got (own_w p1 p2 p4 i (i + 0)) (own_w p1 p2 p4 i (i + 1)) (own_w p1 p2 p4 i (i + 2)) (own_w p1 p2 p4 i (i + 3))))] [])) _
    refine XS.aload X21.here hx rfl (hb hby at_250) rfl rfl ?_
    show Steps p.tables e below (T21.setTop (mkF m 252 #[.val (.int p1), .val (.int p2), .val (.int p3), .val (.int p4), .val (.int p5), .val (.ref b6), .val (.int (own_P p3)), .val (.ref rr), .val (.int (own_got (own_w p1 p2 p4 i (i + 0)) (own_w p1 p2 p4 i (i + 1)) (own_w p1 p2 p4 i (i + 2)) (own_w p1 p2 p4 i (i + 3))))] [(.ref rr)])) _
    refine XS.bipush X21.here hx rfl (hb hby at_252) ?_
    show Steps p.tables e below (T21.setTop (mkF m 254 #[.val (.int p1), .val (.int p2), .val (.int p3), .val (.int p4), .val (.int p5), .val (.ref b6), .val (.int (own_P p3)), .val (.ref rr), .val (.int (own_got (own_w p1 p2 p4 i (i + 0)) (own_w p1 p2 p4 i (i + 1)) (own_w p1 p2 p4 i (i + 2)) (own_w p1 p2 p4 i (i + 3))))] [(.int (7 : Int32)), (.ref rr)])) _
    refine XS.iload X21.here hx rfl (hb hby at_254) rfl ?_
    show Steps p.tables e below (T21.setTop (mkF m 256 #[.val (.int p1), .val (.int p2), .val (.int p3), .val (.int p4), .val (.int p5), .val (.ref b6), .val (.int (own_P p3)), .val (.ref rr), .val (.int (own_got (own_w p1 p2 p4 i (i + 0)) (own_w p1 p2 p4 i (i + 1)) (own_w p1 p2 p4 i (i + 2)) (own_w p1 p2 p4 i (i + 3))))] [(.int (own_P p3)), (.int (7 : Int32)), (.ref rr)])) _
    refine XS.iloadN X21.here hx rfl (hb hby at_256) rfl ?_
    show Steps p.tables e below (T21.setTop (mkF m 257 #[.val (.int p1), .val (.int p2), .val (.int p3), .val (.int p4), .val (.int p5), .val (.ref b6), .val (.int (own_P p3)), .val (.ref rr), .val (.int (own_got (own_w p1 p2 p4 i (i + 0)) (own_w p1 p2 p4 i (i + 1)) (own_w p1 p2 p4 i (i + 2)) (own_w p1 p2 p4 i (i + 3))))] [(.int p1), (.int (own_P p3)), (.int (7 : Int32)), (.ref rr)])) _
    refine XS.iloadN X21.here hx rfl (hb hby at_257) rfl ?_
    show Steps p.tables e below (T21.setTop (mkF m 258 #[.val (.int p1), .val (.int p2), .val (.int p3), .val (.int p4), .val (.int p5), .val (.ref b6), .val (.int (own_P p3)), .val (.ref rr), .val (.int (own_got (own_w p1 p2 p4 i (i + 0)) (own_w p1 p2 p4 i (i + 1)) (own_w p1 p2 p4 i (i + 2)) (own_w p1 p2 p4 i (i + 3))))] [(.int p2), (.int p1), (.int (own_P p3)), (.int (7 : Int32)), (.ref rr)])) _
    refine st22 _ ?_
    show Steps p.tables e below (T22.setTop (mkF m 261 #[.val (.int p1), .val (.int p2), .val (.int p3), .val (.int p4), .val (.int p5), .val (.ref b6), .val (.int (own_P p3)), .val (.ref rr), .val (.int (own_got (own_w p1 p2 p4 i (i + 0)) (own_w p1 p2 p4 i (i + 1)) (own_w p1 p2 p4 i (i + 2)) (own_w p1 p2 p4 i (i + 3))))] [(.int (own_kept (7 : Int32) (own_P p3) p1 p2 (own_w p1 p2 p4 i 7)))])) _
    refine XS.ifNo X22.here hx rfl (hb hby at_261) rfl ((if0 _ _).trans (feq (own_k1 hi5 hPi p1 p2 p4 7 (by decide) : ¬ ((own_kept (7 : Int32) (own_P p3) p1 p2 (own_w p1 p2 p4 i 7)) = (0 : Int32)))).1) ?_
    show Steps p.tables e below (T22.setTop (mkF m 264 #[.val (.int p1), .val (.int p2), .val (.int p3), .val (.int p4), .val (.int p5), .val (.ref b6), .val (.int (own_P p3)), .val (.ref rr), .val (.int (own_got (own_w p1 p2 p4 i (i + 0)) (own_w p1 p2 p4 i (i + 1)) (own_w p1 p2 p4 i (i + 2)) (own_w p1 p2 p4 i (i + 3))))] [])) _
    refine XS.iconst X22.here hx rfl (hb hby at_264) ?_
    show Steps p.tables e below (T22.setTop (mkF m 265 #[.val (.int p1), .val (.int p2), .val (.int p3), .val (.int p4), .val (.int p5), .val (.ref b6), .val (.int (own_P p3)), .val (.ref rr), .val (.int (own_got (own_w p1 p2 p4 i (i + 0)) (own_w p1 p2 p4 i (i + 1)) (own_w p1 p2 p4 i (i + 2)) (own_w p1 p2 p4 i (i + 3))))] [(.int (1 : Int32))])) _
    refine XS.goto X22.here hx rfl (pc0 := 265) (pc' := 269) rfl (hb hby at_265) (by decide) (by decide) ?_
    show Steps p.tables e below (T22.setTop (mkF m 269 #[.val (.int p1), .val (.int p2), .val (.int p3), .val (.int p4), .val (.int p5), .val (.ref b6), .val (.int (own_P p3)), .val (.ref rr), .val (.int (own_got (own_w p1 p2 p4 i (i + 0)) (own_w p1 p2 p4 i (i + 1)) (own_w p1 p2 p4 i (i + 2)) (own_w p1 p2 p4 i (i + 3))))] [(.int (1 : Int32))])) _
    exact retN X22 hx (t := .boolean) Bd.returns (by simp) (hb hby at_269) hr
  · show Q0 Z p1 p2 p3 p4 p5 h0 n0 _ T22.heap _
    exact ⟨rfl, N22⟩
set_option maxRecDepth 65536 in
set_option maxHeartbeats 40000000 in
theorem comes_1 {Post : Tables → Env → Array Value → State → Outcome → State → Prop} (hpost : ∀ tb e args s v u, (limb_1_1.after args s (.returned v) u = true ∧ limb_1_2.after args s (.returned v) u = true ∧ True) → FrameEnd s (.returned v) u (Jvm.fieldLocs frame_1_writes args s ++ Jvm.arrayLocs frame_1_arrays args s ++ Jvm.staticLocs frame_1_statics s) 16 640 → Post tb e args s (.returned v) u) :
    ArmFor flags0 classFile x code maxLocals ret World_1 tables_1 room_1 Calls_1 rest_1 Pre_1 Post := by
  intro l hfl _ _ p e ha hc hk s m args below hf hA hF happ hP
  obtain ⟨hcalls, hrest, hpre⟩ := hP
  obtain ⟨-, -, -, hnamed, -, -, -, hat⟩ := (Spec.applies_iff hf).mp happ
  obtain ⟨hg, hn⟩ := and_e (Cond.before_iff.mp (show (Jvm.Cond.and given_1 narrow_1).before args s = true from hpre))
  obtain ⟨g23, g24⟩ := and_e hg
  obtain ⟨g25, g26⟩ := and_e g24
  obtain ⟨g27, g28⟩ := and_e g26
  obtain ⟨g29, g30⟩ := and_e g28
  obtain ⟨g31, g32⟩ := and_e g30
  obtain ⟨w0, w1, w2, w3, w4, rfl⟩ : ∃ w0 w1 w2 w3 w4 : Value, args = #[w0, w1, w2, w3, w4] := by
    have hs : args.size = 5 := by simpa [Cond.value, given_1] using g23
    obtain ⟨L⟩ := args
    match L, hs with
    | [w0, w1, w2, w3, w4], _ => exact ⟨w0, w1, w2, w3, w4, rfl⟩
  have hw := fun d (hd : d ∈ tables_1) => atoms_spec (ws := Jvm.Cond.code x code maxLocals ret :: tables_1) hat d (List.mem_cons_of_mem _ hd)
  have hfit : Fit s := fun {y c} hc i hi => by
    obtain ⟨ha, rfl⟩ := Array.getElem?_eq_some_iff.mp hc
    have q := List.all_eq_true.mp ((Array.all_eq_true_iff_forall_mem.mp hF) _ (Array.getElem_mem ha)) i (List.mem_range.mpr hi)
    simpa [Array.getElem?_eq_getElem hi] using q
  obtain ⟨i0, ei0⟩ := is_v g25
  obtain rfl : w0 = (.int i0) := Option.some.inj ei0
  obtain ⟨i1, ei1⟩ := is_v g27
  obtain rfl : w1 = (.int i1) := Option.some.inj ei1
  obtain ⟨i2, ei2⟩ := is_v g29
  obtain rfl : w2 = (.int i2) := Option.some.inj ei2
  obtain ⟨i3, ei3⟩ := is_v g31
  obtain rfl : w3 = (.int i3) := Option.some.inj ei3
  obtain ⟨i4, ei4⟩ := is_v g32
  obtain rfl : w4 = (.int i4) := Option.some.inj ei4
  obtain ⟨n, o, h1, h2, h3, _, L, rfl, ⟨rfl, N⟩, hq⟩ := rm0 l s _ hw tables_1 i0 i1 i2 i3 i4 s.heap s.heap.size (Nat.le_refl _) p e ha hc hk s m _ below hf ((Spec.applies_iff_loose hf).mp happ).1 ⟨rfl, State.Warmed39.refl s, rfl⟩ trivial
  refine ⟨n, _, h1, h2, h3, hpost _ _ _ _ _ _ ⟨Cond.after_iff.mpr rfl, Cond.after_iff.mpr (eq_i res_at (Term.int_eval (1)) rfl), trivial⟩ ⟨hq.1, hq.2.1, (hq.2.2.sift fun y hy => Or.inr (N y hy)).mono (by decide) (by decide)⟩⟩
theorem main_1_1 : Claimed_1_1 := comes_1 fun _ _ _ _ _ _ h hF => ⟨h.1, hF⟩
theorem main_1_2 : Claimed_1_2 := comes_1 fun _ _ _ _ _ _ h hF => ⟨h.2.1, hF⟩
end Jvm.Pilot.@@N@@
namespace Jvm.Pilot.@@N@@
open Jvm Jvm.ClassFile Sem Op Lib Jvm.Free Jvm.Stand Jvm.Pilot.@@N@@.Jvm.D
/-! MADE BY PROGRAM (witnessworld.py) out of the Statement's table words and the real class files: 12 classes; the members and pool entries that the words name. The judged class is class 1, her method 1. -/
namespace start1
open Jvm.ClassFile
def u (s : String) : CpInfo := .utf8 (stringToUtf16 s)
/-- a pool by its gaps: so many unusable entries, then the entry; so many at the end -/
def gap : Nat → List CpInfo → List CpInfo
  | 0, r => r
  | n + 1, r => .unusable :: gap n r
def poolList (es : List (Nat × CpInfo)) (last : Nat) : List CpInfo := es.foldr (fun e r => gap e.1 (e.2 :: r)) (gap last [])
def pool (es : List (Nat × CpInfo)) (last : Nat) : Array CpInfo := ⟨poolList es last⟩
def fileOf (pool : Array CpInfo) (this : Nat) (attrs : Array Attribute := #[]) (ms : Array MethodInfo := #[]) (fl : Nat := 33) (sup : Nat := 0) (ifs : Array Nat := #[]) (fds : Array FieldInfo := #[]) : ClassFile where
  minorVersion := 0
  majorVersion := 65
  constantPool := pool
  accessFlags := fl
  thisClass := this
  superClass := sup
  interfaces := ifs
  fields := fds
  methods := ms
  attributes := attrs
def plain (name : String) (sup : Option ClassId) : Class where
  name := name
  kind := .ordinary
  loader := none
  accessFlags := 33
  super := sup
  interfaces := #[]
  cf := none
  fields := #[]
  methods := #[]
  instanceTypes := #[]
  staticTypes := #[]
  resolved := #[]
  callSites := []
  init := .initialized
  statics := none
  mirror := none

def pool0 : Array CpInfo := pool [(5, u "<init>"), (0, u "()V"), (1, .class_ 10), (1, u "java/lang/Object")] 113

def k0c0 : Code := { maxStack := 0, maxLocals := 1, code := object_method_1_code, exceptionTable := #[], attributes := #[] }
def k0m0 : Method := { name := "<init>", desc := "()V", sig := { parameters := [], returnType := none }, accessFlags := 1, code := some k0c0 }
/-- java/lang/Object -/
def k0 : Class := { plain "java/lang/Object" none with
  accessFlags := 33
  interfaces := #[]
  cf := some (fileOf pool0 8 #[] #[{ accessFlags := 1, nameIndex := 5, descriptorIndex := 6, attributes := #[] }] 33 0 #[] #[])
  fields := #[]
  methods := #[k0m0]
  instanceTypes := #[]
  staticTypes := #[]
  resolved := Array.replicate 124 none
  statics := none }

def pool1 : Array CpInfo := pool [(2, .class_ 4), (1, u "java/lang/Object"), (0, u "<init>"), (0, u "()V"), (0, .class_ 8), (0, u "com/example/acqueue/acqueue/WireWriter"), (0, .methodref 7 10), (0, .nameAndType 5 11), (0, u "(Z)V"), (0, .methodref 7 13), (0, .nameAndType 14 15), (0, u "int16"), (0, u "(I)V"), (0, .integer 2147483647), (0, .methodref 7 18), (0, .nameAndType 19 20), (0, u "putInt32"), (0, u "(II)V"), (0, .methodref 7 22), (0, .nameAndType 23 24), (0, u "toByteArray"), (0, u "()[B"), (0, .methodref 7 26), (0, .nameAndType 27 28), (0, u "size"), (0, u "()I"), (0, .methodref 30 31), (0, .class_ 32), (0, .nameAndType 33 34), (0, u "com/example/acqueue/acqueue/WireWriterPutInt32PinLaw"), (0, u "kept"), (0, u "([BIIII)Z"), (2, u "law"), (0, u "(IIIII)Z")] 5

def k1m0 : Method := { name := "<init>", desc := "()V", sig := { parameters := [], returnType := none }, accessFlags := 1, code := none }
def k1c1 : Code := { maxStack := 5, maxLocals := 9, code := code, exceptionTable := #[], attributes := #[] }
def k1m1 : Method := { name := "law", desc := "(IIIII)Z", sig := { parameters := [.int, .int, .int, .int, .int], returnType := some .boolean }, accessFlags := 9, code := some k1c1 }
def k1c2 : Code := { maxStack := 4, maxLocals := 7, code := method_3_code, exceptionTable := #[], attributes := #[] }
def k1m2 : Method := { name := "kept", desc := "([BIIII)Z", sig := { parameters := [(.array .byte), .int, .int, .int, .int], returnType := some .boolean }, accessFlags := 10, code := some k1c2 }
/-- com/example/acqueue/acqueue/WireWriterPutInt32PinLaw -/
def k1 : Class := { plain "com/example/acqueue/acqueue/WireWriterPutInt32PinLaw" (some 0) with
  accessFlags := 49
  interfaces := #[]
  cf := some (fileOf pool1 30 #[] #[{ accessFlags := 1, nameIndex := 5, descriptorIndex := 6, attributes := #[] }, { accessFlags := 9, nameIndex := 37, descriptorIndex := 38, attributes := #[] }, { accessFlags := 10, nameIndex := 33, descriptorIndex := 34, attributes := #[] }] 49 2 #[] #[])
  fields := #[]
  methods := #[k1m0, k1m1, k1m2]
  instanceTypes := #[]
  staticTypes := #[]
  resolved := Array.replicate 44 none
  statics := none }

def pool2 : Array CpInfo := pool [(3, .methodref 4 5), (0, .class_ 6), (0, .nameAndType 7 8), (0, u "java/lang/Object"), (0, u "<init>"), (0, u "()V"), (0, .class_ 10), (0, u "com/example/acqueue/acqueue/WireWriter"), (0, .fieldref 9 12), (0, .nameAndType 13 14), (0, u "bytes"), (0, u "[B"), (0, .fieldref 9 16), (0, .nameAndType 17 18), (0, u "flexible"), (0, u "Z"), (2, .methodref 9 22), (0, .nameAndType 23 24), (0, u "reserve"), (0, u "(I)V"), (0, .fieldref 9 26), (0, .nameAndType 27 28), (0, u "size"), (0, u "I"), (4, u "putInt32"), (0, u "(II)V"), (52, u "()I"), (28, .methodref 117 118), (0, .class_ 119), (0, .nameAndType 120 121), (0, u "java/util/Arrays"), (0, u "copyOf"), (0, u "([BI)[B"), (2, u "int16"), (0, .long 2147483639), (7, .long 2), (10, u "INITIAL_CAPACITY"), (2, u "MAX_CAPACITY"), (1, u "(Z)V"), (23, u "toByteArray"), (0, u "()[B")] 2

def k2c0 : Code := { maxStack := 2, maxLocals := 2, code := prog_38_method_1_code, exceptionTable := #[], attributes := #[] }
def k2m0 : Method := { name := "<init>", desc := "(Z)V", sig := { parameters := [.boolean], returnType := none }, accessFlags := 0, code := some k2c0 }
def k2c1 : Code := { maxStack := 5, maxLocals := 2, code := prog_38_method_3_code, exceptionTable := #[], attributes := #[] }
def k2m1 : Method := { name := "int16", desc := "(I)V", sig := { parameters := [.int], returnType := none }, accessFlags := 0, code := some k2c1 }
def k2c2 : Code := { maxStack := 1, maxLocals := 1, code := prog_38_method_17_code, exceptionTable := #[], attributes := #[] }
def k2m2 : Method := { name := "size", desc := "()I", sig := { parameters := [], returnType := some .int }, accessFlags := 0, code := some k2c2 }
def k2c3 : Code := { maxStack := 4, maxLocals := 3, code := prog_38_method_18_code, exceptionTable := #[], attributes := #[] }
def k2m3 : Method := { name := "putInt32", desc := "(II)V", sig := { parameters := [.int, .int], returnType := none }, accessFlags := 0, code := some k2c3 }
def k2c4 : Code := { maxStack := 2, maxLocals := 1, code := prog_38_method_20_code, exceptionTable := #[], attributes := #[] }
def k2m4 : Method := { name := "toByteArray", desc := "()[B", sig := { parameters := [], returnType := some (.array .byte) }, accessFlags := 0, code := some k2c4 }
def k2c5 : Code := { maxStack := 10, maxLocals := 4, code := prog_38_method_22_code, exceptionTable := #[], attributes := #[] }
def k2m5 : Method := { name := "reserve", desc := "(I)V", sig := { parameters := [.int], returnType := none }, accessFlags := 2, code := some k2c5 }
/-- com/example/acqueue/acqueue/WireWriter -/
def k2 : Class := { plain "com/example/acqueue/acqueue/WireWriter" (some 0) with
  accessFlags := 48
  interfaces := #[]
  cf := some (fileOf pool2 9 #[] #[{ accessFlags := 0, nameIndex := 7, descriptorIndex := 149, attributes := #[] }, { accessFlags := 0, nameIndex := 124, descriptorIndex := 24, attributes := #[] }, { accessFlags := 0, nameIndex := 27, descriptorIndex := 87, attributes := #[] }, { accessFlags := 0, nameIndex := 33, descriptorIndex := 34, attributes := #[] }, { accessFlags := 0, nameIndex := 173, descriptorIndex := 174, attributes := #[] }, { accessFlags := 2, nameIndex := 23, descriptorIndex := 24, attributes := #[] }] 48 4 #[] #[{ accessFlags := 26, nameIndex := 144, descriptorIndex := 28, attributes := #[] }, { accessFlags := 26, nameIndex := 147, descriptorIndex := 28, attributes := #[] }, { accessFlags := 18, nameIndex := 17, descriptorIndex := 18, attributes := #[] }, { accessFlags := 2, nameIndex := 13, descriptorIndex := 14, attributes := #[] }, { accessFlags := 2, nameIndex := 27, descriptorIndex := 28, attributes := #[] }])
  fields := #[{ name := "INITIAL_CAPACITY", type := .int, accessFlags := 26, slot := 0, constantValue := 0 }, { name := "MAX_CAPACITY", type := .int, accessFlags := 26, slot := 1, constantValue := 0 }, { name := "flexible", type := .boolean, accessFlags := 18, slot := 0, constantValue := 0 }, { name := "bytes", type := (.array .byte), accessFlags := 2, slot := 1, constantValue := 0 }, { name := "size", type := .int, accessFlags := 2, slot := 2, constantValue := 0 }]
  methods := #[k2m0, k2m1, k2m2, k2m3, k2m4, k2m5]
  instanceTypes := #[.boolean, (.array .byte), .int]
  staticTypes := #[.int, .int]
  resolved := Array.replicate 177 none
  statics := none }

def pool3 : Array CpInfo := pool [(2, .class_ 4), (1, u "java/lang/Object"), (0, u "<init>"), (0, u "()V"), (7, .class_ 16), (1, u "java/util/Arrays"), (57, .class_ 76), (1, u "java/util/Arrays$NaturalOrder"), (36, .class_ 115), (1, u "java/util/Arrays$LegacyMergeSort"), (1, u "Z"), (32, .methodref 151 152), (0, .class_ 153), (0, .nameAndType 154 155), (0, u "java/lang/System"), (0, u "arraycopy"), (0, u "(Ljava/lang/Object;ILjava/lang/Object;II)V"), (146, u "copyOf"), (1, .methodref 305 306), (0, .class_ 307), (0, .nameAndType 308 309), (0, u "java/lang/Math"), (0, u "min"), (0, u "(II)I"), (65, .class_ 376), (0, u "java/util/Arrays$ArrayList"), (68, u "$assertionsDisabled"), (269, u "MIN_ARRAY_SORT_GRAN"), (0, u "I"), (2, u "INSERTIONSORT_THRESHOLD"), (149, u "([BI)[B"), (105, .class_ 976), (0, u "java/util/Arrays$ArrayItr")] 52

def k3m0 : Method := { name := "<init>", desc := "()V", sig := { parameters := [], returnType := none }, accessFlags := 2, code := none }
def k3c1 : Code := { maxStack := 6, maxLocals := 3, code := jdk_65_method_121_code, exceptionTable := #[], attributes := #[] }
def k3m1 : Method := { name := "copyOf", desc := "([BI)[B", sig := { parameters := [(.array .byte), .int], returnType := some (.array .byte) }, accessFlags := 9, code := some k3c1 }
/-- java/util/Arrays -/
def k3 : Class := { plain "java/util/Arrays" (some 0) with
  accessFlags := 49
  interfaces := #[]
  cf := some (fileOf pool3 14 #[.nestMembers #[975, 375, 113, 74]] #[{ accessFlags := 2, nameIndex := 5, descriptorIndex := 6, attributes := #[] }, { accessFlags := 9, nameIndex := 302, descriptorIndex := 869, attributes := #[] }] 49 2 #[] #[{ accessFlags := 26, nameIndex := 715, descriptorIndex := 716, attributes := #[] }, { accessFlags := 26, nameIndex := 719, descriptorIndex := 716, attributes := #[] }, { accessFlags := 4120, nameIndex := 445, descriptorIndex := 117, attributes := #[] }])
  fields := #[{ name := "MIN_ARRAY_SORT_GRAN", type := .int, accessFlags := 26, slot := 0, constantValue := 0 }, { name := "INSERTIONSORT_THRESHOLD", type := .int, accessFlags := 26, slot := 1, constantValue := 0 }, { name := "$assertionsDisabled", type := .boolean, accessFlags := 4120, slot := 2, constantValue := 0 }]
  methods := #[k3m0, k3m1]
  instanceTypes := #[]
  staticTypes := #[.int, .int, .boolean]
  resolved := Array.replicate 1029 none
  statics := none }

def pool4 : Array CpInfo := pool [(1, .class_ 2), (0, u "java/lang/Math"), (1, .class_ 6), (1, u "java/lang/Object"), (0, u "<init>"), (0, u "()V"), (89, .class_ 100), (1, u "java/lang/Math$RandomNumberGeneratorHolder"), (71, u "negativeZeroFloatBits"), (0, u "J"), (2, u "negativeZeroDoubleBits"), (24, u "min"), (43, u "$assertionsDisabled"), (0, u "Z"), (88, u "(II)I"), (2, u "twoToTheDoubleScaleDown"), (0, u "D"), (4, u "twoToTheDoubleScaleUp"), (9, u "E"), (3, u "PI"), (2, u "TAU"), (2, u "DEGREES_TO_RADIANS"), (0, u "RADIANS_TO_DEGREES")] 94

def k4m0 : Method := { name := "<init>", desc := "()V", sig := { parameters := [], returnType := none }, accessFlags := 2, code := none }
def k4c1 : Code := { maxStack := 2, maxLocals := 2, code := jdk_29_method_69_code, exceptionTable := #[], attributes := #[] }
def k4m1 : Method := { name := "min", desc := "(II)I", sig := { parameters := [.int, .int], returnType := some .int }, accessFlags := 9, code := some k4c1 }
/-- java/lang/Math -/
def k4 : Class := { plain "java/lang/Math" (some 0) with
  accessFlags := 49
  interfaces := #[]
  cf := some (fileOf pool4 1 #[.nestMembers #[98]] #[{ accessFlags := 2, nameIndex := 7, descriptorIndex := 8, attributes := #[] }, { accessFlags := 9, nameIndex := 201, descriptorIndex := 335, attributes := #[] }] 49 4 #[] #[{ accessFlags := 25, nameIndex := 354, descriptorIndex := 339, attributes := #[] }, { accessFlags := 25, nameIndex := 358, descriptorIndex := 339, attributes := #[] }, { accessFlags := 25, nameIndex := 361, descriptorIndex := 339, attributes := #[] }, { accessFlags := 26, nameIndex := 364, descriptorIndex := 339, attributes := #[] }, { accessFlags := 26, nameIndex := 365, descriptorIndex := 339, attributes := #[] }, { accessFlags := 26, nameIndex := 172, descriptorIndex := 173, attributes := #[] }, { accessFlags := 26, nameIndex := 176, descriptorIndex := 173, attributes := #[] }, { accessFlags := 8, nameIndex := 344, descriptorIndex := 339, attributes := #[] }, { accessFlags := 8, nameIndex := 338, descriptorIndex := 339, attributes := #[] }, { accessFlags := 4120, nameIndex := 245, descriptorIndex := 246, attributes := #[] }])
  fields := #[{ name := "E", type := .double, accessFlags := 25, slot := 0, constantValue := 0 }, { name := "PI", type := .double, accessFlags := 25, slot := 1, constantValue := 0 }, { name := "TAU", type := .double, accessFlags := 25, slot := 2, constantValue := 0 }, { name := "DEGREES_TO_RADIANS", type := .double, accessFlags := 26, slot := 3, constantValue := 0 }, { name := "RADIANS_TO_DEGREES", type := .double, accessFlags := 26, slot := 4, constantValue := 0 }, { name := "negativeZeroFloatBits", type := .long, accessFlags := 26, slot := 5, constantValue := 0 }, { name := "negativeZeroDoubleBits", type := .long, accessFlags := 26, slot := 6, constantValue := 0 }, { name := "twoToTheDoubleScaleUp", type := .double, accessFlags := 8, slot := 7, constantValue := 0 }, { name := "twoToTheDoubleScaleDown", type := .double, accessFlags := 8, slot := 8, constantValue := 0 }, { name := "$assertionsDisabled", type := .boolean, accessFlags := 4120, slot := 9, constantValue := 0 }]
  methods := #[k4m0, k4m1]
  instanceTypes := #[]
  staticTypes := #[.double, .double, .double, .double, .double, .long, .long, .double, .double, .boolean]
  resolved := Array.replicate 460 none
  statics := none }

def pool5 : Array CpInfo := pool [(2, .class_ 4), (1, u "java/lang/Object"), (0, u "<init>"), (0, u "()V"), (1, .class_ 10), (1, u "java/lang/System"), (0, u "allowSecurityManager"), (0, u "I"), (16, u "cons"), (0, u "Ljava/io/Console;"), (77, .class_ 110), (1, u "java/lang/System$CallersHolder"), (43, u "initialErrStream"), (0, u "Ljava/io/PrintStream;"), (19, u "security"), (0, u "Ljava/lang/SecurityManager;"), (31, .class_ 209), (0, u "java/lang/System$1"), (7, u "props"), (0, u "Ljava/util/Properties;"), (2, u "lineSeparator"), (0, u "Ljava/lang/String;"), (96, .class_ 321), (1, u "java/lang/System$LoggerFinder"), (5, .class_ 328), (0, u "java/lang/System$Logger"), (67, u "err"), (2, u "out"), (91, u "notSupportedJnuEncoding"), (15, u "in"), (17, u "initialIn"), (0, u "Ljava/io/InputStream;"), (35, u "bootLayer"), (0, u "Ljava/lang/ModuleLayer;"), (99, .class_ 664), (0, u "java/lang/System$2"), (9, u "NEVER"), (2, u "MAYBE"), (49, u "arraycopy"), (0, u "(Ljava/lang/Object;ILjava/lang/Object;II)V"), (72, .class_ 802), (0, u "java/lang/System$Logger$Level")] 31

def k5m0 : Method := { name := "<init>", desc := "()V", sig := { parameters := [], returnType := none }, accessFlags := 2, code := none }
def k5m1 : Method := { name := "arraycopy", desc := "(Ljava/lang/Object;ILjava/lang/Object;II)V", sig := { parameters := [(.object "java/lang/Object"), .int, (.object "java/lang/Object"), .int, .int], returnType := none }, accessFlags := 265, code := none }
/-- java/lang/System -/
def k5 : Class := { plain "java/lang/System" (some 0) with
  accessFlags := 49
  interfaces := #[]
  cf := some (fileOf pool5 8 #[.nestMembers #[319, 327, 801, 108, 663, 208]] #[{ accessFlags := 2, nameIndex := 5, descriptorIndex := 6, attributes := #[] }, { accessFlags := 265, nameIndex := 727, descriptorIndex := 728, attributes := #[] }] 49 2 #[] #[{ accessFlags := 25, nameIndex := 507, descriptorIndex := 526, attributes := #[] }, { accessFlags := 25, nameIndex := 399, descriptorIndex := 155, attributes := #[] }, { accessFlags := 25, nameIndex := 396, descriptorIndex := 155, attributes := #[] }, { accessFlags := 10, nameIndex := 525, descriptorIndex := 526, attributes := #[] }, { accessFlags := 26, nameIndex := 674, descriptorIndex := 12, attributes := #[] }, { accessFlags := 26, nameIndex := 677, descriptorIndex := 12, attributes := #[] }, { accessFlags := 10, nameIndex := 11, descriptorIndex := 12, attributes := #[] }, { accessFlags := 74, nameIndex := 175, descriptorIndex := 176, attributes := #[] }, { accessFlags := 10, nameIndex := 491, descriptorIndex := 222, attributes := #[] }, { accessFlags := 74, nameIndex := 29, descriptorIndex := 30, attributes := #[] }, { accessFlags := 74, nameIndex := 154, descriptorIndex := 155, attributes := #[] }, { accessFlags := 10, nameIndex := 217, descriptorIndex := 218, attributes := #[] }, { accessFlags := 10, nameIndex := 221, descriptorIndex := 222, attributes := #[] }, { accessFlags := 8, nameIndex := 562, descriptorIndex := 563, attributes := #[] }])
  fields := #[{ name := "in", type := (.object "java/io/InputStream"), accessFlags := 25, slot := 0, constantValue := 0 }, { name := "out", type := (.object "java/io/PrintStream"), accessFlags := 25, slot := 1, constantValue := 0 }, { name := "err", type := (.object "java/io/PrintStream"), accessFlags := 25, slot := 2, constantValue := 0 }, { name := "initialIn", type := (.object "java/io/InputStream"), accessFlags := 10, slot := 3, constantValue := 0 }, { name := "NEVER", type := .int, accessFlags := 26, slot := 4, constantValue := 0 }, { name := "MAYBE", type := .int, accessFlags := 26, slot := 5, constantValue := 0 }, { name := "allowSecurityManager", type := .int, accessFlags := 10, slot := 6, constantValue := 0 }, { name := "security", type := (.object "java/lang/SecurityManager"), accessFlags := 74, slot := 7, constantValue := 0 }, { name := "notSupportedJnuEncoding", type := (.object "java/lang/String"), accessFlags := 10, slot := 8, constantValue := 0 }, { name := "cons", type := (.object "java/io/Console"), accessFlags := 74, slot := 9, constantValue := 0 }, { name := "initialErrStream", type := (.object "java/io/PrintStream"), accessFlags := 74, slot := 10, constantValue := 0 }, { name := "props", type := (.object "java/util/Properties"), accessFlags := 10, slot := 11, constantValue := 0 }, { name := "lineSeparator", type := (.object "java/lang/String"), accessFlags := 10, slot := 12, constantValue := 0 }, { name := "bootLayer", type := (.object "java/lang/ModuleLayer"), accessFlags := 8, slot := 13, constantValue := 0 }]
  methods := #[k5m0, k5m1]
  instanceTypes := #[]
  staticTypes := #[(.object "java/io/InputStream"), (.object "java/io/PrintStream"), (.object "java/io/PrintStream"), (.object "java/io/InputStream"), .int, .int, .int, (.object "java/lang/SecurityManager"), (.object "java/lang/String"), (.object "java/io/Console"), (.object "java/io/PrintStream"), (.object "java/util/Properties"), (.object "java/lang/String"), (.object "java/lang/ModuleLayer")]
  resolved := Array.replicate 834 none
  statics := none }

def pool6 : Array CpInfo := pool [(1, u "java/lang/Cloneable"), (0, .class_ 1), (0, u "java/lang/Object"), (0, .class_ 3)] 3

/-- java/lang/Cloneable -/
def k6 : Class := { plain "java/lang/Cloneable" (some 0) with
  accessFlags := 1537
  interfaces := #[]
  cf := some (fileOf pool6 2 #[] #[] 1537 4 #[] #[])
  fields := #[]
  methods := #[]
  instanceTypes := #[]
  staticTypes := #[]
  resolved := Array.replicate 8 none
  statics := none }

def pool7 : Array CpInfo := pool [(1, u "java/io/Serializable"), (0, .class_ 1), (0, u "java/lang/Object"), (0, .class_ 3)] 3

/-- java/io/Serializable -/
def k7 : Class := { plain "java/io/Serializable" (some 0) with
  accessFlags := 1537
  interfaces := #[]
  cf := some (fileOf pool7 2 #[] #[] 1537 4 #[] #[])
  fields := #[]
  methods := #[]
  instanceTypes := #[]
  staticTypes := #[]
  resolved := Array.replicate 8 none
  statics := none }

/-- the primitive byte -/
def k8 : Class := { plain "byte" none with kind := .primitive 'B', accessFlags := 0x411 }
/-- [B -/
def k9 : Class := { plain "[B" (some 0) with kind := .array 8 .byte, interfaces := #[6, 7], accessFlags := 1041 }

/-- the primitive int -/
def k10 : Class := { plain "int" none with kind := .primitive 'I', accessFlags := 0x411 }
/-- [I -/
def k11 : Class := { plain "[I" (some 0) with kind := .array 10 .int, interfaces := #[6, 7], accessFlags := 1041 }

def heap : Heap := #[]
def classes : Array Class := #[k0, k1, k2, k3, k4, k5, k6, k7, k8, k9, k10, k11]
def interned : List (Array UInt16 × Addr) := []
def slotsUsed : Nat := 0
def theMethod : MethodId := ⟨1, 1⟩
def args0 : Array Value := #[.int 5, .int 7, .int 3, .int 9, .int 1]
def aboutOver (below : List Frame) : State where
  vm := { classes := classes, interned := interned.toArray }
  heap := heap
  slotsUsed := slotsUsed
  threads := #[{ frames := .invoking theMethod args0 :: below }]
def below0 : List Frame := [.native { method := ⟨0, 0⟩, args := #[] }]
def about1 : State := aboutOver below0
def p0 : Program := .bare "" "" ""
def e0 : Env := launch0.env 0 0 0
theorem w_frames : about1.frames = Frame.invoking theMethod args0 :: below0 := rfl
set_option maxRecDepth 65536 in
theorem w_args : argsFit about1.vm theMethod args0 = true := by decide +kernel
set_option maxRecDepth 65536 in
theorem w_heap : heapFits about1 = true := by decide +kernel
set_option maxRecDepth 65536 in
theorem w_runnable : about1.curStatus? = some .runnable := by decide +kernel
set_option maxRecDepth 65536 in
theorem w_alone : about1.alone = true := by decide +kernel
set_option maxRecDepth 65536 in
theorem w_named : about1.methodNamed? x = some theMethod := by decide +kernel
set_option maxRecDepth 65536 in
theorem w_hears : about1.hears theMethod below0 = true := by decide +kernel
set_option maxRecDepth 65536 in
theorem w_ripe : about1.ripe theMethod args0 below0 = true := by decide +kernel
theorem w_running : about1.status = .running := rfl
set_option maxRecDepth 65536 in
theorem w_room : about1.hasRoom e0.platform room_1 = true :=
  launch0.hasRoom_least _ room_1 (by decide +kernel) (by decide +kernel) (by decide +kernel) (by decide +kernel) (by decide +kernel) (by decide +kernel)
theorem allAtoms_all (ts : List Jvm.Cond) (a : Array Jvm.Value) (st : Jvm.State) : (allAtoms ts).before a st = ts.all (fun c => c.before a st) := by
  induction ts with
  | nil => rfl
  | cons c t ih =>
    show (Jvm.Cond.and c (allAtoms t)).before a st = _
    rw [Jvm.Cond.before_and, ih, List.all_cons]
def words1 : List Jvm.Cond := Jvm.Cond.code x code maxLocals ret :: tables_1
/-- a 'code' word, met by the world's own term for the bytes: nothing is compared byte by byte -/
theorem code_word {y : MethodName} {bytes : ByteArray} {mx : Nat} {rt : Option FieldType} {a : Array Value} {s : State} {m : MethodId} {meth : Method} {c : Code} (h1 : s.methodNamed? y = some m) (h2 : s.vm.method? m = some meth) (h3 : meth.code = some c) (h4 : c.code = bytes)
    (h5 : (c.maxLocals == mx && c.exceptionTable.isEmpty && decide (c.maxStack ≤ mostOperands) && decide (meth.sig.returnType = rt) && !meth.locks && decide (parseMethodDescriptor y.desc = some meth.sig)) = true) : (Jvm.Cond.code y bytes mx rt).before a s = true := by
  simp only [Bool.and_eq_true, beq_iff_eq, Bool.not_eq_true', decide_eq_true_eq] at h5
  obtain ⟨⟨⟨⟨⟨g1, g2⟩, g3⟩, g4⟩, g5⟩, g6⟩ := h5
  simp [Cond.before, Cond.holds, Cond.value, h1, h2, h3, h4, g1, g2, g3, g4, g5, g6]
def isCode : Jvm.Cond → Bool
  | .code _ _ _ _ => true
  | _ => false
theorem all_split {L : List Jvm.Cond} {P : Jvm.Cond → Bool} (h1 : L.all (fun c => isCode c || P c) = true) (h2 : ∀ c ∈ L.filter isCode, P c = true) : L.all P = true := by
  refine List.all_eq_true.mpr fun c hc => ?_
  have h := List.all_eq_true.mp h1 c hc
  rcases Bool.eq_false_or_eq_true (isCode c) with hi | hi
  · exact h2 c (List.mem_filter.mpr ⟨hc, hi⟩)
  · simpa [hi] using h
set_option maxRecDepth 65536 in
theorem w_c0 : (Jvm.Cond.code x code maxLocals ret).before args0 about1 = true := code_word (m := ⟨1, 1⟩) (meth := k1m1) (c := k1c1) (by decide +kernel) rfl rfl rfl (by decide +kernel)
set_option maxRecDepth 65536 in
theorem w_c1 : (Jvm.Cond.code ({ cls := "com/example/acqueue/acqueue/WireWriter", name := "<init>", desc := "(Z)V" } : Jvm.MethodName) prog_38_method_1_code (2 : Nat) (Option.none : Option Jvm.ClassFile.FieldType)).before args0 about1 = true := code_word (m := ⟨2, 0⟩) (meth := k2m0) (c := k2c0) (by decide +kernel) rfl rfl rfl (by decide +kernel)
set_option maxRecDepth 65536 in
theorem w_c2 : (Jvm.Cond.code ({ cls := "java/lang/Object", name := "<init>", desc := "()V" } : Jvm.MethodName) object_method_1_code (1 : Nat) (Option.none : Option Jvm.ClassFile.FieldType)).before args0 about1 = true := code_word (m := ⟨0, 0⟩) (meth := k0m0) (c := k0c0) (by decide +kernel) rfl rfl rfl (by decide +kernel)
set_option maxRecDepth 65536 in
theorem w_c3 : (Jvm.Cond.code ({ cls := "com/example/acqueue/acqueue/WireWriter", name := "int16", desc := "(I)V" } : Jvm.MethodName) prog_38_method_3_code (2 : Nat) (Option.none : Option Jvm.ClassFile.FieldType)).before args0 about1 = true := code_word (m := ⟨2, 1⟩) (meth := k2m1) (c := k2c1) (by decide +kernel) rfl rfl rfl (by decide +kernel)
set_option maxRecDepth 65536 in
theorem w_c4 : (Jvm.Cond.code ({ cls := "com/example/acqueue/acqueue/WireWriter", name := "reserve", desc := "(I)V" } : Jvm.MethodName) prog_38_method_22_code (4 : Nat) (Option.none : Option Jvm.ClassFile.FieldType)).before args0 about1 = true := code_word (m := ⟨2, 5⟩) (meth := k2m5) (c := k2c5) (by decide +kernel) rfl rfl rfl (by decide +kernel)
set_option maxRecDepth 65536 in
theorem w_c5 : (Jvm.Cond.code ({ cls := "com/example/acqueue/acqueue/WireWriter", name := "putInt32", desc := "(II)V" } : Jvm.MethodName) prog_38_method_18_code (3 : Nat) (Option.none : Option Jvm.ClassFile.FieldType)).before args0 about1 = true := code_word (m := ⟨2, 3⟩) (meth := k2m3) (c := k2c3) (by decide +kernel) rfl rfl rfl (by decide +kernel)
set_option maxRecDepth 65536 in
theorem w_c6 : (Jvm.Cond.code ({ cls := "com/example/acqueue/acqueue/WireWriter", name := "toByteArray", desc := "()[B" } : Jvm.MethodName) prog_38_method_20_code (1 : Nat) (Option.some (Jvm.ClassFile.FieldType.array Jvm.ClassFile.FieldType.byte))).before args0 about1 = true := code_word (m := ⟨2, 4⟩) (meth := k2m4) (c := k2c4) (by decide +kernel) rfl rfl rfl (by decide +kernel)
set_option maxRecDepth 65536 in
theorem w_c7 : (Jvm.Cond.code ({ cls := "java/util/Arrays", name := "copyOf", desc := "([BI)[B" } : Jvm.MethodName) jdk_65_method_121_code (3 : Nat) (Option.some (Jvm.ClassFile.FieldType.array Jvm.ClassFile.FieldType.byte))).before args0 about1 = true := code_word (m := ⟨3, 1⟩) (meth := k3m1) (c := k3c1) (by decide +kernel) rfl rfl rfl (by decide +kernel)
set_option maxRecDepth 65536 in
theorem w_c8 : (Jvm.Cond.code ({ cls := "java/lang/Math", name := "min", desc := "(II)I" } : Jvm.MethodName) jdk_29_method_69_code (2 : Nat) (Option.some Jvm.ClassFile.FieldType.int)).before args0 about1 = true := code_word (m := ⟨4, 1⟩) (meth := k4m1) (c := k4c1) (by decide +kernel) rfl rfl rfl (by decide +kernel)
set_option maxRecDepth 65536 in
theorem w_c9 : (Jvm.Cond.code ({ cls := "com/example/acqueue/acqueue/WireWriter", name := "size", desc := "()I" } : Jvm.MethodName) prog_38_method_17_code (1 : Nat) (Option.some Jvm.ClassFile.FieldType.int)).before args0 about1 = true := code_word (m := ⟨2, 2⟩) (meth := k2m2) (c := k2c2) (by decide +kernel) rfl rfl rfl (by decide +kernel)
set_option maxRecDepth 65536 in
theorem w_c10 : (Jvm.Cond.code ({ cls := "com/example/acqueue/acqueue/WireWriterPutInt32PinLaw", name := "kept", desc := "([BIIII)Z" } : Jvm.MethodName) method_3_code (7 : Nat) (Option.some Jvm.ClassFile.FieldType.boolean)).before args0 about1 = true := code_word (m := ⟨1, 2⟩) (meth := k1m2) (c := k1c2) (by decide +kernel) rfl rfl rfl (by decide +kernel)
def codes1 : List Jvm.Cond := [Jvm.Cond.code x code maxLocals ret, Jvm.Cond.code ({ cls := "com/example/acqueue/acqueue/WireWriter", name := "<init>", desc := "(Z)V" } : Jvm.MethodName) prog_38_method_1_code (2 : Nat) (Option.none : Option Jvm.ClassFile.FieldType), Jvm.Cond.code ({ cls := "java/lang/Object", name := "<init>", desc := "()V" } : Jvm.MethodName) object_method_1_code (1 : Nat) (Option.none : Option Jvm.ClassFile.FieldType), Jvm.Cond.code ({ cls := "com/example/acqueue/acqueue/WireWriter", name := "int16", desc := "(I)V" } : Jvm.MethodName) prog_38_method_3_code (2 : Nat) (Option.none : Option Jvm.ClassFile.FieldType), Jvm.Cond.code ({ cls := "com/example/acqueue/acqueue/WireWriter", name := "reserve", desc := "(I)V" } : Jvm.MethodName) prog_38_method_22_code (4 : Nat) (Option.none : Option Jvm.ClassFile.FieldType), Jvm.Cond.code ({ cls := "com/example/acqueue/acqueue/WireWriter", name := "putInt32", desc := "(II)V" } : Jvm.MethodName) prog_38_method_18_code (3 : Nat) (Option.none : Option Jvm.ClassFile.FieldType), Jvm.Cond.code ({ cls := "com/example/acqueue/acqueue/WireWriter", name := "toByteArray", desc := "()[B" } : Jvm.MethodName) prog_38_method_20_code (1 : Nat) (Option.some (Jvm.ClassFile.FieldType.array Jvm.ClassFile.FieldType.byte)), Jvm.Cond.code ({ cls := "java/util/Arrays", name := "copyOf", desc := "([BI)[B" } : Jvm.MethodName) jdk_65_method_121_code (3 : Nat) (Option.some (Jvm.ClassFile.FieldType.array Jvm.ClassFile.FieldType.byte)), Jvm.Cond.code ({ cls := "java/lang/Math", name := "min", desc := "(II)I" } : Jvm.MethodName) jdk_29_method_69_code (2 : Nat) (Option.some Jvm.ClassFile.FieldType.int), Jvm.Cond.code ({ cls := "com/example/acqueue/acqueue/WireWriter", name := "size", desc := "()I" } : Jvm.MethodName) prog_38_method_17_code (1 : Nat) (Option.some Jvm.ClassFile.FieldType.int), Jvm.Cond.code ({ cls := "com/example/acqueue/acqueue/WireWriterPutInt32PinLaw", name := "kept", desc := "([BIIII)Z" } : Jvm.MethodName) method_3_code (7 : Nat) (Option.some Jvm.ClassFile.FieldType.boolean)]
set_option maxRecDepth 65536 in
theorem codes_eq : words1.filter isCode = codes1 := rfl
theorem w_codes : ∀ c ∈ words1.filter isCode, c.before args0 about1 = true := by
  rw [codes_eq]
  intro c hc
  simp only [codes1, List.mem_cons, List.not_mem_nil, or_false] at hc
  rcases hc with rfl | rfl | rfl | rfl | rfl | rfl | rfl | rfl | rfl | rfl | rfl
  · exact w_c0
  · exact w_c1
  · exact w_c2
  · exact w_c3
  · exact w_c4
  · exact w_c5
  · exact w_c6
  · exact w_c7
  · exact w_c8
  · exact w_c9
  · exact w_c10
set_option maxRecDepth 65536 in
theorem w_t1 : (words1.take 24).all (fun c => isCode c || c.before args0 about1) = true := by decide +kernel
set_option maxRecDepth 65536 in
theorem w_t2 : ((words1.drop 24).take 24).all (fun c => isCode c || c.before args0 about1) = true := by decide +kernel
set_option maxRecDepth 65536 in
theorem w_t3 : ((words1.drop 24).drop 24).all (fun c => isCode c || c.before args0 about1) = true := by decide +kernel
theorem w_tables : (allAtoms (Jvm.Cond.code x code maxLocals ret :: tables_1)).before args0 about1 = true := by
  rw [allAtoms_all]
  show words1.all (fun c => c.before args0 about1) = true
  refine all_split ?_ w_codes
  rw [← List.take_append_drop 24 words1, List.all_append, w_t1, ← List.take_append_drop 24 (words1.drop 24), List.all_append, w_t2, w_t3]
  rfl
set_option maxRecDepth 65536 in
theorem w_case : (Jvm.Cond.and given_1 narrow_1).before args0 about1 = true := by decide +kernel
theorem w_applies : (headSpec (Jvm.Cond.code x code maxLocals ret :: tables_1) room_1).applies x e0.platform about1 = true :=
  (Spec.applies_iff w_frames).mpr ⟨w_running, w_runnable, w_alone, w_named, w_hears, w_ripe, w_room, w_tables⟩
theorem atStart : AtStart classFile x code maxLocals ret World_1 tables_1 room_1 Calls_1 rest_1 Pre_1 launch0 p0 e0 about1 theMethod args0 below0 :=
  ⟨lists_1, trivial, launch0.admits_env _ _ _, launch0.least_env, fairChoices_fair.cas, fairChoices_fair.clock, w_frames, w_args, w_heap, w_applies, trivial, trivial, w_case⟩
end start1
theorem witness_1 : WitnessClaimed_1 := ⟨start1.p0, start1.e0, start1.about1, start1.theMethod, start1.args0, start1.below0, start1.atStart⟩
end Jvm.Pilot.@@N@@
