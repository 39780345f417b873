import JvmDerived
import JvmDerived.Pilot.@@N@@Statement
import JvmDerived.Pilot.@@N@@Code
set_option linter.unusedVariables false
set_option linter.unusedSimpArgs false
namespace Jvm.RoadKit
open Sem ClassFile Op Lib Jvm.Stand Jvm.Free Jvm.LawKit
section New
variable {p : Program} {l : Launch} {e : Env} {R : Room} {s : State} {m : MethodId} {args : Array Value} {below : List Frame} {meth : Method} {c : Code} {T : State} {locs : List Loc} {cells slots : Nat}
theorem retI (X : Stand p l e R s m args below meth c T locs cells slots) (hx : p.tables.exec = Jvm.exec) {pc : Nat} {Ls : Array Slot} {z : Int32} {rest : List Value} (hret : meth.sig.returnType = some .int) (hd : decode c.code pc = .ok (.ireturn, 1)) {fs : List Frame}
    (hl : ∀ (f : JFrame) (acts : List Action), f.method = m → f.locked = none → f.entered = [] → (doReturn e (T.setTop f) acts (some (.int z))).1 = T.setFrames fs) : Steps p.tables e below (T.setTop (mkF m pc Ls (.int z :: rest))) (T.setFrames fs) := by
  have hm' : T.vm.method? m = some meth := X.method'
  have hn : narrow .int (.int z) = .int z := rfl
  show Steps p.tables e below (T.setTop { method := m, pc := pc, locals := Ls, stack := _ :: rest, locked := none }) _
  jvm_step X.here [X.here.top, hx, hd, hm', hret, hn]
  first | (intro acts; rw [hl _ acts rfl rfl rfl]) | rw [hl _ _ rfl rfl rfl]
  exact Steps.refl _
end New
end Jvm.RoadKit
namespace Jvm.Pilot.@@N@@
open Jvm Jvm.ClassFile Sem Op Lib Jvm.Free Jvm.Stand Jvm.LawKit Jvm.RoadKit Bundle Jvm.Pilot.@@N@@.Jvm.D

def own_Cn (Z : State) (h : Heap) (a : Addr) (x1 x2 x3 x4 x5 x6 x7 : Int64) : Prop := Exa Z h a "com/example/nestwood/nestwood/session/StatementCounter$Counts" ∧ Fld Z h a "com/example/nestwood/nestwood/session/StatementCounter$Counts" "insert" "J" (.long x1) ∧ Fld Z h a "com/example/nestwood/nestwood/session/StatementCounter$Counts" "update" "J" (.long x2) ∧ Fld Z h a "com/example/nestwood/nestwood/session/StatementCounter$Counts" "delete" "J" (.long x3) ∧ Fld Z h a "com/example/nestwood/nestwood/session/StatementCounter$Counts" "select" "J" (.long x4) ∧ Fld Z h a "com/example/nestwood/nestwood/session/StatementCounter$Counts" "other" "J" (.long x5) ∧ Fld Z h a "com/example/nestwood/nestwood/session/StatementCounter$Counts" "rowsFetched" "J" (.long x6) ∧ Fld Z h a "com/example/nestwood/nestwood/session/StatementCounter$Counts" "rowsUpdated" "J" (.long x7)
theorem own_keep {Z : State} {h h' : Heap} {a : Addr} {x1 x2 x3 x4 x5 x6 x7 : Int64} {ws : List Addr} (H : own_Cn Z h a x1 x2 x3 x4 x5 x6 x7) (K : Keep h h' ws) (q : a ∉ ws) : own_Cn Z h' a x1 x2 x3 x4 x5 x6 x7 := by
  obtain ⟨h0, h1, h2, h3, h4, h5, h6, h7⟩ := H
  exact ⟨h0.keep K, h1.keep K q, h2.keep K q, h3.keep K q, h4.keep K q, h5.keep K q, h6.keep K q, h7.keep K q⟩
theorem own_ext {Z : State} {h h' : Heap} {a : Addr} {x1 x2 x3 x4 x5 x6 x7 : Int64} (H : own_Cn Z h a x1 x2 x3 x4 x5 x6 x7) (E : Ext h h') : own_Cn Z h' a x1 x2 x3 x4 x5 x6 x7 := by
  obtain ⟨h0, h1, h2, h3, h4, h5, h6, h7⟩ := H
  exact ⟨h0.ext E, h1.ext E, h2.ext E, h3.ext E, h4.ext E, h5.ext E, h6.ext E, h7.ext E⟩
theorem own_ni {a b : Addr} (h : a < b) : a ∉ [b] := fun q => absurd (List.mem_singleton.mp q) (Nat.ne_of_lt h)
def own_tot (a b c d e : Int64) : Int64 := (((a + b) + c) + d) + e
theorem own_unit : lcmpW (own_tot (1 : Int64) (1 : Int64) (1 : Int64) (1 : Int64) (1 : Int64)) (5 : Int64) = (0 : Int32) := by decide
theorem own_lc3 (a b c : Int64) : a + (b + c) = b + (a + c) := by rw [← Int64.add_assoc, Int64.add_comm a b, Int64.add_assoc]
theorem own_sym (a b c d e : Int64) : lcmpW (own_tot a b c d e) (own_tot b c d e a) = (0 : Int32) := by
  rw [lw_eq]
  unfold own_tot
  simp only [Int64.add_comm, own_lc3, Int64.add_assoc]
theorem own_add (a b c d e r : Int64) : lcmpW (own_tot (a - r) (b - r) (c - r) (d - r) (e - r)) ((own_tot a b c d e) - (own_tot r r r r r)) = (0 : Int32) := by
  rw [lw_eq]
  unfold own_tot
  simp only [Int64.sub_eq_add_neg, Int64.neg_add]
  simp only [Int64.add_comm, own_lc3, Int64.add_assoc]
theorem d2_0 : decode jdk_30_method_1_code 0 = .ok (.aload_n 0, 1) := by decide +kernel
theorem d2_1 : decode jdk_30_method_1_code 1 = .ok (.invokespecial 1, 3) := by decide +kernel
theorem d2_4 : decode jdk_30_method_1_code 4 = .ok (.return_, 1) := by decide +kernel
theorem pn_2 : plainName "java/lang/Record" = true := by first | (simp [plainName, overriddenIn]; done) | decide +kernel
theorem ef_2 (m : MethodId) (x0 : Addr) : entryFrame m #[(.ref x0)] 1 = mkF m 0 #[.val (.ref x0)] [] := by first | (simp [entryFrame, mkF, argsToLocals, Value.category]; done) | rfl
def Q2 (Z : State) (a1 : Addr) (h0 : Heap) (n0 : Nat) (v : Option Value) (h : Heap) (L : List Loc) : Prop := v = none ∧ Fr n0 L ∧ h = h0
set_option maxRecDepth 65536 in
set_option maxHeartbeats 40000000 in
theorem rm2 (l : Launch) (Z : State) (a0 : Array Value) (hw : ∀ d ∈ tables_1, d.before a0 Z = true) (ws : List Jvm.Cond) (a1 : Addr) (h0 : Heap) (n0 : Nat) (Z0 : n0 ≤ h0.size) :
    MetFree l (⟨"java/lang/Record", "<init>", "()V"⟩ : MethodName) (head1 (Jvm.Cond.code (⟨"java/lang/Record", "<init>", "()V"⟩ : MethodName) jdk_30_method_1_code 1 none :: ws) ({ frames := 1, cells := 0, slots := 0, locals := 12 } : Room)) (fun a U => a = #[(.ref a1)] ∧ Z.Warmed39 U.vm ∧ U.heap = h0) (fun _ _ _ _ _ => True) (fun _ U o U' => ∃ v L, o = .returned v ∧ Q2 Z a1 h0 n0 v U'.heap L ∧ FrameEnd U o U' L ({ frames := 1, cells := 0, slots := 0, locals := 12 } : Room).cells ({ frames := 1, cells := 0, slots := 0, locals := 12 } : Room).slots) := by
  refine MetFree.of_bodySF (plainFor_of_name pn_2) hisR ?_
  intro p e s m args below meth c s₁ Bd hml0 hP hK
  obtain ⟨rfl, hZ, hh⟩ := hP
  have hx := Bd.exec
  have hby := Bd.bytes
  have hml : c.maxLocals = 1 := hml0
  have hown : s.vm.findClass "java/lang/Record" = some m.cls := findClass_of_methodNamed Bd.named
  have hnm := (name_of_methodNamed Bd.named Bd.method).1
  have X0 : Stand p l e ({ frames := 1, cells := 0, slots := 0, locals := 12 } : Room) s m #[(.ref a1)] below meth c s₁ [] 0 0 := Stand.of_body Bd
  have e0 : s₁.heap = h0 := by rw [← hh, Bd.state]; rfl
  have N0 := Fr.nil n0
  have pre0 : ∀ t, Steps p.tables e below (s₁.setTop (mkF m 0 #[.val (.ref a1)] [])) t → Steps p.tables e below (s₁.setTop (entryFrame m #[(.ref a1)] 1)) t := fun t k => castTop (ef_2 m a1) k
  obtain ⟨T2, X2, e2, st2⟩ := initO X0 hx hZ hown (hw _ (List.mem_of_getElem? (i := 11) rfl)) (hw _ (List.mem_of_getElem? (i := 12) rfl)) (hw _ (List.mem_of_getElem? (i := 13) rfl)) e0 (g := (mkF m 1 #[.val (.ref a1)] [(.ref a1)])) rfl (by rw [hml]; rfl) rfl (hb hby d2_1) (by decide) (W := 0) (by show 2 * 0 + _ ≤ _; exact Nat.le_of_eq rfl) (by decide)
  obtain ⟨fs, hr, hrun, hended, hW, hsame⟩ := X2.leave (v := none) (fun _ => rfl)
  refine ⟨_, _, pre0 _ ?_, hrun, hended, _, _, rfl, ?_, ⟨_, rfl⟩, hW, hsame.mono (by decide) (by decide)⟩
  · show Steps p.tables e below (s₁.setTop (mkF m 0 #[.val (.ref a1)] [])) _
    refine XS.aloadN X0.here hx rfl (hb hby d2_0) rfl rfl ?_
    show Steps p.tables e below (s₁.setTop (mkF m 1 #[.val (.ref a1)] [(.ref a1)])) _
    refine st2 _ ?_
    show Steps p.tables e below (T2.setTop (mkF m 4 #[.val (.ref a1)] [])) _
    exact X2.returnOut hx Bd.returns (hb hby d2_4) hr
  · show Q2 Z a1 h0 n0 _ T2.heap _
    rw [e2]
    exact ⟨rfl, N0, rfl⟩
theorem d1_0 : decode prog_25_method_1_code 0 = .ok (.aload_n 0, 1) := by decide +kernel
theorem d1_1 : decode prog_25_method_1_code 1 = .ok (.invokespecial 1, 3) := by decide +kernel
theorem d1_4 : decode prog_25_method_1_code 4 = .ok (.aload_n 0, 1) := by decide +kernel
theorem d1_5 : decode prog_25_method_1_code 5 = .ok (.lload_n 1, 1) := by decide +kernel
theorem d1_6 : decode prog_25_method_1_code 6 = .ok (.putfield 7, 3) := by decide +kernel
theorem d1_9 : decode prog_25_method_1_code 9 = .ok (.aload_n 0, 1) := by decide +kernel
theorem d1_10 : decode prog_25_method_1_code 10 = .ok (.lload_n 3, 1) := by decide +kernel
theorem d1_11 : decode prog_25_method_1_code 11 = .ok (.putfield 13, 3) := by decide +kernel
theorem d1_14 : decode prog_25_method_1_code 14 = .ok (.aload_n 0, 1) := by decide +kernel
theorem d1_15 : decode prog_25_method_1_code 15 = .ok (.lload 5, 2) := by decide +kernel
theorem d1_17 : decode prog_25_method_1_code 17 = .ok (.putfield 16, 3) := by decide +kernel
theorem d1_20 : decode prog_25_method_1_code 20 = .ok (.aload_n 0, 1) := by decide +kernel
theorem d1_21 : decode prog_25_method_1_code 21 = .ok (.lload 7, 2) := by decide +kernel
theorem d1_23 : decode prog_25_method_1_code 23 = .ok (.putfield 19, 3) := by decide +kernel
theorem d1_26 : decode prog_25_method_1_code 26 = .ok (.aload_n 0, 1) := by decide +kernel
theorem d1_27 : decode prog_25_method_1_code 27 = .ok (.lload 9, 2) := by decide +kernel
theorem d1_29 : decode prog_25_method_1_code 29 = .ok (.putfield 22, 3) := by decide +kernel
theorem d1_32 : decode prog_25_method_1_code 32 = .ok (.aload_n 0, 1) := by decide +kernel
theorem d1_33 : decode prog_25_method_1_code 33 = .ok (.lload 11, 2) := by decide +kernel
theorem d1_35 : decode prog_25_method_1_code 35 = .ok (.putfield 25, 3) := by decide +kernel
theorem d1_38 : decode prog_25_method_1_code 38 = .ok (.aload_n 0, 1) := by decide +kernel
theorem d1_39 : decode prog_25_method_1_code 39 = .ok (.lload 13, 2) := by decide +kernel
theorem d1_41 : decode prog_25_method_1_code 41 = .ok (.putfield 28, 3) := by decide +kernel
theorem d1_44 : decode prog_25_method_1_code 44 = .ok (.return_, 1) := by decide +kernel
theorem pn_1 : plainName "com/example/nestwood/nestwood/session/StatementCounter$Counts" = true := by first | (simp [plainName, overriddenIn]; done) | decide +kernel
theorem pd_1_1 : parseMethodDescriptor "()V" = some ⟨[], none⟩ := by decide +kernel
theorem ef_1 (m : MethodId) (x0 : Addr) (x1 : Int64) (x2 : Int64) (x3 : Int64) (x4 : Int64) (x5 : Int64) (x6 : Int64) (x7 : Int64) : entryFrame m #[(.ref x0), (.long x1), (.long x2), (.long x3), (.long x4), (.long x5), (.long x6), (.long x7)] 15 = mkF m 0 #[.val (.ref x0), .val (.long x1), .second, .val (.long x2), .second, .val (.long x3), .second, .val (.long x4), .second, .val (.long x5), .second, .val (.long x6), .second, .val (.long x7), .second] [] := by first | (simp [entryFrame, mkF, argsToLocals, Value.category]; done) | rfl
def Q1 (Z : State) (a1 : Addr) (q2 : Int64) (q3 : Int64) (q4 : Int64) (q5 : Int64) (q6 : Int64) (q7 : Int64) (q8 : Int64) (u_insert_a1 : Value) (u_update_a1 : Value) (u_delete_a1 : Value) (u_select_a1 : Value) (u_other_a1 : Value) (u_rowsFetched_a1 : Value) (u_rowsUpdated_a1 : Value) (h0 : Heap) (n0 : Nat) (v : Option Value) (h : Heap) (L : List Loc) : Prop := v = none ∧ Fr n0 L ∧ Keep h0 h [a1] ∧ own_Cn Z h a1 q2 q3 q4 q5 q6 q7 q8
set_option maxRecDepth 65536 in
set_option maxHeartbeats 40000000 in
theorem rm1 (l : Launch) (Z : State) (a0 : Array Value) (hw : ∀ d ∈ tables_1, d.before a0 Z = true) (ws : List Jvm.Cond) (a1 : Addr) (q2 : Int64) (q3 : Int64) (q4 : Int64) (q5 : Int64) (q6 : Int64) (q7 : Int64) (q8 : Int64) (u_insert_a1 : Value) (u_update_a1 : Value) (u_delete_a1 : Value) (u_select_a1 : Value) (u_other_a1 : Value) (u_rowsFetched_a1 : Value) (u_rowsUpdated_a1 : Value) (h0 : Heap) (n0 : Nat) (Z0 : n0 ≤ h0.size) (E_a1 : Exa Z h0 a1 "com/example/nestwood/nestwood/session/StatementCounter$Counts") (F_insert_a1 : Fld Z h0 a1 "com/example/nestwood/nestwood/session/StatementCounter$Counts" "insert" "J" u_insert_a1) (g_a1 : n0 ≤ a1) (F_update_a1 : Fld Z h0 a1 "com/example/nestwood/nestwood/session/StatementCounter$Counts" "update" "J" u_update_a1) (F_delete_a1 : Fld Z h0 a1 "com/example/nestwood/nestwood/session/StatementCounter$Counts" "delete" "J" u_delete_a1) (F_select_a1 : Fld Z h0 a1 "com/example/nestwood/nestwood/session/StatementCounter$Counts" "select" "J" u_select_a1) (F_other_a1 : Fld Z h0 a1 "com/example/nestwood/nestwood/session/StatementCounter$Counts" "other" "J" u_other_a1) (F_rowsFetched_a1 : Fld Z h0 a1 "com/example/nestwood/nestwood/session/StatementCounter$Counts" "rowsFetched" "J" u_rowsFetched_a1) (F_rowsUpdated_a1 : Fld Z h0 a1 "com/example/nestwood/nestwood/session/StatementCounter$Counts" "rowsUpdated" "J" u_rowsUpdated_a1) :
    MetFree l (⟨"com/example/nestwood/nestwood/session/StatementCounter$Counts", "<init>", "(JJJJJJJ)V"⟩ : MethodName) (head1 (Jvm.Cond.code (⟨"com/example/nestwood/nestwood/session/StatementCounter$Counts", "<init>", "(JJJJJJJ)V"⟩ : MethodName) prog_25_method_1_code 15 none :: ws) ({ frames := 2, cells := 0, slots := 0, locals := 24 } : Room)) (fun a U => a = #[(.ref a1), (.long q2), (.long q3), (.long q4), (.long q5), (.long q6), (.long q7), (.long q8)] ∧ Z.Warmed39 U.vm ∧ U.heap = h0) (fun _ _ _ _ _ => True) (fun _ U o U' => ∃ v L, o = .returned v ∧ Q1 Z a1 q2 q3 q4 q5 q6 q7 q8 u_insert_a1 u_update_a1 u_delete_a1 u_select_a1 u_other_a1 u_rowsFetched_a1 u_rowsUpdated_a1 h0 n0 v U'.heap L ∧ FrameEnd U o U' L ({ frames := 2, cells := 0, slots := 0, locals := 24 } : Room).cells ({ frames := 2, cells := 0, slots := 0, locals := 24 } : Room).slots) := by
  refine MetFree.of_bodySF (plainFor_of_name pn_1) hisR ?_
  intro p e s m args below meth c s₁ Bd hml0 hP hK
  obtain ⟨rfl, hZ, hh⟩ := hP
  have hx := Bd.exec
  have hby := Bd.bytes
  have hml : c.maxLocals = 15 := hml0
  have hown : s.vm.findClass "com/example/nestwood/nestwood/session/StatementCounter$Counts" = some m.cls := findClass_of_methodNamed Bd.named
  have hnm := (name_of_methodNamed Bd.named Bd.method).1
  have X0 : Stand p l e ({ frames := 2, cells := 0, slots := 0, locals := 24 } : Room) s m #[(.ref a1), (.long q2), (.long q3), (.long q4), (.long q5), (.long q6), (.long q7), (.long q8)] below meth c s₁ [] 0 0 := Stand.of_body Bd
  have e0 : s₁.heap = h0 := by rw [← hh, Bd.state]; rfl
  have N0 := Fr.nil n0
  have pre0 : ∀ t, Steps p.tables e below (s₁.setTop (mkF m 0 #[.val (.ref a1), .val (.long q2), .second, .val (.long q3), .second, .val (.long q4), .second, .val (.long q5), .second, .val (.long q6), .second, .val (.long q7), .second, .val (.long q8), .second] [])) t → Steps p.tables e below (s₁.setTop (entryFrame m #[(.ref a1), (.long q2), (.long q3), (.long q4), (.long q5), (.long q6), (.long q7), (.long q8)] 15)) t := fun t k => castTop (ef_1 m a1 q2 q3 q4 q5 q6 q7 q8) k
  obtain ⟨_, _, ⟨T9, L9, k9, n9⟩, -, X9, ⟨Lc9, hQ9, l9, y9, z9⟩, st9⟩ := X0.specialBack hx (y := (⟨"java/lang/Record", "<init>", "()V"⟩ : MethodName)) rfl hown (mvT hZ (hw _ (List.mem_of_getElem? (i := 6) rfl))) (mvT hZ (hw _ (List.mem_of_getElem? (i := 7) rfl))) (mvT hZ (hw _ (List.mem_of_getElem? (i := 10) rfl))) (by decide) (backOf (W := 0) (rm2 l Z a0 hw [] a1 h0 n0 Z0) hZ (hw _ (List.mem_of_getElem? (i := 10) rfl)) (hw _ (List.mem_of_getElem? (i := 9) rfl)) (by decide) (by decide)) (g := (mkF m 1 #[.val (.ref a1), .val (.long q2), .second, .val (.long q3), .second, .val (.long q4), .second, .val (.long q5), .second, .val (.long q6), .second, .val (.long q7), .second, .val (.long q8), .second] [(.ref a1)])) rfl (by rw [hml]; rfl) (Steps.refl _) (a := a1) (argsL := []) (rest := []) (lenOf pd_1_1 rfl) rfl (by show 2 * 0 + _ ≤ _; exact Nat.le_of_eq rfl) (hb hby d1_1) (fun _ _ => ⟨rfl, e0, (by decide : 0 + 0 ≤ _), (by decide : 0 + 0 ≤ _)⟩)
  dsimp only [Pt.U, Pt.locs, Pt.cells, Pt.slots] at X9 l9 y9 z9 st9 hQ9
  subst l9 y9 z9
  obtain ⟨rfl, N9q, hs9⟩ := hQ9
  have N9 := Fr.app N0 N9q
  have Kc9 : Keep h0 T9.heap [] := by rw [hs9]; exact Keep.refl _ _
  have Kd9 : Keep h0 T9.heap [a1] := by rw [hs9]; exact Keep.refl _ _
  obtain ⟨T10, h10, X10, e10, W10, st10⟩ := putF X9 hx hZ hown (host := "") (Or.inl (hw _ (List.mem_of_getElem? (i := 14) rfl))) Via.refl rfl (F_insert_a1.keep Kc9 List.not_mem_nil) (E_a1.keep Kc9) (Or.inr ⟨(hw _ (List.mem_of_getElem? (i := 15) rfl)), rfl, hnm⟩) (hw _ (List.mem_of_getElem? (i := 1) rfl)) (ty := .long) (by decide) rfl rfl (g := (mkF m 6 #[.val (.ref a1), .val (.long q2), .second, .val (.long q3), .second, .val (.long q4), .second, .val (.long q5), .second, .val (.long q6), .second, .val (.long q7), .second, .val (.long q8), .second] [(.long q2), (.ref a1)])) rfl rfl (hb hby d1_6)
  have Fw10 := (F_insert_a1.keep Kc9 List.not_mem_nil).same W10
  have K10 : Keep h0 h10 [a1] := Kd9.wr W10 (Or.inl (List.mem_of_getElem? (i := 0) rfl))
  have N10 := Fr.snoc X10 N9 g_a1
  obtain ⟨T11, h11, X11, e11, W11, st11⟩ := putF X10 hx hZ hown (host := "") (Or.inl (hw _ (List.mem_of_getElem? (i := 16) rfl))) Via.refl e10 ((F_update_a1.keep Kc9 List.not_mem_nil).other W10 (Or.inr (slot_ne (Or.inr (hw _ (List.mem_of_getElem? (i := 17) rfl))) (Or.inr (hw _ (List.mem_of_getElem? (i := 15) rfl))) (by decide) (t := .long) (t' := .long) (by decide) (by decide)))) ((E_a1.keep Kc9).wr W10) (Or.inr ⟨(hw _ (List.mem_of_getElem? (i := 17) rfl)), rfl, hnm⟩) (hw _ (List.mem_of_getElem? (i := 1) rfl)) (ty := .long) (by decide) rfl rfl (g := (mkF m 11 #[.val (.ref a1), .val (.long q2), .second, .val (.long q3), .second, .val (.long q4), .second, .val (.long q5), .second, .val (.long q6), .second, .val (.long q7), .second, .val (.long q8), .second] [(.long q3), (.ref a1)])) rfl rfl (hb hby d1_11)
  have Fw11 := ((F_update_a1.keep Kc9 List.not_mem_nil).other W10 (Or.inr (slot_ne (Or.inr (hw _ (List.mem_of_getElem? (i := 17) rfl))) (Or.inr (hw _ (List.mem_of_getElem? (i := 15) rfl))) (by decide) (t := .long) (t' := .long) (by decide) (by decide)))).same W11
  have K11 : Keep h0 h11 [a1] := K10.wr W11 (Or.inl (List.mem_of_getElem? (i := 0) rfl))
  have N11 := Fr.snoc X11 N10 g_a1
  obtain ⟨T12, h12, X12, e12, W12, st12⟩ := putF X11 hx hZ hown (host := "") (Or.inl (hw _ (List.mem_of_getElem? (i := 18) rfl))) Via.refl e11 (((F_delete_a1.keep Kc9 List.not_mem_nil).other W10 (Or.inr (slot_ne (Or.inr (hw _ (List.mem_of_getElem? (i := 19) rfl))) (Or.inr (hw _ (List.mem_of_getElem? (i := 15) rfl))) (by decide) (t := .long) (t' := .long) (by decide) (by decide)))).other W11 (Or.inr (slot_ne (Or.inr (hw _ (List.mem_of_getElem? (i := 19) rfl))) (Or.inr (hw _ (List.mem_of_getElem? (i := 17) rfl))) (by decide) (t := .long) (t' := .long) (by decide) (by decide)))) (((E_a1.keep Kc9).wr W10).wr W11) (Or.inr ⟨(hw _ (List.mem_of_getElem? (i := 19) rfl)), rfl, hnm⟩) (hw _ (List.mem_of_getElem? (i := 1) rfl)) (ty := .long) (by decide) rfl rfl (g := (mkF m 17 #[.val (.ref a1), .val (.long q2), .second, .val (.long q3), .second, .val (.long q4), .second, .val (.long q5), .second, .val (.long q6), .second, .val (.long q7), .second, .val (.long q8), .second] [(.long q4), (.ref a1)])) rfl rfl (hb hby d1_17)
  have Fw12 := (((F_delete_a1.keep Kc9 List.not_mem_nil).other W10 (Or.inr (slot_ne (Or.inr (hw _ (List.mem_of_getElem? (i := 19) rfl))) (Or.inr (hw _ (List.mem_of_getElem? (i := 15) rfl))) (by decide) (t := .long) (t' := .long) (by decide) (by decide)))).other W11 (Or.inr (slot_ne (Or.inr (hw _ (List.mem_of_getElem? (i := 19) rfl))) (Or.inr (hw _ (List.mem_of_getElem? (i := 17) rfl))) (by decide) (t := .long) (t' := .long) (by decide) (by decide)))).same W12
  have K12 : Keep h0 h12 [a1] := K11.wr W12 (Or.inl (List.mem_of_getElem? (i := 0) rfl))
  have N12 := Fr.snoc X12 N11 g_a1
  obtain ⟨T13, h13, X13, e13, W13, st13⟩ := putF X12 hx hZ hown (host := "") (Or.inl (hw _ (List.mem_of_getElem? (i := 20) rfl))) Via.refl e12 ((((F_select_a1.keep Kc9 List.not_mem_nil).other W10 (Or.inr (slot_ne (Or.inr (hw _ (List.mem_of_getElem? (i := 21) rfl))) (Or.inr (hw _ (List.mem_of_getElem? (i := 15) rfl))) (by decide) (t := .long) (t' := .long) (by decide) (by decide)))).other W11 (Or.inr (slot_ne (Or.inr (hw _ (List.mem_of_getElem? (i := 21) rfl))) (Or.inr (hw _ (List.mem_of_getElem? (i := 17) rfl))) (by decide) (t := .long) (t' := .long) (by decide) (by decide)))).other W12 (Or.inr (slot_ne (Or.inr (hw _ (List.mem_of_getElem? (i := 21) rfl))) (Or.inr (hw _ (List.mem_of_getElem? (i := 19) rfl))) (by decide) (t := .long) (t' := .long) (by decide) (by decide)))) ((((E_a1.keep Kc9).wr W10).wr W11).wr W12) (Or.inr ⟨(hw _ (List.mem_of_getElem? (i := 21) rfl)), rfl, hnm⟩) (hw _ (List.mem_of_getElem? (i := 1) rfl)) (ty := .long) (by decide) rfl rfl (g := (mkF m 23 #[.val (.ref a1), .val (.long q2), .second, .val (.long q3), .second, .val (.long q4), .second, .val (.long q5), .second, .val (.long q6), .second, .val (.long q7), .second, .val (.long q8), .second] [(.long q5), (.ref a1)])) rfl rfl (hb hby d1_23)
  have Fw13 := ((((F_select_a1.keep Kc9 List.not_mem_nil).other W10 (Or.inr (slot_ne (Or.inr (hw _ (List.mem_of_getElem? (i := 21) rfl))) (Or.inr (hw _ (List.mem_of_getElem? (i := 15) rfl))) (by decide) (t := .long) (t' := .long) (by decide) (by decide)))).other W11 (Or.inr (slot_ne (Or.inr (hw _ (List.mem_of_getElem? (i := 21) rfl))) (Or.inr (hw _ (List.mem_of_getElem? (i := 17) rfl))) (by decide) (t := .long) (t' := .long) (by decide) (by decide)))).other W12 (Or.inr (slot_ne (Or.inr (hw _ (List.mem_of_getElem? (i := 21) rfl))) (Or.inr (hw _ (List.mem_of_getElem? (i := 19) rfl))) (by decide) (t := .long) (t' := .long) (by decide) (by decide)))).same W13
  have K13 : Keep h0 h13 [a1] := K12.wr W13 (Or.inl (List.mem_of_getElem? (i := 0) rfl))
  have N13 := Fr.snoc X13 N12 g_a1
  obtain ⟨T14, h14, X14, e14, W14, st14⟩ := putF X13 hx hZ hown (host := "") (Or.inl (hw _ (List.mem_of_getElem? (i := 22) rfl))) Via.refl e13 (((((F_other_a1.keep Kc9 List.not_mem_nil).other W10 (Or.inr (slot_ne (Or.inr (hw _ (List.mem_of_getElem? (i := 23) rfl))) (Or.inr (hw _ (List.mem_of_getElem? (i := 15) rfl))) (by decide) (t := .long) (t' := .long) (by decide) (by decide)))).other W11 (Or.inr (slot_ne (Or.inr (hw _ (List.mem_of_getElem? (i := 23) rfl))) (Or.inr (hw _ (List.mem_of_getElem? (i := 17) rfl))) (by decide) (t := .long) (t' := .long) (by decide) (by decide)))).other W12 (Or.inr (slot_ne (Or.inr (hw _ (List.mem_of_getElem? (i := 23) rfl))) (Or.inr (hw _ (List.mem_of_getElem? (i := 19) rfl))) (by decide) (t := .long) (t' := .long) (by decide) (by decide)))).other W13 (Or.inr (slot_ne (Or.inr (hw _ (List.mem_of_getElem? (i := 23) rfl))) (Or.inr (hw _ (List.mem_of_getElem? (i := 21) rfl))) (by decide) (t := .long) (t' := .long) (by decide) (by decide)))) (((((E_a1.keep Kc9).wr W10).wr W11).wr W12).wr W13) (Or.inr ⟨(hw _ (List.mem_of_getElem? (i := 23) rfl)), rfl, hnm⟩) (hw _ (List.mem_of_getElem? (i := 1) rfl)) (ty := .long) (by decide) rfl rfl (g := (mkF m 29 #[.val (.ref a1), .val (.long q2), .second, .val (.long q3), .second, .val (.long q4), .second, .val (.long q5), .second, .val (.long q6), .second, .val (.long q7), .second, .val (.long q8), .second] [(.long q6), (.ref a1)])) rfl rfl (hb hby d1_29)
  have Fw14 := (((((F_other_a1.keep Kc9 List.not_mem_nil).other W10 (Or.inr (slot_ne (Or.inr (hw _ (List.mem_of_getElem? (i := 23) rfl))) (Or.inr (hw _ (List.mem_of_getElem? (i := 15) rfl))) (by decide) (t := .long) (t' := .long) (by decide) (by decide)))).other W11 (Or.inr (slot_ne (Or.inr (hw _ (List.mem_of_getElem? (i := 23) rfl))) (Or.inr (hw _ (List.mem_of_getElem? (i := 17) rfl))) (by decide) (t := .long) (t' := .long) (by decide) (by decide)))).other W12 (Or.inr (slot_ne (Or.inr (hw _ (List.mem_of_getElem? (i := 23) rfl))) (Or.inr (hw _ (List.mem_of_getElem? (i := 19) rfl))) (by decide) (t := .long) (t' := .long) (by decide) (by decide)))).other W13 (Or.inr (slot_ne (Or.inr (hw _ (List.mem_of_getElem? (i := 23) rfl))) (Or.inr (hw _ (List.mem_of_getElem? (i := 21) rfl))) (by decide) (t := .long) (t' := .long) (by decide) (by decide)))).same W14
  have K14 : Keep h0 h14 [a1] := K13.wr W14 (Or.inl (List.mem_of_getElem? (i := 0) rfl))
  have N14 := Fr.snoc X14 N13 g_a1
  obtain ⟨T15, h15, X15, e15, W15, st15⟩ := putF X14 hx hZ hown (host := "") (Or.inl (hw _ (List.mem_of_getElem? (i := 24) rfl))) Via.refl e14 ((((((F_rowsFetched_a1.keep Kc9 List.not_mem_nil).other W10 (Or.inr (slot_ne (Or.inr (hw _ (List.mem_of_getElem? (i := 25) rfl))) (Or.inr (hw _ (List.mem_of_getElem? (i := 15) rfl))) (by decide) (t := .long) (t' := .long) (by decide) (by decide)))).other W11 (Or.inr (slot_ne (Or.inr (hw _ (List.mem_of_getElem? (i := 25) rfl))) (Or.inr (hw _ (List.mem_of_getElem? (i := 17) rfl))) (by decide) (t := .long) (t' := .long) (by decide) (by decide)))).other W12 (Or.inr (slot_ne (Or.inr (hw _ (List.mem_of_getElem? (i := 25) rfl))) (Or.inr (hw _ (List.mem_of_getElem? (i := 19) rfl))) (by decide) (t := .long) (t' := .long) (by decide) (by decide)))).other W13 (Or.inr (slot_ne (Or.inr (hw _ (List.mem_of_getElem? (i := 25) rfl))) (Or.inr (hw _ (List.mem_of_getElem? (i := 21) rfl))) (by decide) (t := .long) (t' := .long) (by decide) (by decide)))).other W14 (Or.inr (slot_ne (Or.inr (hw _ (List.mem_of_getElem? (i := 25) rfl))) (Or.inr (hw _ (List.mem_of_getElem? (i := 23) rfl))) (by decide) (t := .long) (t' := .long) (by decide) (by decide)))) ((((((E_a1.keep Kc9).wr W10).wr W11).wr W12).wr W13).wr W14) (Or.inr ⟨(hw _ (List.mem_of_getElem? (i := 25) rfl)), rfl, hnm⟩) (hw _ (List.mem_of_getElem? (i := 1) rfl)) (ty := .long) (by decide) rfl rfl (g := (mkF m 35 #[.val (.ref a1), .val (.long q2), .second, .val (.long q3), .second, .val (.long q4), .second, .val (.long q5), .second, .val (.long q6), .second, .val (.long q7), .second, .val (.long q8), .second] [(.long q7), (.ref a1)])) rfl rfl (hb hby d1_35)
  have Fw15 := ((((((F_rowsFetched_a1.keep Kc9 List.not_mem_nil).other W10 (Or.inr (slot_ne (Or.inr (hw _ (List.mem_of_getElem? (i := 25) rfl))) (Or.inr (hw _ (List.mem_of_getElem? (i := 15) rfl))) (by decide) (t := .long) (t' := .long) (by decide) (by decide)))).other W11 (Or.inr (slot_ne (Or.inr (hw _ (List.mem_of_getElem? (i := 25) rfl))) (Or.inr (hw _ (List.mem_of_getElem? (i := 17) rfl))) (by decide) (t := .long) (t' := .long) (by decide) (by decide)))).other W12 (Or.inr (slot_ne (Or.inr (hw _ (List.mem_of_getElem? (i := 25) rfl))) (Or.inr (hw _ (List.mem_of_getElem? (i := 19) rfl))) (by decide) (t := .long) (t' := .long) (by decide) (by decide)))).other W13 (Or.inr (slot_ne (Or.inr (hw _ (List.mem_of_getElem? (i := 25) rfl))) (Or.inr (hw _ (List.mem_of_getElem? (i := 21) rfl))) (by decide) (t := .long) (t' := .long) (by decide) (by decide)))).other W14 (Or.inr (slot_ne (Or.inr (hw _ (List.mem_of_getElem? (i := 25) rfl))) (Or.inr (hw _ (List.mem_of_getElem? (i := 23) rfl))) (by decide) (t := .long) (t' := .long) (by decide) (by decide)))).same W15
  have K15 : Keep h0 h15 [a1] := K14.wr W15 (Or.inl (List.mem_of_getElem? (i := 0) rfl))
  have N15 := Fr.snoc X15 N14 g_a1
  obtain ⟨T16, h16, X16, e16, W16, st16⟩ := putF X15 hx hZ hown (host := "") (Or.inl (hw _ (List.mem_of_getElem? (i := 26) rfl))) Via.refl e15 (((((((F_rowsUpdated_a1.keep Kc9 List.not_mem_nil).other W10 (Or.inr (slot_ne (Or.inr (hw _ (List.mem_of_getElem? (i := 27) rfl))) (Or.inr (hw _ (List.mem_of_getElem? (i := 15) rfl))) (by decide) (t := .long) (t' := .long) (by decide) (by decide)))).other W11 (Or.inr (slot_ne (Or.inr (hw _ (List.mem_of_getElem? (i := 27) rfl))) (Or.inr (hw _ (List.mem_of_getElem? (i := 17) rfl))) (by decide) (t := .long) (t' := .long) (by decide) (by decide)))).other W12 (Or.inr (slot_ne (Or.inr (hw _ (List.mem_of_getElem? (i := 27) rfl))) (Or.inr (hw _ (List.mem_of_getElem? (i := 19) rfl))) (by decide) (t := .long) (t' := .long) (by decide) (by decide)))).other W13 (Or.inr (slot_ne (Or.inr (hw _ (List.mem_of_getElem? (i := 27) rfl))) (Or.inr (hw _ (List.mem_of_getElem? (i := 21) rfl))) (by decide) (t := .long) (t' := .long) (by decide) (by decide)))).other W14 (Or.inr (slot_ne (Or.inr (hw _ (List.mem_of_getElem? (i := 27) rfl))) (Or.inr (hw _ (List.mem_of_getElem? (i := 23) rfl))) (by decide) (t := .long) (t' := .long) (by decide) (by decide)))).other W15 (Or.inr (slot_ne (Or.inr (hw _ (List.mem_of_getElem? (i := 27) rfl))) (Or.inr (hw _ (List.mem_of_getElem? (i := 25) rfl))) (by decide) (t := .long) (t' := .long) (by decide) (by decide)))) (((((((E_a1.keep Kc9).wr W10).wr W11).wr W12).wr W13).wr W14).wr W15) (Or.inr ⟨(hw _ (List.mem_of_getElem? (i := 27) rfl)), rfl, hnm⟩) (hw _ (List.mem_of_getElem? (i := 1) rfl)) (ty := .long) (by decide) rfl rfl (g := (mkF m 41 #[.val (.ref a1), .val (.long q2), .second, .val (.long q3), .second, .val (.long q4), .second, .val (.long q5), .second, .val (.long q6), .second, .val (.long q7), .second, .val (.long q8), .second] [(.long q8), (.ref a1)])) rfl rfl (hb hby d1_41)
  have Fw16 := (((((((F_rowsUpdated_a1.keep Kc9 List.not_mem_nil).other W10 (Or.inr (slot_ne (Or.inr (hw _ (List.mem_of_getElem? (i := 27) rfl))) (Or.inr (hw _ (List.mem_of_getElem? (i := 15) rfl))) (by decide) (t := .long) (t' := .long) (by decide) (by decide)))).other W11 (Or.inr (slot_ne (Or.inr (hw _ (List.mem_of_getElem? (i := 27) rfl))) (Or.inr (hw _ (List.mem_of_getElem? (i := 17) rfl))) (by decide) (t := .long) (t' := .long) (by decide) (by decide)))).other W12 (Or.inr (slot_ne (Or.inr (hw _ (List.mem_of_getElem? (i := 27) rfl))) (Or.inr (hw _ (List.mem_of_getElem? (i := 19) rfl))) (by decide) (t := .long) (t' := .long) (by decide) (by decide)))).other W13 (Or.inr (slot_ne (Or.inr (hw _ (List.mem_of_getElem? (i := 27) rfl))) (Or.inr (hw _ (List.mem_of_getElem? (i := 21) rfl))) (by decide) (t := .long) (t' := .long) (by decide) (by decide)))).other W14 (Or.inr (slot_ne (Or.inr (hw _ (List.mem_of_getElem? (i := 27) rfl))) (Or.inr (hw _ (List.mem_of_getElem? (i := 23) rfl))) (by decide) (t := .long) (t' := .long) (by decide) (by decide)))).other W15 (Or.inr (slot_ne (Or.inr (hw _ (List.mem_of_getElem? (i := 27) rfl))) (Or.inr (hw _ (List.mem_of_getElem? (i := 25) rfl))) (by decide) (t := .long) (t' := .long) (by decide) (by decide)))).same W16
  have K16 : Keep h0 h16 [a1] := K15.wr W16 (Or.inl (List.mem_of_getElem? (i := 0) rfl))
  have N16 := Fr.snoc X16 N15 g_a1
  obtain ⟨fs, hr, hrun, hended, hW, hsame⟩ := X16.leave (v := none) (fun _ => rfl)
  refine ⟨_, _, pre0 _ ?_, hrun, hended, _, _, rfl, ?_, ⟨_, rfl⟩, hW, hsame.mono (by decide) (by decide)⟩
  · show Steps p.tables e below (s₁.setTop (mkF m 0 #[.val (.ref a1), .val (.long q2), .second, .val (.long q3), .second, .val (.long q4), .second, .val (.long q5), .second, .val (.long q6), .second, .val (.long q7), .second, .val (.long q8), .second] [])) _
    refine XS.aloadN X0.here hx rfl (hb hby d1_0) rfl rfl ?_
    show Steps p.tables e below (s₁.setTop (mkF m 1 #[.val (.ref a1), .val (.long q2), .second, .val (.long q3), .second, .val (.long q4), .second, .val (.long q5), .second, .val (.long q6), .second, .val (.long q7), .second, .val (.long q8), .second] [(.ref a1)])) _
    refine st9.trans ?_
    show Steps p.tables e below (T9.setTop (mkF m 4 #[.val (.ref a1), .val (.long q2), .second, .val (.long q3), .second, .val (.long q4), .second, .val (.long q5), .second, .val (.long q6), .second, .val (.long q7), .second, .val (.long q8), .second] [])) _
    refine XS.aloadN X9.here hx rfl (hb hby d1_4) rfl rfl ?_
    show Steps p.tables e below (T9.setTop (mkF m 5 #[.val (.ref a1), .val (.long q2), .second, .val (.long q3), .second, .val (.long q4), .second, .val (.long q5), .second, .val (.long q6), .second, .val (.long q7), .second, .val (.long q8), .second] [(.ref a1)])) _
    refine XS.lloadN X9.here hx rfl (hb hby d1_5) rfl ?_
    show Steps p.tables e below (T9.setTop (mkF m 6 #[.val (.ref a1), .val (.long q2), .second, .val (.long q3), .second, .val (.long q4), .second, .val (.long q5), .second, .val (.long q6), .second, .val (.long q7), .second, .val (.long q8), .second] [(.long q2), (.ref a1)])) _
    refine st10 _ ?_
    show Steps p.tables e below (T10.setTop (mkF m 9 #[.val (.ref a1), .val (.long q2), .second, .val (.long q3), .second, .val (.long q4), .second, .val (.long q5), .second, .val (.long q6), .second, .val (.long q7), .second, .val (.long q8), .second] [])) _
    refine XS.aloadN X10.here hx rfl (hb hby d1_9) rfl rfl ?_
    show Steps p.tables e below (T10.setTop (mkF m 10 #[.val (.ref a1), .val (.long q2), .second, .val (.long q3), .second, .val (.long q4), .second, .val (.long q5), .second, .val (.long q6), .second, .val (.long q7), .second, .val (.long q8), .second] [(.ref a1)])) _
    refine XS.lloadN X10.here hx rfl (hb hby d1_10) rfl ?_
    show Steps p.tables e below (T10.setTop (mkF m 11 #[.val (.ref a1), .val (.long q2), .second, .val (.long q3), .second, .val (.long q4), .second, .val (.long q5), .second, .val (.long q6), .second, .val (.long q7), .second, .val (.long q8), .second] [(.long q3), (.ref a1)])) _
    refine st11 _ ?_
    show Steps p.tables e below (T11.setTop (mkF m 14 #[.val (.ref a1), .val (.long q2), .second, .val (.long q3), .second, .val (.long q4), .second, .val (.long q5), .second, .val (.long q6), .second, .val (.long q7), .second, .val (.long q8), .second] [])) _
    refine XS.aloadN X11.here hx rfl (hb hby d1_14) rfl rfl ?_
    show Steps p.tables e below (T11.setTop (mkF m 15 #[.val (.ref a1), .val (.long q2), .second, .val (.long q3), .second, .val (.long q4), .second, .val (.long q5), .second, .val (.long q6), .second, .val (.long q7), .second, .val (.long q8), .second] [(.ref a1)])) _
    refine XS.lload X11.here hx rfl (hb hby d1_15) rfl ?_
    show Steps p.tables e below (T11.setTop (mkF m 17 #[.val (.ref a1), .val (.long q2), .second, .val (.long q3), .second, .val (.long q4), .second, .val (.long q5), .second, .val (.long q6), .second, .val (.long q7), .second, .val (.long q8), .second] [(.long q4), (.ref a1)])) _
    refine st12 _ ?_
    show Steps p.tables e below (T12.setTop (mkF m 20 #[.val (.ref a1), .val (.long q2), .second, .val (.long q3), .second, .val (.long q4), .second, .val (.long q5), .second, .val (.long q6), .second, .val (.long q7), .second, .val (.long q8), .second] [])) _
    refine XS.aloadN X12.here hx rfl (hb hby d1_20) rfl rfl ?_
    show Steps p.tables e below (T12.setTop (mkF m 21 #[.val (.ref a1), .val (.long q2), .second, .val (.long q3), .second, .val (.long q4), .second, .val (.long q5), .second, .val (.long q6), .second, .val (.long q7), .second, .val (.long q8), .second] [(.ref a1)])) _
    refine XS.lload X12.here hx rfl (hb hby d1_21) rfl ?_
    show Steps p.tables e below (T12.setTop (mkF m 23 #[.val (.ref a1), .val (.long q2), .second, .val (.long q3), .second, .val (.long q4), .second, .val (.long q5), .second, .val (.long q6), .second, .val (.long q7), .second, .val (.long q8), .second] [(.long q5), (.ref a1)])) _
    refine st13 _ ?_
    show Steps p.tables e below (T13.setTop (mkF m 26 #[.val (.ref a1), .val (.long q2), .second, .val (.long q3), .second, .val (.long q4), .second, .val (.long q5), .second, .val (.long q6), .second, .val (.long q7), .second, .val (.long q8), .second] [])) _
    refine XS.aloadN X13.here hx rfl (hb hby d1_26) rfl rfl ?_
    show Steps p.tables e below (T13.setTop (mkF m 27 #[.val (.ref a1), .val (.long q2), .second, .val (.long q3), .second, .val (.long q4), .second, .val (.long q5), .second, .val (.long q6), .second, .val (.long q7), .second, .val (.long q8), .second] [(.ref a1)])) _
    refine XS.lload X13.here hx rfl (hb hby d1_27) rfl ?_
    show Steps p.tables e below (T13.setTop (mkF m 29 #[.val (.ref a1), .val (.long q2), .second, .val (.long q3), .second, .val (.long q4), .second, .val (.long q5), .second, .val (.long q6), .second, .val (.long q7), .second, .val (.long q8), .second] [(.long q6), (.ref a1)])) _
    refine st14 _ ?_
    show Steps p.tables e below (T14.setTop (mkF m 32 #[.val (.ref a1), .val (.long q2), .second, .val (.long q3), .second, .val (.long q4), .second, .val (.long q5), .second, .val (.long q6), .second, .val (.long q7), .second, .val (.long q8), .second] [])) _
    refine XS.aloadN X14.here hx rfl (hb hby d1_32) rfl rfl ?_
    show Steps p.tables e below (T14.setTop (mkF m 33 #[.val (.ref a1), .val (.long q2), .second, .val (.long q3), .second, .val (.long q4), .second, .val (.long q5), .second, .val (.long q6), .second, .val (.long q7), .second, .val (.long q8), .second] [(.ref a1)])) _
    refine XS.lload X14.here hx rfl (hb hby d1_33) rfl ?_
    show Steps p.tables e below (T14.setTop (mkF m 35 #[.val (.ref a1), .val (.long q2), .second, .val (.long q3), .second, .val (.long q4), .second, .val (.long q5), .second, .val (.long q6), .second, .val (.long q7), .second, .val (.long q8), .second] [(.long q7), (.ref a1)])) _
    refine st15 _ ?_
    show Steps p.tables e below (T15.setTop (mkF m 38 #[.val (.ref a1), .val (.long q2), .second, .val (.long q3), .second, .val (.long q4), .second, .val (.long q5), .second, .val (.long q6), .second, .val (.long q7), .second, .val (.long q8), .second] [])) _
    refine XS.aloadN X15.here hx rfl (hb hby d1_38) rfl rfl ?_
    show Steps p.tables e below (T15.setTop (mkF m 39 #[.val (.ref a1), .val (.long q2), .second, .val (.long q3), .second, .val (.long q4), .second, .val (.long q5), .second, .val (.long q6), .second, .val (.long q7), .second, .val (.long q8), .second] [(.ref a1)])) _
    refine XS.lload X15.here hx rfl (hb hby d1_39) rfl ?_
    show Steps p.tables e below (T15.setTop (mkF m 41 #[.val (.ref a1), .val (.long q2), .second, .val (.long q3), .second, .val (.long q4), .second, .val (.long q5), .second, .val (.long q6), .second, .val (.long q7), .second, .val (.long q8), .second] [(.long q8), (.ref a1)])) _
    refine st16 _ ?_
    show Steps p.tables e below (T16.setTop (mkF m 44 #[.val (.ref a1), .val (.long q2), .second, .val (.long q3), .second, .val (.long q4), .second, .val (.long q5), .second, .val (.long q6), .second, .val (.long q7), .second, .val (.long q8), .second] [])) _
    exact X16.returnOut hx Bd.returns (hb hby d1_44) hr
  · show Q1 Z a1 q2 q3 q4 q5 q6 q7 q8 u_insert_a1 u_update_a1 u_delete_a1 u_select_a1 u_other_a1 u_rowsFetched_a1 u_rowsUpdated_a1 h0 n0 _ T16.heap _
    rw [e16]
    exact ⟨rfl, N16, K16, ((((((((E_a1.keep Kc9).wr W10).wr W11).wr W12).wr W13).wr W14).wr W15).wr W16), ((((((Fw10.other W11 (Or.inr (slot_ne (Or.inr (hw _ (List.mem_of_getElem? (i := 15) rfl))) (Or.inr (hw _ (List.mem_of_getElem? (i := 17) rfl))) (by decide) (t := .long) (t' := .long) (by decide) (by decide)))).other W12 (Or.inr (slot_ne (Or.inr (hw _ (List.mem_of_getElem? (i := 15) rfl))) (Or.inr (hw _ (List.mem_of_getElem? (i := 19) rfl))) (by decide) (t := .long) (t' := .long) (by decide) (by decide)))).other W13 (Or.inr (slot_ne (Or.inr (hw _ (List.mem_of_getElem? (i := 15) rfl))) (Or.inr (hw _ (List.mem_of_getElem? (i := 21) rfl))) (by decide) (t := .long) (t' := .long) (by decide) (by decide)))).other W14 (Or.inr (slot_ne (Or.inr (hw _ (List.mem_of_getElem? (i := 15) rfl))) (Or.inr (hw _ (List.mem_of_getElem? (i := 23) rfl))) (by decide) (t := .long) (t' := .long) (by decide) (by decide)))).other W15 (Or.inr (slot_ne (Or.inr (hw _ (List.mem_of_getElem? (i := 15) rfl))) (Or.inr (hw _ (List.mem_of_getElem? (i := 25) rfl))) (by decide) (t := .long) (t' := .long) (by decide) (by decide)))).other W16 (Or.inr (slot_ne (Or.inr (hw _ (List.mem_of_getElem? (i := 15) rfl))) (Or.inr (hw _ (List.mem_of_getElem? (i := 27) rfl))) (by decide) (t := .long) (t' := .long) (by decide) (by decide)))), (((((Fw11.other W12 (Or.inr (slot_ne (Or.inr (hw _ (List.mem_of_getElem? (i := 17) rfl))) (Or.inr (hw _ (List.mem_of_getElem? (i := 19) rfl))) (by decide) (t := .long) (t' := .long) (by decide) (by decide)))).other W13 (Or.inr (slot_ne (Or.inr (hw _ (List.mem_of_getElem? (i := 17) rfl))) (Or.inr (hw _ (List.mem_of_getElem? (i := 21) rfl))) (by decide) (t := .long) (t' := .long) (by decide) (by decide)))).other W14 (Or.inr (slot_ne (Or.inr (hw _ (List.mem_of_getElem? (i := 17) rfl))) (Or.inr (hw _ (List.mem_of_getElem? (i := 23) rfl))) (by decide) (t := .long) (t' := .long) (by decide) (by decide)))).other W15 (Or.inr (slot_ne (Or.inr (hw _ (List.mem_of_getElem? (i := 17) rfl))) (Or.inr (hw _ (List.mem_of_getElem? (i := 25) rfl))) (by decide) (t := .long) (t' := .long) (by decide) (by decide)))).other W16 (Or.inr (slot_ne (Or.inr (hw _ (List.mem_of_getElem? (i := 17) rfl))) (Or.inr (hw _ (List.mem_of_getElem? (i := 27) rfl))) (by decide) (t := .long) (t' := .long) (by decide) (by decide)))), ((((Fw12.other W13 (Or.inr (slot_ne (Or.inr (hw _ (List.mem_of_getElem? (i := 19) rfl))) (Or.inr (hw _ (List.mem_of_getElem? (i := 21) rfl))) (by decide) (t := .long) (t' := .long) (by decide) (by decide)))).other W14 (Or.inr (slot_ne (Or.inr (hw _ (List.mem_of_getElem? (i := 19) rfl))) (Or.inr (hw _ (List.mem_of_getElem? (i := 23) rfl))) (by decide) (t := .long) (t' := .long) (by decide) (by decide)))).other W15 (Or.inr (slot_ne (Or.inr (hw _ (List.mem_of_getElem? (i := 19) rfl))) (Or.inr (hw _ (List.mem_of_getElem? (i := 25) rfl))) (by decide) (t := .long) (t' := .long) (by decide) (by decide)))).other W16 (Or.inr (slot_ne (Or.inr (hw _ (List.mem_of_getElem? (i := 19) rfl))) (Or.inr (hw _ (List.mem_of_getElem? (i := 27) rfl))) (by decide) (t := .long) (t' := .long) (by decide) (by decide)))), (((Fw13.other W14 (Or.inr (slot_ne (Or.inr (hw _ (List.mem_of_getElem? (i := 21) rfl))) (Or.inr (hw _ (List.mem_of_getElem? (i := 23) rfl))) (by decide) (t := .long) (t' := .long) (by decide) (by decide)))).other W15 (Or.inr (slot_ne (Or.inr (hw _ (List.mem_of_getElem? (i := 21) rfl))) (Or.inr (hw _ (List.mem_of_getElem? (i := 25) rfl))) (by decide) (t := .long) (t' := .long) (by decide) (by decide)))).other W16 (Or.inr (slot_ne (Or.inr (hw _ (List.mem_of_getElem? (i := 21) rfl))) (Or.inr (hw _ (List.mem_of_getElem? (i := 27) rfl))) (by decide) (t := .long) (t' := .long) (by decide) (by decide)))), ((Fw14.other W15 (Or.inr (slot_ne (Or.inr (hw _ (List.mem_of_getElem? (i := 23) rfl))) (Or.inr (hw _ (List.mem_of_getElem? (i := 25) rfl))) (by decide) (t := .long) (t' := .long) (by decide) (by decide)))).other W16 (Or.inr (slot_ne (Or.inr (hw _ (List.mem_of_getElem? (i := 23) rfl))) (Or.inr (hw _ (List.mem_of_getElem? (i := 27) rfl))) (by decide) (t := .long) (t' := .long) (by decide) (by decide)))), (Fw15.other W16 (Or.inr (slot_ne (Or.inr (hw _ (List.mem_of_getElem? (i := 25) rfl))) (Or.inr (hw _ (List.mem_of_getElem? (i := 27) rfl))) (by decide) (t := .long) (t' := .long) (by decide) (by decide)))), Fw16⟩
theorem d4_0 : decode prog_25_method_2_code 0 = .ok (.aload_n 0, 1) := by decide +kernel
theorem d4_1 : decode prog_25_method_2_code 1 = .ok (.getfield 7, 3) := by decide +kernel
theorem d4_4 : decode prog_25_method_2_code 4 = .ok (.aload_n 0, 1) := by decide +kernel
theorem d4_5 : decode prog_25_method_2_code 5 = .ok (.getfield 13, 3) := by decide +kernel
theorem d4_8 : decode prog_25_method_2_code 8 = .ok (.ladd, 1) := by decide +kernel
theorem d4_9 : decode prog_25_method_2_code 9 = .ok (.aload_n 0, 1) := by decide +kernel
theorem d4_10 : decode prog_25_method_2_code 10 = .ok (.getfield 16, 3) := by decide +kernel
theorem d4_13 : decode prog_25_method_2_code 13 = .ok (.ladd, 1) := by decide +kernel
theorem d4_14 : decode prog_25_method_2_code 14 = .ok (.aload_n 0, 1) := by decide +kernel
theorem d4_15 : decode prog_25_method_2_code 15 = .ok (.getfield 19, 3) := by decide +kernel
theorem d4_18 : decode prog_25_method_2_code 18 = .ok (.ladd, 1) := by decide +kernel
theorem d4_19 : decode prog_25_method_2_code 19 = .ok (.aload_n 0, 1) := by decide +kernel
theorem d4_20 : decode prog_25_method_2_code 20 = .ok (.getfield 22, 3) := by decide +kernel
theorem d4_23 : decode prog_25_method_2_code 23 = .ok (.ladd, 1) := by decide +kernel
theorem d4_24 : decode prog_25_method_2_code 24 = .ok (.lreturn, 1) := by decide +kernel
theorem pn_4 : plainName "com/example/nestwood/nestwood/session/StatementCounter$Counts" = true := by first | (simp [plainName, overriddenIn]; done) | decide +kernel
theorem ef_4 (m : MethodId) (x0 : Addr) : entryFrame m #[(.ref x0)] 1 = mkF m 0 #[.val (.ref x0)] [] := by first | (simp [entryFrame, mkF, argsToLocals, Value.category]; done) | rfl
def Q4 (Z : State) (a1 : Addr) (w2 : Int64) (w4 : Int64) (w6 : Int64) (w8 : Int64) (w10 : Int64) (h0 : Heap) (n0 : Nat) (v : Option Value) (h : Heap) (L : List Loc) : Prop := v = some (.long ((((w2 + w4) + w6) + w8) + w10)) ∧ Fr n0 L ∧ h = h0
set_option maxRecDepth 65536 in
set_option maxHeartbeats 40000000 in
theorem rm4 (l : Launch) (Z : State) (a0 : Array Value) (hw : ∀ d ∈ tables_1, d.before a0 Z = true) (ws : List Jvm.Cond) (a1 : Addr) (w2 : Int64) (w4 : Int64) (w6 : Int64) (w8 : Int64) (w10 : Int64) (h0 : Heap) (n0 : Nat) (Z0 : n0 ≤ h0.size) (F_insert_a1 : Fld Z h0 a1 "com/example/nestwood/nestwood/session/StatementCounter$Counts" "insert" "J" (.long w2)) (F_update_a1 : Fld Z h0 a1 "com/example/nestwood/nestwood/session/StatementCounter$Counts" "update" "J" (.long w4)) (F_delete_a1 : Fld Z h0 a1 "com/example/nestwood/nestwood/session/StatementCounter$Counts" "delete" "J" (.long w6)) (F_select_a1 : Fld Z h0 a1 "com/example/nestwood/nestwood/session/StatementCounter$Counts" "select" "J" (.long w8)) (F_other_a1 : Fld Z h0 a1 "com/example/nestwood/nestwood/session/StatementCounter$Counts" "other" "J" (.long w10)) :
    MetFree l (⟨"com/example/nestwood/nestwood/session/StatementCounter$Counts", "total", "()J"⟩ : MethodName) (head1 (Jvm.Cond.code (⟨"com/example/nestwood/nestwood/session/StatementCounter$Counts", "total", "()J"⟩ : MethodName) prog_25_method_2_code 1 (some .long) :: ws) ({ frames := 0, cells := 0, slots := 0, locals := 0 } : Room)) (fun a U => a = #[(.ref a1)] ∧ Z.Warmed39 U.vm ∧ U.heap = h0) (fun _ _ _ _ _ => True) (fun _ U o U' => ∃ v L, o = .returned v ∧ Q4 Z a1 w2 w4 w6 w8 w10 h0 n0 v U'.heap L ∧ FrameEnd U o U' L ({ frames := 0, cells := 0, slots := 0, locals := 0 } : Room).cells ({ frames := 0, cells := 0, slots := 0, locals := 0 } : Room).slots) := by
  refine MetFree.of_bodySF (plainFor_of_name pn_4) hisR ?_
  intro p e s m args below meth c s₁ Bd hml0 hP hK
  obtain ⟨rfl, hZ, hh⟩ := hP
  have hx := Bd.exec
  have hby := Bd.bytes
  have hml : c.maxLocals = 1 := hml0
  have hown : s.vm.findClass "com/example/nestwood/nestwood/session/StatementCounter$Counts" = some m.cls := findClass_of_methodNamed Bd.named
  have hnm := (name_of_methodNamed Bd.named Bd.method).1
  have X0 : Stand p l e ({ frames := 0, cells := 0, slots := 0, locals := 0 } : Room) s m #[(.ref a1)] below meth c s₁ [] 0 0 := Stand.of_body Bd
  have e0 : s₁.heap = h0 := by rw [← hh, Bd.state]; rfl
  have N0 := Fr.nil n0
  have pre0 : ∀ t, Steps p.tables e below (s₁.setTop (mkF m 0 #[.val (.ref a1)] [])) t → Steps p.tables e below (s₁.setTop (entryFrame m #[(.ref a1)] 1)) t := fun t k => castTop (ef_4 m a1) k
  obtain ⟨T3, X3, e3, st3⟩ := getF X0 hx hZ hown (host := "") (Or.inl (hw _ (List.mem_of_getElem? (i := 14) rfl))) Via.refl e0 F_insert_a1 (g := (mkF m 1 #[.val (.ref a1)] [(.ref a1)])) rfl rfl (hb hby d4_1)
  obtain ⟨T5, X5, e5, st5⟩ := getF X3 hx hZ hown (host := "") (Or.inl (hw _ (List.mem_of_getElem? (i := 16) rfl))) Via.refl e3 F_update_a1 (g := (mkF m 5 #[.val (.ref a1)] [(.ref a1), (.long w2)])) rfl rfl (hb hby d4_5)
  obtain ⟨T7, X7, e7, st7⟩ := getF X5 hx hZ hown (host := "") (Or.inl (hw _ (List.mem_of_getElem? (i := 18) rfl))) Via.refl e5 F_delete_a1 (g := (mkF m 10 #[.val (.ref a1)] [(.ref a1), (.long (w2 + w4))])) rfl rfl (hb hby d4_10)
  obtain ⟨T9, X9, e9, st9⟩ := getF X7 hx hZ hown (host := "") (Or.inl (hw _ (List.mem_of_getElem? (i := 20) rfl))) Via.refl e7 F_select_a1 (g := (mkF m 15 #[.val (.ref a1)] [(.ref a1), (.long ((w2 + w4) + w6))])) rfl rfl (hb hby d4_15)
  obtain ⟨T11, X11, e11, st11⟩ := getF X9 hx hZ hown (host := "") (Or.inl (hw _ (List.mem_of_getElem? (i := 22) rfl))) Via.refl e9 F_other_a1 (g := (mkF m 20 #[.val (.ref a1)] [(.ref a1), (.long (((w2 + w4) + w6) + w8))])) rfl rfl (hb hby d4_20)
  obtain ⟨fs, hr, hrun, hended, hW, hsame⟩ := X11.leave (v := some (.long ((((w2 + w4) + w6) + w8) + w10))) (fun h => by rw [Bd.returns] at h; cases h)
  refine ⟨_, _, pre0 _ ?_, hrun, hended, _, _, rfl, ?_, ⟨_, rfl⟩, hW, hsame.mono (by decide) (by decide)⟩
  · show Steps p.tables e below (s₁.setTop (mkF m 0 #[.val (.ref a1)] [])) _
    refine XS.aloadN X0.here hx rfl (hb hby d4_0) rfl rfl ?_
    show Steps p.tables e below (s₁.setTop (mkF m 1 #[.val (.ref a1)] [(.ref a1)])) _
    refine st3 _ ?_
    show Steps p.tables e below (T3.setTop (mkF m 4 #[.val (.ref a1)] [(.long w2)])) _
    refine XS.aloadN X3.here hx rfl (hb hby d4_4) rfl rfl ?_
    show Steps p.tables e below (T3.setTop (mkF m 5 #[.val (.ref a1)] [(.ref a1), (.long w2)])) _
    refine st5 _ ?_
    show Steps p.tables e below (T5.setTop (mkF m 8 #[.val (.ref a1)] [(.long w4), (.long w2)])) _
    refine XS.ladd X5.here hx rfl (hb hby d4_8) rfl ?_
    show Steps p.tables e below (T5.setTop (mkF m 9 #[.val (.ref a1)] [(.long (w2 + w4))])) _
    refine XS.aloadN X5.here hx rfl (hb hby d4_9) rfl rfl ?_
    show Steps p.tables e below (T5.setTop (mkF m 10 #[.val (.ref a1)] [(.ref a1), (.long (w2 + w4))])) _
    refine st7 _ ?_
    show Steps p.tables e below (T7.setTop (mkF m 13 #[.val (.ref a1)] [(.long w6), (.long (w2 + w4))])) _
    refine XS.ladd X7.here hx rfl (hb hby d4_13) rfl ?_
    show Steps p.tables e below (T7.setTop (mkF m 14 #[.val (.ref a1)] [(.long ((w2 + w4) + w6))])) _
    refine XS.aloadN X7.here hx rfl (hb hby d4_14) rfl rfl ?_
    show Steps p.tables e below (T7.setTop (mkF m 15 #[.val (.ref a1)] [(.ref a1), (.long ((w2 + w4) + w6))])) _
    refine st9 _ ?_
    show Steps p.tables e below (T9.setTop (mkF m 18 #[.val (.ref a1)] [(.long w8), (.long ((w2 + w4) + w6))])) _
    refine XS.ladd X9.here hx rfl (hb hby d4_18) rfl ?_
    show Steps p.tables e below (T9.setTop (mkF m 19 #[.val (.ref a1)] [(.long (((w2 + w4) + w6) + w8))])) _
    refine XS.aloadN X9.here hx rfl (hb hby d4_19) rfl rfl ?_
    show Steps p.tables e below (T9.setTop (mkF m 20 #[.val (.ref a1)] [(.ref a1), (.long (((w2 + w4) + w6) + w8))])) _
    refine st11 _ ?_
    show Steps p.tables e below (T11.setTop (mkF m 23 #[.val (.ref a1)] [(.long w10), (.long (((w2 + w4) + w6) + w8))])) _
    refine XS.ladd X11.here hx rfl (hb hby d4_23) rfl ?_
    show Steps p.tables e below (T11.setTop (mkF m 24 #[.val (.ref a1)] [(.long ((((w2 + w4) + w6) + w8) + w10))])) _
    jvm_step X11.here [X11.here.top, hx, (hb hby d4_24), X11.method', Bd.returns, narrow]
    first | (intro acts; rw [hr _ acts rfl rfl rfl]) | rw [hr _ _ rfl rfl rfl]
    exact Steps.refl _
  · show Q4 Z a1 w2 w4 w6 w8 w10 h0 n0 _ T11.heap _
    rw [e11]
    exact ⟨rfl, N0, rfl⟩
theorem d5_0 : decode prog_25_method_3_code 0 = .ok (.new 8, 3) := by decide +kernel
theorem d5_3 : decode prog_25_method_3_code 3 = .ok (.dup, 1) := by decide +kernel
theorem d5_4 : decode prog_25_method_3_code 4 = .ok (.aload_n 0, 1) := by decide +kernel
theorem d5_5 : decode prog_25_method_3_code 5 = .ok (.getfield 7, 3) := by decide +kernel
theorem d5_8 : decode prog_25_method_3_code 8 = .ok (.aload_n 1, 1) := by decide +kernel
theorem d5_9 : decode prog_25_method_3_code 9 = .ok (.getfield 7, 3) := by decide +kernel
theorem d5_12 : decode prog_25_method_3_code 12 = .ok (.lsub, 1) := by decide +kernel
theorem d5_13 : decode prog_25_method_3_code 13 = .ok (.aload_n 0, 1) := by decide +kernel
theorem d5_14 : decode prog_25_method_3_code 14 = .ok (.getfield 13, 3) := by decide +kernel
theorem d5_17 : decode prog_25_method_3_code 17 = .ok (.aload_n 1, 1) := by decide +kernel
theorem d5_18 : decode prog_25_method_3_code 18 = .ok (.getfield 13, 3) := by decide +kernel
theorem d5_21 : decode prog_25_method_3_code 21 = .ok (.lsub, 1) := by decide +kernel
theorem d5_22 : decode prog_25_method_3_code 22 = .ok (.aload_n 0, 1) := by decide +kernel
theorem d5_23 : decode prog_25_method_3_code 23 = .ok (.getfield 16, 3) := by decide +kernel
theorem d5_26 : decode prog_25_method_3_code 26 = .ok (.aload_n 1, 1) := by decide +kernel
theorem d5_27 : decode prog_25_method_3_code 27 = .ok (.getfield 16, 3) := by decide +kernel
theorem d5_30 : decode prog_25_method_3_code 30 = .ok (.lsub, 1) := by decide +kernel
theorem d5_31 : decode prog_25_method_3_code 31 = .ok (.aload_n 0, 1) := by decide +kernel
theorem d5_32 : decode prog_25_method_3_code 32 = .ok (.getfield 19, 3) := by decide +kernel
theorem d5_35 : decode prog_25_method_3_code 35 = .ok (.aload_n 1, 1) := by decide +kernel
theorem d5_36 : decode prog_25_method_3_code 36 = .ok (.getfield 19, 3) := by decide +kernel
theorem d5_39 : decode prog_25_method_3_code 39 = .ok (.lsub, 1) := by decide +kernel
theorem d5_40 : decode prog_25_method_3_code 40 = .ok (.aload_n 0, 1) := by decide +kernel
theorem d5_41 : decode prog_25_method_3_code 41 = .ok (.getfield 22, 3) := by decide +kernel
theorem d5_44 : decode prog_25_method_3_code 44 = .ok (.aload_n 1, 1) := by decide +kernel
theorem d5_45 : decode prog_25_method_3_code 45 = .ok (.getfield 22, 3) := by decide +kernel
theorem d5_48 : decode prog_25_method_3_code 48 = .ok (.lsub, 1) := by decide +kernel
theorem d5_49 : decode prog_25_method_3_code 49 = .ok (.aload_n 0, 1) := by decide +kernel
theorem d5_50 : decode prog_25_method_3_code 50 = .ok (.getfield 25, 3) := by decide +kernel
theorem d5_53 : decode prog_25_method_3_code 53 = .ok (.aload_n 1, 1) := by decide +kernel
theorem d5_54 : decode prog_25_method_3_code 54 = .ok (.getfield 25, 3) := by decide +kernel
theorem d5_57 : decode prog_25_method_3_code 57 = .ok (.lsub, 1) := by decide +kernel
theorem d5_58 : decode prog_25_method_3_code 58 = .ok (.aload_n 0, 1) := by decide +kernel
theorem d5_59 : decode prog_25_method_3_code 59 = .ok (.getfield 28, 3) := by decide +kernel
theorem d5_62 : decode prog_25_method_3_code 62 = .ok (.aload_n 1, 1) := by decide +kernel
theorem d5_63 : decode prog_25_method_3_code 63 = .ok (.getfield 28, 3) := by decide +kernel
theorem d5_66 : decode prog_25_method_3_code 66 = .ok (.lsub, 1) := by decide +kernel
theorem d5_67 : decode prog_25_method_3_code 67 = .ok (.invokespecial 31, 3) := by decide +kernel
theorem d5_70 : decode prog_25_method_3_code 70 = .ok (.areturn, 1) := by decide +kernel
theorem pn_5 : plainName "com/example/nestwood/nestwood/session/StatementCounter$Counts" = true := by first | (simp [plainName, overriddenIn]; done) | decide +kernel
theorem pd_5_0 : parseMethodDescriptor "(JJJJJJJ)V" = some ⟨[.long, .long, .long, .long, .long, .long, .long], none⟩ := by decide +kernel
theorem ef_5 (m : MethodId) (x0 : Addr) (x1 : Addr) : entryFrame m #[(.ref x0), (.ref x1)] 2 = mkF m 0 #[.val (.ref x0), .val (.ref x1)] [] := by first | (simp [entryFrame, mkF, argsToLocals, Value.category]; done) | rfl
def Q5 (Z : State) (a1 : Addr) (a2 : Addr) (w4 : Int64) (w6 : Int64) (w8 : Int64) (w10 : Int64) (w12 : Int64) (w14 : Int64) (w16 : Int64) (w18 : Int64) (w20 : Int64) (w22 : Int64) (w24 : Int64) (w26 : Int64) (w28 : Int64) (w30 : Int64) (h0 : Heap) (n0 : Nat) (v : Option Value) (h : Heap) (L : List Loc) : Prop := ∃ b : Addr, v = some (.ref b) ∧ Fr n0 L ∧ Keep h0 h [] ∧ own_Cn Z h b (w4 - w6) (w8 - w10) (w12 - w14) (w16 - w18) (w20 - w22) (w24 - w26) (w28 - w30)
set_option maxRecDepth 65536 in
set_option maxHeartbeats 40000000 in
theorem rm5 (l : Launch) (Z : State) (a0 : Array Value) (hw : ∀ d ∈ tables_1, d.before a0 Z = true) (ws : List Jvm.Cond) (a1 : Addr) (a2 : Addr) (w4 : Int64) (w6 : Int64) (w8 : Int64) (w10 : Int64) (w12 : Int64) (w14 : Int64) (w16 : Int64) (w18 : Int64) (w20 : Int64) (w22 : Int64) (w24 : Int64) (w26 : Int64) (w28 : Int64) (w30 : Int64) (h0 : Heap) (n0 : Nat) (Z0 : n0 ≤ h0.size) (F_insert_a1 : Fld Z h0 a1 "com/example/nestwood/nestwood/session/StatementCounter$Counts" "insert" "J" (.long w4)) (F_insert_a2 : Fld Z h0 a2 "com/example/nestwood/nestwood/session/StatementCounter$Counts" "insert" "J" (.long w6)) (F_update_a1 : Fld Z h0 a1 "com/example/nestwood/nestwood/session/StatementCounter$Counts" "update" "J" (.long w8)) (F_update_a2 : Fld Z h0 a2 "com/example/nestwood/nestwood/session/StatementCounter$Counts" "update" "J" (.long w10)) (F_delete_a1 : Fld Z h0 a1 "com/example/nestwood/nestwood/session/StatementCounter$Counts" "delete" "J" (.long w12)) (F_delete_a2 : Fld Z h0 a2 "com/example/nestwood/nestwood/session/StatementCounter$Counts" "delete" "J" (.long w14)) (F_select_a1 : Fld Z h0 a1 "com/example/nestwood/nestwood/session/StatementCounter$Counts" "select" "J" (.long w16)) (F_select_a2 : Fld Z h0 a2 "com/example/nestwood/nestwood/session/StatementCounter$Counts" "select" "J" (.long w18)) (F_other_a1 : Fld Z h0 a1 "com/example/nestwood/nestwood/session/StatementCounter$Counts" "other" "J" (.long w20)) (F_other_a2 : Fld Z h0 a2 "com/example/nestwood/nestwood/session/StatementCounter$Counts" "other" "J" (.long w22)) (F_rowsFetched_a1 : Fld Z h0 a1 "com/example/nestwood/nestwood/session/StatementCounter$Counts" "rowsFetched" "J" (.long w24)) (F_rowsFetched_a2 : Fld Z h0 a2 "com/example/nestwood/nestwood/session/StatementCounter$Counts" "rowsFetched" "J" (.long w26)) (F_rowsUpdated_a1 : Fld Z h0 a1 "com/example/nestwood/nestwood/session/StatementCounter$Counts" "rowsUpdated" "J" (.long w28)) (F_rowsUpdated_a2 : Fld Z h0 a2 "com/example/nestwood/nestwood/session/StatementCounter$Counts" "rowsUpdated" "J" (.long w30)) :
    MetFree l (⟨"com/example/nestwood/nestwood/session/StatementCounter$Counts", "since", "(Lcom/example/nestwood/nestwood/session/StatementCounter$Counts;)Lcom/example/nestwood/nestwood/session/StatementCounter$Counts;"⟩ : MethodName) (head1 (Jvm.Cond.code (⟨"com/example/nestwood/nestwood/session/StatementCounter$Counts", "since", "(Lcom/example/nestwood/nestwood/session/StatementCounter$Counts;)Lcom/example/nestwood/nestwood/session/StatementCounter$Counts;"⟩ : MethodName) prog_25_method_3_code 2 (some (.object "com/example/nestwood/nestwood/session/StatementCounter$Counts")) :: ws) ({ frames := 3, cells := 1, slots := 7, locals := 51 } : Room)) (fun a U => a = #[(.ref a1), (.ref a2)] ∧ Z.Warmed39 U.vm ∧ U.heap = h0) (fun _ _ _ _ _ => True) (fun _ U o U' => ∃ v L, o = .returned v ∧ Q5 Z a1 a2 w4 w6 w8 w10 w12 w14 w16 w18 w20 w22 w24 w26 w28 w30 h0 n0 v U'.heap L ∧ FrameEnd U o U' L ({ frames := 3, cells := 1, slots := 7, locals := 51 } : Room).cells ({ frames := 3, cells := 1, slots := 7, locals := 51 } : Room).slots) := by
  refine MetFree.of_bodySF (plainFor_of_name pn_5) hisR ?_
  intro p e s m args below meth c s₁ Bd hml0 hP hK
  obtain ⟨rfl, hZ, hh⟩ := hP
  have hx := Bd.exec
  have hby := Bd.bytes
  have hml : c.maxLocals = 2 := hml0
  have hown : s.vm.findClass "com/example/nestwood/nestwood/session/StatementCounter$Counts" = some m.cls := findClass_of_methodNamed Bd.named
  have hnm := (name_of_methodNamed Bd.named Bd.method).1
  have X0 : Stand p l e ({ frames := 3, cells := 1, slots := 7, locals := 51 } : Room) s m #[(.ref a1), (.ref a2)] below meth c s₁ [] 0 0 := Stand.of_body Bd
  have e0 : s₁.heap = h0 := by rw [← hh, Bd.state]; rfl
  have N0 := Fr.nil n0
  have pre0 : ∀ t, Steps p.tables e below (s₁.setTop (mkF m 0 #[.val (.ref a1), .val (.ref a2)] [])) t → Steps p.tables e below (s₁.setTop (entryFrame m #[(.ref a1), (.ref a2)] 2)) t := fun t k => castTop (ef_5 m a1 a2) k
  obtain ⟨T3, h3, X3, e3, E3, A3, D3, -, st3⟩ := newO X0 hx hZ hown (hw _ (List.mem_of_getElem? (i := 39) rfl)) (hw _ (List.mem_of_getElem? (i := 1) rfl)) (hw _ (List.mem_of_getElem? (i := 2) rfl)) e0 (g := (mkF m 0 #[.val (.ref a1), .val (.ref a2)] [])) rfl (hb hby d5_0) (by decide) (by decide)
  obtain ⟨b3, g3⟩ : ∃ z, z = h0.size := ⟨_, rfl⟩
  rw [← g3] at A3 D3 st3
  have F_insert_b3 : Fld Z h3 b3 "com/example/nestwood/nestwood/session/StatementCounter$Counts" "insert" "J" (.long (0 : Int64)) := D3 (Or.inr (hw _ (List.mem_of_getElem? (i := 15) rfl))) (ty := .long) (by decide)
  have F_update_b3 : Fld Z h3 b3 "com/example/nestwood/nestwood/session/StatementCounter$Counts" "update" "J" (.long (0 : Int64)) := D3 (Or.inr (hw _ (List.mem_of_getElem? (i := 17) rfl))) (ty := .long) (by decide)
  have F_delete_b3 : Fld Z h3 b3 "com/example/nestwood/nestwood/session/StatementCounter$Counts" "delete" "J" (.long (0 : Int64)) := D3 (Or.inr (hw _ (List.mem_of_getElem? (i := 19) rfl))) (ty := .long) (by decide)
  have F_select_b3 : Fld Z h3 b3 "com/example/nestwood/nestwood/session/StatementCounter$Counts" "select" "J" (.long (0 : Int64)) := D3 (Or.inr (hw _ (List.mem_of_getElem? (i := 21) rfl))) (ty := .long) (by decide)
  have F_other_b3 : Fld Z h3 b3 "com/example/nestwood/nestwood/session/StatementCounter$Counts" "other" "J" (.long (0 : Int64)) := D3 (Or.inr (hw _ (List.mem_of_getElem? (i := 23) rfl))) (ty := .long) (by decide)
  have F_rowsFetched_b3 : Fld Z h3 b3 "com/example/nestwood/nestwood/session/StatementCounter$Counts" "rowsFetched" "J" (.long (0 : Int64)) := D3 (Or.inr (hw _ (List.mem_of_getElem? (i := 25) rfl))) (ty := .long) (by decide)
  have F_rowsUpdated_b3 : Fld Z h3 b3 "com/example/nestwood/nestwood/session/StatementCounter$Counts" "rowsUpdated" "J" (.long (0 : Int64)) := D3 (Or.inr (hw _ (List.mem_of_getElem? (i := 27) rfl))) (ty := .long) (by decide)
  have E_b3 := A3
  have g_b3 : n0 ≤ b3 := Nat.le_trans Z0 (Nat.le_of_eq g3.symm)
  have sz_b3 : h0.size ≤ b3 := (Nat.le_trans (Keep.refl h0 []).1 (Nat.le_of_eq g3.symm))
  have K3 : Keep h0 h3 [] := (Keep.refl h0 []).ext E3
  obtain ⟨T5, X5, e5, st5⟩ := getF X3 hx hZ hown (host := "") (Or.inl (hw _ (List.mem_of_getElem? (i := 14) rfl))) Via.refl e3 (F_insert_a1.ext E3) (g := (mkF m 5 #[.val (.ref a1), .val (.ref a2)] [(.ref a1), (.ref b3), (.ref b3)])) rfl rfl (hb hby d5_5)
  obtain ⟨T7, X7, e7, st7⟩ := getF X5 hx hZ hown (host := "") (Or.inl (hw _ (List.mem_of_getElem? (i := 14) rfl))) Via.refl e5 (F_insert_a2.ext E3) (g := (mkF m 9 #[.val (.ref a1), .val (.ref a2)] [(.ref a2), (.long w4), (.ref b3), (.ref b3)])) rfl rfl (hb hby d5_9)
  obtain ⟨T9, X9, e9, st9⟩ := getF X7 hx hZ hown (host := "") (Or.inl (hw _ (List.mem_of_getElem? (i := 16) rfl))) Via.refl e7 (F_update_a1.ext E3) (g := (mkF m 14 #[.val (.ref a1), .val (.ref a2)] [(.ref a1), (.long (w4 - w6)), (.ref b3), (.ref b3)])) rfl rfl (hb hby d5_14)
  obtain ⟨T11, X11, e11, st11⟩ := getF X9 hx hZ hown (host := "") (Or.inl (hw _ (List.mem_of_getElem? (i := 16) rfl))) Via.refl e9 (F_update_a2.ext E3) (g := (mkF m 18 #[.val (.ref a1), .val (.ref a2)] [(.ref a2), (.long w8), (.long (w4 - w6)), (.ref b3), (.ref b3)])) rfl rfl (hb hby d5_18)
  obtain ⟨T13, X13, e13, st13⟩ := getF X11 hx hZ hown (host := "") (Or.inl (hw _ (List.mem_of_getElem? (i := 18) rfl))) Via.refl e11 (F_delete_a1.ext E3) (g := (mkF m 23 #[.val (.ref a1), .val (.ref a2)] [(.ref a1), (.long (w8 - w10)), (.long (w4 - w6)), (.ref b3), (.ref b3)])) rfl rfl (hb hby d5_23)
  obtain ⟨T15, X15, e15, st15⟩ := getF X13 hx hZ hown (host := "") (Or.inl (hw _ (List.mem_of_getElem? (i := 18) rfl))) Via.refl e13 (F_delete_a2.ext E3) (g := (mkF m 27 #[.val (.ref a1), .val (.ref a2)] [(.ref a2), (.long w12), (.long (w8 - w10)), (.long (w4 - w6)), (.ref b3), (.ref b3)])) rfl rfl (hb hby d5_27)
  obtain ⟨T17, X17, e17, st17⟩ := getF X15 hx hZ hown (host := "") (Or.inl (hw _ (List.mem_of_getElem? (i := 20) rfl))) Via.refl e15 (F_select_a1.ext E3) (g := (mkF m 32 #[.val (.ref a1), .val (.ref a2)] [(.ref a1), (.long (w12 - w14)), (.long (w8 - w10)), (.long (w4 - w6)), (.ref b3), (.ref b3)])) rfl rfl (hb hby d5_32)
  obtain ⟨T19, X19, e19, st19⟩ := getF X17 hx hZ hown (host := "") (Or.inl (hw _ (List.mem_of_getElem? (i := 20) rfl))) Via.refl e17 (F_select_a2.ext E3) (g := (mkF m 36 #[.val (.ref a1), .val (.ref a2)] [(.ref a2), (.long w16), (.long (w12 - w14)), (.long (w8 - w10)), (.long (w4 - w6)), (.ref b3), (.ref b3)])) rfl rfl (hb hby d5_36)
  obtain ⟨T21, X21, e21, st21⟩ := getF X19 hx hZ hown (host := "") (Or.inl (hw _ (List.mem_of_getElem? (i := 22) rfl))) Via.refl e19 (F_other_a1.ext E3) (g := (mkF m 41 #[.val (.ref a1), .val (.ref a2)] [(.ref a1), (.long (w16 - w18)), (.long (w12 - w14)), (.long (w8 - w10)), (.long (w4 - w6)), (.ref b3), (.ref b3)])) rfl rfl (hb hby d5_41)
  obtain ⟨T23, X23, e23, st23⟩ := getF X21 hx hZ hown (host := "") (Or.inl (hw _ (List.mem_of_getElem? (i := 22) rfl))) Via.refl e21 (F_other_a2.ext E3) (g := (mkF m 45 #[.val (.ref a1), .val (.ref a2)] [(.ref a2), (.long w20), (.long (w16 - w18)), (.long (w12 - w14)), (.long (w8 - w10)), (.long (w4 - w6)), (.ref b3), (.ref b3)])) rfl rfl (hb hby d5_45)
  obtain ⟨T25, X25, e25, st25⟩ := getF X23 hx hZ hown (host := "") (Or.inl (hw _ (List.mem_of_getElem? (i := 24) rfl))) Via.refl e23 (F_rowsFetched_a1.ext E3) (g := (mkF m 50 #[.val (.ref a1), .val (.ref a2)] [(.ref a1), (.long (w20 - w22)), (.long (w16 - w18)), (.long (w12 - w14)), (.long (w8 - w10)), (.long (w4 - w6)), (.ref b3), (.ref b3)])) rfl rfl (hb hby d5_50)
  obtain ⟨T27, X27, e27, st27⟩ := getF X25 hx hZ hown (host := "") (Or.inl (hw _ (List.mem_of_getElem? (i := 24) rfl))) Via.refl e25 (F_rowsFetched_a2.ext E3) (g := (mkF m 54 #[.val (.ref a1), .val (.ref a2)] [(.ref a2), (.long w24), (.long (w20 - w22)), (.long (w16 - w18)), (.long (w12 - w14)), (.long (w8 - w10)), (.long (w4 - w6)), (.ref b3), (.ref b3)])) rfl rfl (hb hby d5_54)
  obtain ⟨T29, X29, e29, st29⟩ := getF X27 hx hZ hown (host := "") (Or.inl (hw _ (List.mem_of_getElem? (i := 26) rfl))) Via.refl e27 (F_rowsUpdated_a1.ext E3) (g := (mkF m 59 #[.val (.ref a1), .val (.ref a2)] [(.ref a1), (.long (w24 - w26)), (.long (w20 - w22)), (.long (w16 - w18)), (.long (w12 - w14)), (.long (w8 - w10)), (.long (w4 - w6)), (.ref b3), (.ref b3)])) rfl rfl (hb hby d5_59)
  obtain ⟨T31, X31, e31, st31⟩ := getF X29 hx hZ hown (host := "") (Or.inl (hw _ (List.mem_of_getElem? (i := 26) rfl))) Via.refl e29 (F_rowsUpdated_a2.ext E3) (g := (mkF m 63 #[.val (.ref a1), .val (.ref a2)] [(.ref a2), (.long w28), (.long (w24 - w26)), (.long (w20 - w22)), (.long (w16 - w18)), (.long (w12 - w14)), (.long (w8 - w10)), (.long (w4 - w6)), (.ref b3), (.ref b3)])) rfl rfl (hb hby d5_63)
  obtain ⟨_, _, ⟨T32, L32, k32, n32⟩, -, X32, ⟨Lc32, hQ32, l32, y32, z32⟩, st32⟩ := X31.specialBack hx (y := (⟨"com/example/nestwood/nestwood/session/StatementCounter$Counts", "<init>", "(JJJJJJJ)V"⟩ : MethodName)) rfl hown (mvT hZ (hw _ (List.mem_of_getElem? (i := 40) rfl))) (mvT hZ (hw _ (List.mem_of_getElem? (i := 4) rfl))) (mvT hZ (hw _ (List.mem_of_getElem? (i := 5) rfl))) (by decide) (backOf (W := 1) (rm1 l Z a0 hw [] b3 (w4 - w6) (w8 - w10) (w12 - w14) (w16 - w18) (w20 - w22) (w24 - w26) (w28 - w30) (.long (0 : Int64)) (.long (0 : Int64)) (.long (0 : Int64)) (.long (0 : Int64)) (.long (0 : Int64)) (.long (0 : Int64)) (.long (0 : Int64)) h3 n0 (Nat.le_trans Z0 E3.1) E_b3 F_insert_b3 g_b3 F_update_b3 F_delete_b3 F_select_b3 F_other_b3 F_rowsFetched_b3 F_rowsUpdated_b3) hZ (hw _ (List.mem_of_getElem? (i := 5) rfl)) (hw _ (List.mem_of_getElem? (i := 2) rfl)) (by decide) (by decide)) (g := (mkF m 67 #[.val (.ref a1), .val (.ref a2)] [(.long (w28 - w30)), (.long (w24 - w26)), (.long (w20 - w22)), (.long (w16 - w18)), (.long (w12 - w14)), (.long (w8 - w10)), (.long (w4 - w6)), (.ref b3), (.ref b3)])) rfl (by rw [hml]; rfl) (Steps.refl _) (a := b3) (argsL := [(.long (w4 - w6)), (.long (w8 - w10)), (.long (w12 - w14)), (.long (w16 - w18)), (.long (w20 - w22)), (.long (w24 - w26)), (.long (w28 - w30))]) (rest := [(.ref b3)]) (lenOf pd_5_0 rfl) rfl (by show 2 * 0 + _ ≤ _; exact Nat.le_of_eq rfl) (hb hby d5_67) (fun _ _ => ⟨rfl, e31, (by decide : 1 + 0 ≤ _), (by decide : 7 + 0 ≤ _)⟩)
  dsimp only [Pt.U, Pt.locs, Pt.cells, Pt.slots] at X32 l32 y32 z32 st32 hQ32
  subst l32 y32 z32
  obtain ⟨rfl, N32q, K32q, C32q⟩ := hQ32
  have N32 := Fr.app N0 N32q
  obtain ⟨fs, hr, hrun, hended, hW, hsame⟩ := X32.leave (v := some (.ref b3)) (fun h => by rw [Bd.returns] at h; cases h)
  refine ⟨_, _, pre0 _ ?_, hrun, hended, _, _, rfl, ?_, ⟨_, rfl⟩, hW, hsame.mono (by decide) (by decide)⟩
  · show Steps p.tables e below (s₁.setTop (mkF m 0 #[.val (.ref a1), .val (.ref a2)] [])) _
    refine st3 _ ?_
    show Steps p.tables e below (T3.setTop (mkF m 3 #[.val (.ref a1), .val (.ref a2)] [(.ref b3)])) _
    refine XS.dup X3.here hx rfl (hb hby d5_3) rfl rfl ?_
    show Steps p.tables e below (T3.setTop (mkF m 4 #[.val (.ref a1), .val (.ref a2)] [(.ref b3), (.ref b3)])) _
    refine XS.aloadN X3.here hx rfl (hb hby d5_4) rfl rfl ?_
    show Steps p.tables e below (T3.setTop (mkF m 5 #[.val (.ref a1), .val (.ref a2)] [(.ref a1), (.ref b3), (.ref b3)])) _
    refine st5 _ ?_
    show Steps p.tables e below (T5.setTop (mkF m 8 #[.val (.ref a1), .val (.ref a2)] [(.long w4), (.ref b3), (.ref b3)])) _
    refine XS.aloadN X5.here hx rfl (hb hby d5_8) rfl rfl ?_
    show Steps p.tables e below (T5.setTop (mkF m 9 #[.val (.ref a1), .val (.ref a2)] [(.ref a2), (.long w4), (.ref b3), (.ref b3)])) _
    refine st7 _ ?_
    show Steps p.tables e below (T7.setTop (mkF m 12 #[.val (.ref a1), .val (.ref a2)] [(.long w6), (.long w4), (.ref b3), (.ref b3)])) _
    refine XS.lsub X7.here hx rfl (hb hby d5_12) rfl ?_
    show Steps p.tables e below (T7.setTop (mkF m 13 #[.val (.ref a1), .val (.ref a2)] [(.long (w4 - w6)), (.ref b3), (.ref b3)])) _
    refine XS.aloadN X7.here hx rfl (hb hby d5_13) rfl rfl ?_
    show Steps p.tables e below (T7.setTop (mkF m 14 #[.val (.ref a1), .val (.ref a2)] [(.ref a1), (.long (w4 - w6)), (.ref b3), (.ref b3)])) _
    refine st9 _ ?_
    show Steps p.tables e below (T9.setTop (mkF m 17 #[.val (.ref a1), .val (.ref a2)] [(.long w8), (.long (w4 - w6)), (.ref b3), (.ref b3)])) _
    refine XS.aloadN X9.here hx rfl (hb hby d5_17) rfl rfl ?_
    show Steps p.tables e below (T9.setTop (mkF m 18 #[.val (.ref a1), .val (.ref a2)] [(.ref a2), (.long w8), (.long (w4 - w6)), (.ref b3), (.ref b3)])) _
    refine st11 _ ?_
    show Steps p.tables e below (T11.setTop (mkF m 21 #[.val (.ref a1), .val (.ref a2)] [(.long w10), (.long w8), (.long (w4 - w6)), (.ref b3), (.ref b3)])) _
    refine XS.lsub X11.here hx rfl (hb hby d5_21) rfl ?_
    show Steps p.tables e below (T11.setTop (mkF m 22 #[.val (.ref a1), .val (.ref a2)] [(.long (w8 - w10)), (.long (w4 - w6)), (.ref b3), (.ref b3)])) _
    refine XS.aloadN X11.here hx rfl (hb hby d5_22) rfl rfl ?_
    show Steps p.tables e below (T11.setTop (mkF m 23 #[.val (.ref a1), .val (.ref a2)] [(.ref a1), (.long (w8 - w10)), (.long (w4 - w6)), (.ref b3), (.ref b3)])) _
    refine st13 _ ?_
    show Steps p.tables e below (T13.setTop (mkF m 26 #[.val (.ref a1), .val (.ref a2)] [(.long w12), (.long (w8 - w10)), (.long (w4 - w6)), (.ref b3), (.ref b3)])) _
    refine XS.aloadN X13.here hx rfl (hb hby d5_26) rfl rfl ?_
    show Steps p.tables e below (T13.setTop (mkF m 27 #[.val (.ref a1), .val (.ref a2)] [(.ref a2), (.long w12), (.long (w8 - w10)), (.long (w4 - w6)), (.ref b3), (.ref b3)])) _
    refine st15 _ ?_
    show Steps p.tables e below (T15.setTop (mkF m 30 #[.val (.ref a1), .val (.ref a2)] [(.long w14), (.long w12), (.long (w8 - w10)), (.long (w4 - w6)), (.ref b3), (.ref b3)])) _
    refine XS.lsub X15.here hx rfl (hb hby d5_30) rfl ?_
    show Steps p.tables e below (T15.setTop (mkF m 31 #[.val (.ref a1), .val (.ref a2)] [(.long (w12 - w14)), (.long (w8 - w10)), (.long (w4 - w6)), (.ref b3), (.ref b3)])) _
    refine XS.aloadN X15.here hx rfl (hb hby d5_31) rfl rfl ?_
    show Steps p.tables e below (T15.setTop (mkF m 32 #[.val (.ref a1), .val (.ref a2)] [(.ref a1), (.long (w12 - w14)), (.long (w8 - w10)), (.long (w4 - w6)), (.ref b3), (.ref b3)])) _
    refine st17 _ ?_
    show Steps p.tables e below (T17.setTop (mkF m 35 #[.val (.ref a1), .val (.ref a2)] [(.long w16), (.long (w12 - w14)), (.long (w8 - w10)), (.long (w4 - w6)), (.ref b3), (.ref b3)])) _
    refine XS.aloadN X17.here hx rfl (hb hby d5_35) rfl rfl ?_
    show Steps p.tables e below (T17.setTop (mkF m 36 #[.val (.ref a1), .val (.ref a2)] [(.ref a2), (.long w16), (.long (w12 - w14)), (.long (w8 - w10)), (.long (w4 - w6)), (.ref b3), (.ref b3)])) _
    refine st19 _ ?_
    show Steps p.tables e below (T19.setTop (mkF m 39 #[.val (.ref a1), .val (.ref a2)] [(.long w18), (.long w16), (.long (w12 - w14)), (.long (w8 - w10)), (.long (w4 - w6)), (.ref b3), (.ref b3)])) _
    refine XS.lsub X19.here hx rfl (hb hby d5_39) rfl ?_
    show Steps p.tables e below (T19.setTop (mkF m 40 #[.val (.ref a1), .val (.ref a2)] [(.long (w16 - w18)), (.long (w12 - w14)), (.long (w8 - w10)), (.long (w4 - w6)), (.ref b3), (.ref b3)])) _
    refine XS.aloadN X19.here hx rfl (hb hby d5_40) rfl rfl ?_
    show Steps p.tables e below (T19.setTop (mkF m 41 #[.val (.ref a1), .val (.ref a2)] [(.ref a1), (.long (w16 - w18)), (.long (w12 - w14)), (.long (w8 - w10)), (.long (w4 - w6)), (.ref b3), (.ref b3)])) _
    refine st21 _ ?_
    show Steps p.tables e below (T21.setTop (mkF m 44 #[.val (.ref a1), .val (.ref a2)] [(.long w20), (.long (w16 - w18)), (.long (w12 - w14)), (.long (w8 - w10)), (.long (w4 - w6)), (.ref b3), (.ref b3)])) _
    refine XS.aloadN X21.here hx rfl (hb hby d5_44) rfl rfl ?_
    show Steps p.tables e below (T21.setTop (mkF m 45 #[.val (.ref a1), .val (.ref a2)] [(.ref a2), (.long w20), (.long (w16 - w18)), (.long (w12 - w14)), (.long (w8 - w10)), (.long (w4 - w6)), (.ref b3), (.ref b3)])) _
    refine st23 _ ?_
    show Steps p.tables e below (T23.setTop (mkF m 48 #[.val (.ref a1), .val (.ref a2)] [(.long w22), (.long w20), (.long (w16 - w18)), (.long (w12 - w14)), (.long (w8 - w10)), (.long (w4 - w6)), (.ref b3), (.ref b3)])) _
    refine XS.lsub X23.here hx rfl (hb hby d5_48) rfl ?_
    show Steps p.tables e below (T23.setTop (mkF m 49 #[.val (.ref a1), .val (.ref a2)] [(.long (w20 - w22)), (.long (w16 - w18)), (.long (w12 - w14)), (.long (w8 - w10)), (.long (w4 - w6)), (.ref b3), (.ref b3)])) _
    refine XS.aloadN X23.here hx rfl (hb hby d5_49) rfl rfl ?_
    show Steps p.tables e below (T23.setTop (mkF m 50 #[.val (.ref a1), .val (.ref a2)] [(.ref a1), (.long (w20 - w22)), (.long (w16 - w18)), (.long (w12 - w14)), (.long (w8 - w10)), (.long (w4 - w6)), (.ref b3), (.ref b3)])) _
    refine st25 _ ?_
    show Steps p.tables e below (T25.setTop (mkF m 53 #[.val (.ref a1), .val (.ref a2)] [(.long w24), (.long (w20 - w22)), (.long (w16 - w18)), (.long (w12 - w14)), (.long (w8 - w10)), (.long (w4 - w6)), (.ref b3), (.ref b3)])) _
    refine XS.aloadN X25.here hx rfl (hb hby d5_53) rfl rfl ?_
    show Steps p.tables e below (T25.setTop (mkF m 54 #[.val (.ref a1), .val (.ref a2)] [(.ref a2), (.long w24), (.long (w20 - w22)), (.long (w16 - w18)), (.long (w12 - w14)), (.long (w8 - w10)), (.long (w4 - w6)), (.ref b3), (.ref b3)])) _
    refine st27 _ ?_
    show Steps p.tables e below (T27.setTop (mkF m 57 #[.val (.ref a1), .val (.ref a2)] [(.long w26), (.long w24), (.long (w20 - w22)), (.long (w16 - w18)), (.long (w12 - w14)), (.long (w8 - w10)), (.long (w4 - w6)), (.ref b3), (.ref b3)])) _
    refine XS.lsub X27.here hx rfl (hb hby d5_57) rfl ?_
    show Steps p.tables e below (T27.setTop (mkF m 58 #[.val (.ref a1), .val (.ref a2)] [(.long (w24 - w26)), (.long (w20 - w22)), (.long (w16 - w18)), (.long (w12 - w14)), (.long (w8 - w10)), (.long (w4 - w6)), (.ref b3), (.ref b3)])) _
    refine XS.aloadN X27.here hx rfl (hb hby d5_58) rfl rfl ?_
    show Steps p.tables e below (T27.setTop (mkF m 59 #[.val (.ref a1), .val (.ref a2)] [(.ref a1), (.long (w24 - w26)), (.long (w20 - w22)), (.long (w16 - w18)), (.long (w12 - w14)), (.long (w8 - w10)), (.long (w4 - w6)), (.ref b3), (.ref b3)])) _
    refine st29 _ ?_
    show Steps p.tables e below (T29.setTop (mkF m 62 #[.val (.ref a1), .val (.ref a2)] [(.long w28), (.long (w24 - w26)), (.long (w20 - w22)), (.long (w16 - w18)), (.long (w12 - w14)), (.long (w8 - w10)), (.long (w4 - w6)), (.ref b3), (.ref b3)])) _
    refine XS.aloadN X29.here hx rfl (hb hby d5_62) rfl rfl ?_
    show Steps p.tables e below (T29.setTop (mkF m 63 #[.val (.ref a1), .val (.ref a2)] [(.ref a2), (.long w28), (.long (w24 - w26)), (.long (w20 - w22)), (.long (w16 - w18)), (.long (w12 - w14)), (.long (w8 - w10)), (.long (w4 - w6)), (.ref b3), (.ref b3)])) _
    refine st31 _ ?_
    show Steps p.tables e below (T31.setTop (mkF m 66 #[.val (.ref a1), .val (.ref a2)] [(.long w30), (.long w28), (.long (w24 - w26)), (.long (w20 - w22)), (.long (w16 - w18)), (.long (w12 - w14)), (.long (w8 - w10)), (.long (w4 - w6)), (.ref b3), (.ref b3)])) _
    refine XS.lsub X31.here hx rfl (hb hby d5_66) rfl ?_
    show Steps p.tables e below (T31.setTop (mkF m 67 #[.val (.ref a1), .val (.ref a2)] [(.long (w28 - w30)), (.long (w24 - w26)), (.long (w20 - w22)), (.long (w16 - w18)), (.long (w12 - w14)), (.long (w8 - w10)), (.long (w4 - w6)), (.ref b3), (.ref b3)])) _
    refine st32.trans ?_
    show Steps p.tables e below (T32.setTop (mkF m 70 #[.val (.ref a1), .val (.ref a2)] [(.ref b3)])) _
    jvm_step X32.here [X32.here.top, hx, (hb hby d5_70), X32.method', Bd.returns, Value.isRef, FieldType.isReference]
    first | (intro acts; rw [hr _ acts rfl rfl rfl]) | rw [hr _ _ rfl rfl rfl]
    exact Steps.refl _
  · show Q5 Z a1 a2 w4 w6 w8 w10 w12 w14 w16 w18 w20 w22 w24 w26 w28 w30 h0 n0 _ T32.heap _
    exact ⟨b3, rfl, N32, K3.trans K32q (fun x hx => by cases List.mem_singleton.mp hx; exact Or.inr sz_b3), C32q⟩
theorem pn_0 : plainName "com/example/nestwood/nestwood/session/CountsTotalPinLaw" = true := by first | (simp [plainName, overriddenIn]; done) | decide +kernel
theorem pd_0_0 : parseMethodDescriptor "(JJJJJJJ)V" = some ⟨[.long, .long, .long, .long, .long, .long, .long], none⟩ := by decide +kernel
theorem pd_0_2 : parseMethodDescriptor "()J" = some ⟨[], some .long⟩ := by decide +kernel
theorem pd_0_3 : parseMethodDescriptor "(Lcom/example/nestwood/nestwood/session/StatementCounter$Counts;)Lcom/example/nestwood/nestwood/session/StatementCounter$Counts;" = some ⟨[(.object "com/example/nestwood/nestwood/session/StatementCounter$Counts")], some (.object "com/example/nestwood/nestwood/session/StatementCounter$Counts")⟩ := by decide +kernel
theorem ef_0 (m : MethodId) (x0 : Int64) (x1 : Int64) (x2 : Int64) (x3 : Int64) (x4 : Int64) (x5 : Int64) : entryFrame m #[(.long x0), (.long x1), (.long x2), (.long x3), (.long x4), (.long x5)] maxLocals = mkF m 0 #[.val (.long x0), .second, .val (.long x1), .second, .val (.long x2), .second, .val (.long x3), .second, .val (.long x4), .second, .val (.long x5), .second, .unset, .unset, .unset, .unset, .unset, .unset, .unset, .unset, .unset, .unset, .unset, .unset, .unset, .unset, .unset, .unset, .unset] [] := by first | (simp [entryFrame, mkF, argsToLocals, Value.category, maxLocals]; done) | rfl
def Q0 (Z : State) (q1 : Int64) (q2 : Int64) (q3 : Int64) (q4 : Int64) (q5 : Int64) (q6 : Int64) (h0 : Heap) (n0 : Nat) (v : Option Value) (h : Heap) (L : List Loc) : Prop := v = some (.int (1 : Int32)) ∧ Fr n0 L
set_option maxRecDepth 65536 in
set_option maxHeartbeats 40000000 in
theorem rm0 (l : Launch) (Z : State) (a0 : Array Value) (hw : ∀ d ∈ tables_1, d.before a0 Z = true) (ws : List Jvm.Cond) (q1 : Int64) (q2 : Int64) (q3 : Int64) (q4 : Int64) (q5 : Int64) (q6 : Int64) (h0 : Heap) (n0 : Nat) (Z0 : n0 ≤ h0.size) :
    MetFree l x (head1 (Jvm.Cond.code x code maxLocals ret :: ws) room_1) (fun a U => a = #[(.long q1), (.long q2), (.long q3), (.long q4), (.long q5), (.long q6)] ∧ Z.Warmed39 U.vm ∧ U.heap = h0) (fun _ _ _ _ _ => True) (fun _ U o U' => ∃ v L, o = .returned v ∧ Q0 Z q1 q2 q3 q4 q5 q6 h0 n0 v U'.heap L ∧ FrameEnd U o U' L room_1.cells room_1.slots) := by
  refine MetFree.of_bodySF (plainFor_of_name pn_0) hisR ?_
  intro p e s m args below meth c s₁ Bd hml0 hP hK
  obtain ⟨rfl, hZ, hh⟩ := hP
  have hx := Bd.exec
  have hby := Bd.bytes
  have hml : c.maxLocals = 29 := hml0
  have hown : s.vm.findClass "com/example/nestwood/nestwood/session/CountsTotalPinLaw" = some m.cls := findClass_of_methodNamed Bd.named
  have hnm := (name_of_methodNamed Bd.named Bd.method).1
  have X0 : Stand p l e room_1 s m #[(.long q1), (.long q2), (.long q3), (.long q4), (.long q5), (.long q6)] below meth c s₁ [] 0 0 := Stand.of_body Bd
  have e0 : s₁.heap = h0 := by rw [← hh, Bd.state]; rfl
  have N0 := Fr.nil n0
  have pre0 : ∀ t, Steps p.tables e below (s₁.setTop (mkF m 0 #[.val (.long q1), .second, .val (.long q2), .second, .val (.long q3), .second, .val (.long q4), .second, .val (.long q5), .second, .val (.long q6), .second, .unset, .unset, .unset, .unset, .unset, .unset, .unset, .unset, .unset, .unset, .unset, .unset, .unset, .unset, .unset, .unset, .unset] [])) t → Steps p.tables e below (s₁.setTop (entryFrame m #[(.long q1), (.long q2), (.long q3), (.long q4), (.long q5), (.long q6)] maxLocals)) t := fun t k => castTop (ef_0 m q1 q2 q3 q4 q5 q6) k
  obtain ⟨T7, h7, X7, e7, E7, A7, D7, -, st7⟩ := newO X0 hx hZ hown (hw _ (List.mem_of_getElem? (i := 0) rfl)) (hw _ (List.mem_of_getElem? (i := 1) rfl)) (hw _ (List.mem_of_getElem? (i := 2) rfl)) e0 (g := (mkF m 0 #[.val (.long q1), .second, .val (.long q2), .second, .val (.long q3), .second, .val (.long q4), .second, .val (.long q5), .second, .val (.long q6), .second, .unset, .unset, .unset, .unset, .unset, .unset, .unset, .unset, .unset, .unset, .unset, .unset, .unset, .unset, .unset, .unset, .unset] [])) rfl (hb hby at_0) (by decide) (by decide)
  obtain ⟨b7, g7⟩ : ∃ z, z = h0.size := ⟨_, rfl⟩
  rw [← g7] at A7 D7 st7
  have F_insert_b7 : Fld Z h7 b7 "com/example/nestwood/nestwood/session/StatementCounter$Counts" "insert" "J" (.long (0 : Int64)) := D7 (Or.inr (hw _ (List.mem_of_getElem? (i := 15) rfl))) (ty := .long) (by decide)
  have F_update_b7 : Fld Z h7 b7 "com/example/nestwood/nestwood/session/StatementCounter$Counts" "update" "J" (.long (0 : Int64)) := D7 (Or.inr (hw _ (List.mem_of_getElem? (i := 17) rfl))) (ty := .long) (by decide)
  have F_delete_b7 : Fld Z h7 b7 "com/example/nestwood/nestwood/session/StatementCounter$Counts" "delete" "J" (.long (0 : Int64)) := D7 (Or.inr (hw _ (List.mem_of_getElem? (i := 19) rfl))) (ty := .long) (by decide)
  have F_select_b7 : Fld Z h7 b7 "com/example/nestwood/nestwood/session/StatementCounter$Counts" "select" "J" (.long (0 : Int64)) := D7 (Or.inr (hw _ (List.mem_of_getElem? (i := 21) rfl))) (ty := .long) (by decide)
  have F_other_b7 : Fld Z h7 b7 "com/example/nestwood/nestwood/session/StatementCounter$Counts" "other" "J" (.long (0 : Int64)) := D7 (Or.inr (hw _ (List.mem_of_getElem? (i := 23) rfl))) (ty := .long) (by decide)
  have F_rowsFetched_b7 : Fld Z h7 b7 "com/example/nestwood/nestwood/session/StatementCounter$Counts" "rowsFetched" "J" (.long (0 : Int64)) := D7 (Or.inr (hw _ (List.mem_of_getElem? (i := 25) rfl))) (ty := .long) (by decide)
  have F_rowsUpdated_b7 : Fld Z h7 b7 "com/example/nestwood/nestwood/session/StatementCounter$Counts" "rowsUpdated" "J" (.long (0 : Int64)) := D7 (Or.inr (hw _ (List.mem_of_getElem? (i := 27) rfl))) (ty := .long) (by decide)
  have E_b7 := A7
  have g_b7 : n0 ≤ b7 := Nat.le_trans Z0 (Nat.le_of_eq g7.symm)
  have sz_b7 : h0.size ≤ b7 := (Nat.le_trans (Keep.refl h0 []).1 (Nat.le_of_eq g7.symm))
  have K7 : Keep h0 h7 [] := (Keep.refl h0 []).ext E7
  obtain ⟨_, _, ⟨T8, L8, k8, n8⟩, -, X8, ⟨Lc8, hQ8, l8, y8, z8⟩, st8⟩ := X7.specialBack hx (y := (⟨"com/example/nestwood/nestwood/session/StatementCounter$Counts", "<init>", "(JJJJJJJ)V"⟩ : MethodName)) rfl hown (mvT hZ (hw _ (List.mem_of_getElem? (i := 3) rfl))) (mvT hZ (hw _ (List.mem_of_getElem? (i := 4) rfl))) (mvT hZ (hw _ (List.mem_of_getElem? (i := 5) rfl))) (by decide) (backOf (W := 1) (rm1 l Z a0 hw [] b7 q1 q2 q3 q4 q5 q6 (q6 ^^^ q1) (.long (0 : Int64)) (.long (0 : Int64)) (.long (0 : Int64)) (.long (0 : Int64)) (.long (0 : Int64)) (.long (0 : Int64)) (.long (0 : Int64)) h7 n0 (Nat.le_trans Z0 K7.1) E_b7 F_insert_b7 g_b7 F_update_b7 F_delete_b7 F_select_b7 F_other_b7 F_rowsFetched_b7 F_rowsUpdated_b7) hZ (hw _ (List.mem_of_getElem? (i := 5) rfl)) (hw _ (List.mem_of_getElem? (i := 2) rfl)) (by decide) (by decide)) (g := (mkF m 18 #[.val (.long q1), .second, .val (.long q2), .second, .val (.long q3), .second, .val (.long q4), .second, .val (.long q5), .second, .val (.long q6), .second, .unset, .unset, .unset, .unset, .unset, .unset, .unset, .unset, .unset, .unset, .unset, .unset, .unset, .unset, .unset, .unset, .unset] [(.long (q6 ^^^ q1)), (.long q6), (.long q5), (.long q4), (.long q3), (.long q2), (.long q1), (.ref b7), (.ref b7)])) rfl (by rw [hml]; rfl) (Steps.refl _) (a := b7) (argsL := [(.long q1), (.long q2), (.long q3), (.long q4), (.long q5), (.long q6), (.long (q6 ^^^ q1))]) (rest := [(.ref b7)]) (lenOf pd_0_0 rfl) rfl (by show 2 * 0 + _ ≤ _; exact Nat.le_of_eq rfl) (hb hby at_18) (fun _ _ => ⟨rfl, e7, (by decide : 1 + 0 ≤ _), (by decide : 7 + 0 ≤ _)⟩)
  dsimp only [Pt.U, Pt.locs, Pt.cells, Pt.slots] at X8 l8 y8 z8 st8 hQ8
  subst l8 y8 z8
  obtain ⟨rfl, N8q, K8q, C8q⟩ := hQ8
  have N8 := Fr.app N0 N8q
  have H8 : Keep h0 T8.heap [] := K7.trans K8q (fun x hx => by cases List.mem_singleton.mp hx; exact Or.inr sz_b7)
  have C_b7_8 : own_Cn Z T8.heap b7 q1 q2 q3 q4 q5 q6 (q6 ^^^ q1) := C8q
  obtain ⟨T9, h9, X9, e9, E9, A9, D9, -, st9⟩ := newO X8 hx hZ hown (hw _ (List.mem_of_getElem? (i := 0) rfl)) (hw _ (List.mem_of_getElem? (i := 1) rfl)) (hw _ (List.mem_of_getElem? (i := 2) rfl)) rfl (g := (mkF m 23 #[.val (.long q1), .second, .val (.long q2), .second, .val (.long q3), .second, .val (.long q4), .second, .val (.long q5), .second, .val (.long q6), .second, .val (.ref b7), .unset, .unset, .unset, .unset, .unset, .unset, .unset, .unset, .unset, .unset, .unset, .unset, .unset, .unset, .unset, .unset] [])) rfl (hb hby at_23) (by decide) (by decide)
  obtain ⟨b9, g9⟩ : ∃ z, z = T8.heap.size := ⟨_, rfl⟩
  rw [← g9] at A9 D9 st9
  have F_insert_b9 : Fld Z h9 b9 "com/example/nestwood/nestwood/session/StatementCounter$Counts" "insert" "J" (.long (0 : Int64)) := D9 (Or.inr (hw _ (List.mem_of_getElem? (i := 15) rfl))) (ty := .long) (by decide)
  have F_update_b9 : Fld Z h9 b9 "com/example/nestwood/nestwood/session/StatementCounter$Counts" "update" "J" (.long (0 : Int64)) := D9 (Or.inr (hw _ (List.mem_of_getElem? (i := 17) rfl))) (ty := .long) (by decide)
  have F_delete_b9 : Fld Z h9 b9 "com/example/nestwood/nestwood/session/StatementCounter$Counts" "delete" "J" (.long (0 : Int64)) := D9 (Or.inr (hw _ (List.mem_of_getElem? (i := 19) rfl))) (ty := .long) (by decide)
  have F_select_b9 : Fld Z h9 b9 "com/example/nestwood/nestwood/session/StatementCounter$Counts" "select" "J" (.long (0 : Int64)) := D9 (Or.inr (hw _ (List.mem_of_getElem? (i := 21) rfl))) (ty := .long) (by decide)
  have F_other_b9 : Fld Z h9 b9 "com/example/nestwood/nestwood/session/StatementCounter$Counts" "other" "J" (.long (0 : Int64)) := D9 (Or.inr (hw _ (List.mem_of_getElem? (i := 23) rfl))) (ty := .long) (by decide)
  have F_rowsFetched_b9 : Fld Z h9 b9 "com/example/nestwood/nestwood/session/StatementCounter$Counts" "rowsFetched" "J" (.long (0 : Int64)) := D9 (Or.inr (hw _ (List.mem_of_getElem? (i := 25) rfl))) (ty := .long) (by decide)
  have F_rowsUpdated_b9 : Fld Z h9 b9 "com/example/nestwood/nestwood/session/StatementCounter$Counts" "rowsUpdated" "J" (.long (0 : Int64)) := D9 (Or.inr (hw _ (List.mem_of_getElem? (i := 27) rfl))) (ty := .long) (by decide)
  have E_b9 := A9
  have g_b9 : n0 ≤ b9 := Nat.le_trans (Nat.le_trans (Nat.le_trans Z0 E7.1) K8q.1) (Nat.le_of_eq g9.symm)
  have sz_b9 : h0.size ≤ b9 := (Nat.le_trans H8.1 (Nat.le_of_eq g9.symm))
  have K9 : Keep h0 h9 [] := H8.ext E9
  obtain ⟨_, _, ⟨T10, L10, k10, n10⟩, -, X10, ⟨Lc10, hQ10, l10, y10, z10⟩, st10⟩ := X9.specialBack hx (y := (⟨"com/example/nestwood/nestwood/session/StatementCounter$Counts", "<init>", "(JJJJJJJ)V"⟩ : MethodName)) rfl hown (mvT hZ (hw _ (List.mem_of_getElem? (i := 3) rfl))) (mvT hZ (hw _ (List.mem_of_getElem? (i := 4) rfl))) (mvT hZ (hw _ (List.mem_of_getElem? (i := 5) rfl))) (by decide) (backOf (W := 1) (rm1 l Z a0 hw [] b9 q2 q3 q4 q5 q1 (q6 ^^^ (-1 : Int64)) (q6 + q2) (.long (0 : Int64)) (.long (0 : Int64)) (.long (0 : Int64)) (.long (0 : Int64)) (.long (0 : Int64)) (.long (0 : Int64)) (.long (0 : Int64)) h9 n0 (Nat.le_trans Z0 K9.1) E_b9 F_insert_b9 g_b9 F_update_b9 F_delete_b9 F_select_b9 F_other_b9 F_rowsFetched_b9 F_rowsUpdated_b9) hZ (hw _ (List.mem_of_getElem? (i := 5) rfl)) (hw _ (List.mem_of_getElem? (i := 2) rfl)) (by decide) (by decide)) (g := (mkF m 45 #[.val (.long q1), .second, .val (.long q2), .second, .val (.long q3), .second, .val (.long q4), .second, .val (.long q5), .second, .val (.long q6), .second, .val (.ref b7), .unset, .unset, .unset, .unset, .unset, .unset, .unset, .unset, .unset, .unset, .unset, .unset, .unset, .unset, .unset, .unset] [(.long (q6 + q2)), (.long (q6 ^^^ (-1 : Int64))), (.long q1), (.long q5), (.long q4), (.long q3), (.long q2), (.ref b9), (.ref b9)])) rfl (by rw [hml]; rfl) (Steps.refl _) (a := b9) (argsL := [(.long q2), (.long q3), (.long q4), (.long q5), (.long q1), (.long (q6 ^^^ (-1 : Int64))), (.long (q6 + q2))]) (rest := [(.ref b9)]) (lenOf pd_0_0 rfl) rfl (by show 2 * 0 + _ ≤ _; exact Nat.le_of_eq rfl) (hb hby at_45) (fun _ _ => ⟨rfl, e9, (by decide : 2 + 0 ≤ _), (by decide : 14 + 0 ≤ _)⟩)
  dsimp only [Pt.U, Pt.locs, Pt.cells, Pt.slots] at X10 l10 y10 z10 st10 hQ10
  subst l10 y10 z10
  obtain ⟨rfl, N10q, K10q, C10q⟩ := hQ10
  have N10 := Fr.app N8 N10q
  have H10 : Keep h0 T10.heap [] := K9.trans K10q (fun x hx => by cases List.mem_singleton.mp hx; exact Or.inr sz_b9)
  have C_b7_10 : own_Cn Z T10.heap b7 q1 q2 q3 q4 q5 q6 (q6 ^^^ q1) := own_keep (own_ext C_b7_8 E9) K10q (own_ni (by rw [g9]; exact C_b7_8.1.lt))
  have C_b9_10 : own_Cn Z T10.heap b9 q2 q3 q4 q5 q1 (q6 ^^^ (-1 : Int64)) (q6 + q2) := C10q
  obtain ⟨T11, h11, X11, e11, E11, A11, D11, -, st11⟩ := newO X10 hx hZ hown (hw _ (List.mem_of_getElem? (i := 0) rfl)) (hw _ (List.mem_of_getElem? (i := 1) rfl)) (hw _ (List.mem_of_getElem? (i := 2) rfl)) rfl (g := (mkF m 50 #[.val (.long q1), .second, .val (.long q2), .second, .val (.long q3), .second, .val (.long q4), .second, .val (.long q5), .second, .val (.long q6), .second, .val (.ref b7), .val (.ref b9), .unset, .unset, .unset, .unset, .unset, .unset, .unset, .unset, .unset, .unset, .unset, .unset, .unset, .unset, .unset] [])) rfl (hb hby at_50) (by decide) (by decide)
  obtain ⟨b11, g11⟩ : ∃ z, z = T10.heap.size := ⟨_, rfl⟩
  rw [← g11] at A11 D11 st11
  have F_insert_b11 : Fld Z h11 b11 "com/example/nestwood/nestwood/session/StatementCounter$Counts" "insert" "J" (.long (0 : Int64)) := D11 (Or.inr (hw _ (List.mem_of_getElem? (i := 15) rfl))) (ty := .long) (by decide)
  have F_update_b11 : Fld Z h11 b11 "com/example/nestwood/nestwood/session/StatementCounter$Counts" "update" "J" (.long (0 : Int64)) := D11 (Or.inr (hw _ (List.mem_of_getElem? (i := 17) rfl))) (ty := .long) (by decide)
  have F_delete_b11 : Fld Z h11 b11 "com/example/nestwood/nestwood/session/StatementCounter$Counts" "delete" "J" (.long (0 : Int64)) := D11 (Or.inr (hw _ (List.mem_of_getElem? (i := 19) rfl))) (ty := .long) (by decide)
  have F_select_b11 : Fld Z h11 b11 "com/example/nestwood/nestwood/session/StatementCounter$Counts" "select" "J" (.long (0 : Int64)) := D11 (Or.inr (hw _ (List.mem_of_getElem? (i := 21) rfl))) (ty := .long) (by decide)
  have F_other_b11 : Fld Z h11 b11 "com/example/nestwood/nestwood/session/StatementCounter$Counts" "other" "J" (.long (0 : Int64)) := D11 (Or.inr (hw _ (List.mem_of_getElem? (i := 23) rfl))) (ty := .long) (by decide)
  have F_rowsFetched_b11 : Fld Z h11 b11 "com/example/nestwood/nestwood/session/StatementCounter$Counts" "rowsFetched" "J" (.long (0 : Int64)) := D11 (Or.inr (hw _ (List.mem_of_getElem? (i := 25) rfl))) (ty := .long) (by decide)
  have F_rowsUpdated_b11 : Fld Z h11 b11 "com/example/nestwood/nestwood/session/StatementCounter$Counts" "rowsUpdated" "J" (.long (0 : Int64)) := D11 (Or.inr (hw _ (List.mem_of_getElem? (i := 27) rfl))) (ty := .long) (by decide)
  have E_b11 := A11
  have g_b11 : n0 ≤ b11 := Nat.le_trans (Nat.le_trans (Nat.le_trans (Nat.le_trans (Nat.le_trans Z0 E7.1) K8q.1) E9.1) K10q.1) (Nat.le_of_eq g11.symm)
  have sz_b11 : h0.size ≤ b11 := (Nat.le_trans H10.1 (Nat.le_of_eq g11.symm))
  have K11 : Keep h0 h11 [] := H10.ext E11
  obtain ⟨_, _, ⟨T12, L12, k12, n12⟩, -, X12, ⟨Lc12, hQ12, l12, y12, z12⟩, st12⟩ := X11.specialBack hx (y := (⟨"com/example/nestwood/nestwood/session/StatementCounter$Counts", "<init>", "(JJJJJJJ)V"⟩ : MethodName)) rfl hown (mvT hZ (hw _ (List.mem_of_getElem? (i := 3) rfl))) (mvT hZ (hw _ (List.mem_of_getElem? (i := 4) rfl))) (mvT hZ (hw _ (List.mem_of_getElem? (i := 5) rfl))) (by decide) (backOf (W := 1) (rm1 l Z a0 hw [] b11 (1 : Int64) (1 : Int64) (1 : Int64) (1 : Int64) (1 : Int64) q6 q5 (.long (0 : Int64)) (.long (0 : Int64)) (.long (0 : Int64)) (.long (0 : Int64)) (.long (0 : Int64)) (.long (0 : Int64)) (.long (0 : Int64)) h11 n0 (Nat.le_trans Z0 K11.1) E_b11 F_insert_b11 g_b11 F_update_b11 F_delete_b11 F_select_b11 F_other_b11 F_rowsFetched_b11 F_rowsUpdated_b11) hZ (hw _ (List.mem_of_getElem? (i := 5) rfl)) (hw _ (List.mem_of_getElem? (i := 2) rfl)) (by decide) (by decide)) (g := (mkF m 63 #[.val (.long q1), .second, .val (.long q2), .second, .val (.long q3), .second, .val (.long q4), .second, .val (.long q5), .second, .val (.long q6), .second, .val (.ref b7), .val (.ref b9), .unset, .unset, .unset, .unset, .unset, .unset, .unset, .unset, .unset, .unset, .unset, .unset, .unset, .unset, .unset] [(.long q5), (.long q6), (.long (1 : Int64)), (.long (1 : Int64)), (.long (1 : Int64)), (.long (1 : Int64)), (.long (1 : Int64)), (.ref b11), (.ref b11)])) rfl (by rw [hml]; rfl) (Steps.refl _) (a := b11) (argsL := [(.long (1 : Int64)), (.long (1 : Int64)), (.long (1 : Int64)), (.long (1 : Int64)), (.long (1 : Int64)), (.long q6), (.long q5)]) (rest := [(.ref b11)]) (lenOf pd_0_0 rfl) rfl (by show 2 * 0 + _ ≤ _; exact Nat.le_of_eq rfl) (hb hby at_63) (fun _ _ => ⟨rfl, e11, (by decide : 3 + 0 ≤ _), (by decide : 21 + 0 ≤ _)⟩)
  dsimp only [Pt.U, Pt.locs, Pt.cells, Pt.slots] at X12 l12 y12 z12 st12 hQ12
  subst l12 y12 z12
  obtain ⟨rfl, N12q, K12q, C12q⟩ := hQ12
  have N12 := Fr.app N10 N12q
  have H12 : Keep h0 T12.heap [] := K11.trans K12q (fun x hx => by cases List.mem_singleton.mp hx; exact Or.inr sz_b11)
  have C_b7_12 : own_Cn Z T12.heap b7 q1 q2 q3 q4 q5 q6 (q6 ^^^ q1) := own_keep (own_ext C_b7_10 E11) K12q (own_ni (by rw [g11]; exact C_b7_10.1.lt))
  have C_b9_12 : own_Cn Z T12.heap b9 q2 q3 q4 q5 q1 (q6 ^^^ (-1 : Int64)) (q6 + q2) := own_keep (own_ext C_b9_10 E11) K12q (own_ni (by rw [g11]; exact C_b9_10.1.lt))
  have C_b11_12 : own_Cn Z T12.heap b11 (1 : Int64) (1 : Int64) (1 : Int64) (1 : Int64) (1 : Int64) q6 q5 := C12q
  obtain ⟨T13, h13, X13, e13, E13, A13, D13, -, st13⟩ := newO X12 hx hZ hown (hw _ (List.mem_of_getElem? (i := 0) rfl)) (hw _ (List.mem_of_getElem? (i := 1) rfl)) (hw _ (List.mem_of_getElem? (i := 2) rfl)) rfl (g := (mkF m 68 #[.val (.long q1), .second, .val (.long q2), .second, .val (.long q3), .second, .val (.long q4), .second, .val (.long q5), .second, .val (.long q6), .second, .val (.ref b7), .val (.ref b9), .val (.ref b11), .unset, .unset, .unset, .unset, .unset, .unset, .unset, .unset, .unset, .unset, .unset, .unset, .unset, .unset] [])) rfl (hb hby at_68) (by decide) (by decide)
  obtain ⟨b13, g13⟩ : ∃ z, z = T12.heap.size := ⟨_, rfl⟩
  rw [← g13] at A13 D13 st13
  have F_insert_b13 : Fld Z h13 b13 "com/example/nestwood/nestwood/session/StatementCounter$Counts" "insert" "J" (.long (0 : Int64)) := D13 (Or.inr (hw _ (List.mem_of_getElem? (i := 15) rfl))) (ty := .long) (by decide)
  have F_update_b13 : Fld Z h13 b13 "com/example/nestwood/nestwood/session/StatementCounter$Counts" "update" "J" (.long (0 : Int64)) := D13 (Or.inr (hw _ (List.mem_of_getElem? (i := 17) rfl))) (ty := .long) (by decide)
  have F_delete_b13 : Fld Z h13 b13 "com/example/nestwood/nestwood/session/StatementCounter$Counts" "delete" "J" (.long (0 : Int64)) := D13 (Or.inr (hw _ (List.mem_of_getElem? (i := 19) rfl))) (ty := .long) (by decide)
  have F_select_b13 : Fld Z h13 b13 "com/example/nestwood/nestwood/session/StatementCounter$Counts" "select" "J" (.long (0 : Int64)) := D13 (Or.inr (hw _ (List.mem_of_getElem? (i := 21) rfl))) (ty := .long) (by decide)
  have F_other_b13 : Fld Z h13 b13 "com/example/nestwood/nestwood/session/StatementCounter$Counts" "other" "J" (.long (0 : Int64)) := D13 (Or.inr (hw _ (List.mem_of_getElem? (i := 23) rfl))) (ty := .long) (by decide)
  have F_rowsFetched_b13 : Fld Z h13 b13 "com/example/nestwood/nestwood/session/StatementCounter$Counts" "rowsFetched" "J" (.long (0 : Int64)) := D13 (Or.inr (hw _ (List.mem_of_getElem? (i := 25) rfl))) (ty := .long) (by decide)
  have F_rowsUpdated_b13 : Fld Z h13 b13 "com/example/nestwood/nestwood/session/StatementCounter$Counts" "rowsUpdated" "J" (.long (0 : Int64)) := D13 (Or.inr (hw _ (List.mem_of_getElem? (i := 27) rfl))) (ty := .long) (by decide)
  have E_b13 := A13
  have g_b13 : n0 ≤ b13 := Nat.le_trans (Nat.le_trans (Nat.le_trans (Nat.le_trans (Nat.le_trans (Nat.le_trans (Nat.le_trans Z0 E7.1) K8q.1) E9.1) K10q.1) E11.1) K12q.1) (Nat.le_of_eq g13.symm)
  have sz_b13 : h0.size ≤ b13 := (Nat.le_trans H12.1 (Nat.le_of_eq g13.symm))
  have K13 : Keep h0 h13 [] := H12.ext E13
  obtain ⟨_, _, ⟨T14, L14, k14, n14⟩, -, X14, ⟨Lc14, hQ14, l14, y14, z14⟩, st14⟩ := X13.specialBack hx (y := (⟨"com/example/nestwood/nestwood/session/StatementCounter$Counts", "<init>", "(JJJJJJJ)V"⟩ : MethodName)) rfl hown (mvT hZ (hw _ (List.mem_of_getElem? (i := 3) rfl))) (mvT hZ (hw _ (List.mem_of_getElem? (i := 4) rfl))) (mvT hZ (hw _ (List.mem_of_getElem? (i := 5) rfl))) (by decide) (backOf (W := 1) (rm1 l Z a0 hw [] b13 q6 q6 q6 q6 q6 q1 q2 (.long (0 : Int64)) (.long (0 : Int64)) (.long (0 : Int64)) (.long (0 : Int64)) (.long (0 : Int64)) (.long (0 : Int64)) (.long (0 : Int64)) h13 n0 (Nat.le_trans Z0 K13.1) E_b13 F_insert_b13 g_b13 F_update_b13 F_delete_b13 F_select_b13 F_other_b13 F_rowsFetched_b13 F_rowsUpdated_b13) hZ (hw _ (List.mem_of_getElem? (i := 5) rfl)) (hw _ (List.mem_of_getElem? (i := 2) rfl)) (by decide) (by decide)) (g := (mkF m 84 #[.val (.long q1), .second, .val (.long q2), .second, .val (.long q3), .second, .val (.long q4), .second, .val (.long q5), .second, .val (.long q6), .second, .val (.ref b7), .val (.ref b9), .val (.ref b11), .unset, .unset, .unset, .unset, .unset, .unset, .unset, .unset, .unset, .unset, .unset, .unset, .unset, .unset] [(.long q2), (.long q1), (.long q6), (.long q6), (.long q6), (.long q6), (.long q6), (.ref b13), (.ref b13)])) rfl (by rw [hml]; rfl) (Steps.refl _) (a := b13) (argsL := [(.long q6), (.long q6), (.long q6), (.long q6), (.long q6), (.long q1), (.long q2)]) (rest := [(.ref b13)]) (lenOf pd_0_0 rfl) rfl (by show 2 * 0 + _ ≤ _; exact Nat.le_of_eq rfl) (hb hby at_84) (fun _ _ => ⟨rfl, e13, (by decide : 4 + 0 ≤ _), (by decide : 28 + 0 ≤ _)⟩)
  dsimp only [Pt.U, Pt.locs, Pt.cells, Pt.slots] at X14 l14 y14 z14 st14 hQ14
  subst l14 y14 z14
  obtain ⟨rfl, N14q, K14q, C14q⟩ := hQ14
  have N14 := Fr.app N12 N14q
  have H14 : Keep h0 T14.heap [] := K13.trans K14q (fun x hx => by cases List.mem_singleton.mp hx; exact Or.inr sz_b13)
  have C_b7_14 : own_Cn Z T14.heap b7 q1 q2 q3 q4 q5 q6 (q6 ^^^ q1) := own_keep (own_ext C_b7_12 E13) K14q (own_ni (by rw [g13]; exact C_b7_12.1.lt))
  have C_b9_14 : own_Cn Z T14.heap b9 q2 q3 q4 q5 q1 (q6 ^^^ (-1 : Int64)) (q6 + q2) := own_keep (own_ext C_b9_12 E13) K14q (own_ni (by rw [g13]; exact C_b9_12.1.lt))
  have C_b11_14 : own_Cn Z T14.heap b11 (1 : Int64) (1 : Int64) (1 : Int64) (1 : Int64) (1 : Int64) q6 q5 := own_keep (own_ext C_b11_12 E13) K14q (own_ni (by rw [g13]; exact C_b11_12.1.lt))
  have C_b13_14 : own_Cn Z T14.heap b13 q6 q6 q6 q6 q6 q1 q2 := C14q
  obtain ⟨cq15, kq15, q15a, q15b, q15c⟩ := isOf hZ rfl C_b7_14.1
  obtain ⟨_, _, ⟨T15, L15, k15, n15⟩, -, X15, ⟨Lc15, hQ15, l15, y15, z15⟩, st15⟩ := X14.virtualBack hx (y := (⟨"com/example/nestwood/nestwood/session/StatementCounter$Counts", "total", "()J"⟩ : MethodName)) (z := (⟨"com/example/nestwood/nestwood/session/StatementCounter$Counts", "total", "()J"⟩ : MethodName)) hown (mvT hZ (hw _ (List.mem_of_getElem? (i := 29) rfl))) (mvT hZ (hw _ (List.mem_of_getElem? (i := 30) rfl))) (notFace_of_selects (args := #[]) (mvT hZ (hw _ (List.mem_of_getElem? (i := 32) rfl)))) (mvT hZ (hw _ (List.mem_of_getElem? (i := 32) rfl))) (mvT hZ (hw _ (List.mem_of_getElem? (i := 31) rfl))) (by decide) (backOf (W := 0) (rm4 l Z a0 hw [] b7 q1 q2 q3 q4 q5 T14.heap n0 (Nat.le_trans Z0 H14.1) C_b7_14.2.1 C_b7_14.2.2.1 C_b7_14.2.2.2.1 C_b7_14.2.2.2.2.1 C_b7_14.2.2.2.2.2.1) hZ (hw _ (List.mem_of_getElem? (i := 33) rfl)) (hw _ (List.mem_of_getElem? (i := 2) rfl)) (by decide) (by decide)) q15a q15c (g := (mkF m 91 #[.val (.long q1), .second, .val (.long q2), .second, .val (.long q3), .second, .val (.long q4), .second, .val (.long q5), .second, .val (.long q6), .second, .val (.ref b7), .val (.ref b9), .val (.ref b11), .val (.ref b13), .unset, .unset, .unset, .unset, .unset, .unset, .unset, .unset, .unset, .unset, .unset, .unset, .unset] [(.ref b7)])) rfl (by rw [hml]; rfl) (Steps.refl _) (argsL := []) (rest := []) (lenOf pd_0_2 rfl) rfl (by show 2 * 0 + _ ≤ _; exact Nat.le_of_eq rfl) (hb hby at_91) (fun _ _ => ⟨rfl, rfl, (by decide : 4 + 0 ≤ _), (by decide : 28 + 0 ≤ _)⟩)
  dsimp only [Pt.U, Pt.locs, Pt.cells, Pt.slots] at X15 l15 y15 z15 st15 hQ15
  subst l15 y15 z15
  obtain ⟨rfl, N15q, hs15⟩ := hQ15
  have N15 := Fr.app N14 N15q
  have H15 : Keep h0 T15.heap [] := by rw [hs15]; exact H14
  have C_b7_15 : own_Cn Z T15.heap b7 q1 q2 q3 q4 q5 q6 (q6 ^^^ q1) := by rw [hs15]; exact C_b7_14
  have C_b9_15 : own_Cn Z T15.heap b9 q2 q3 q4 q5 q1 (q6 ^^^ (-1 : Int64)) (q6 + q2) := by rw [hs15]; exact C_b9_14
  have C_b11_15 : own_Cn Z T15.heap b11 (1 : Int64) (1 : Int64) (1 : Int64) (1 : Int64) (1 : Int64) q6 q5 := by rw [hs15]; exact C_b11_14
  have C_b13_15 : own_Cn Z T15.heap b13 q6 q6 q6 q6 q6 q1 q2 := by rw [hs15]; exact C_b13_14
  obtain ⟨cq16, kq16, q16a, q16b, q16c⟩ := isOf hZ rfl C_b9_15.1
  obtain ⟨_, _, ⟨T16, L16, k16, n16⟩, -, X16, ⟨Lc16, hQ16, l16, y16, z16⟩, st16⟩ := X15.virtualBack hx (y := (⟨"com/example/nestwood/nestwood/session/StatementCounter$Counts", "total", "()J"⟩ : MethodName)) (z := (⟨"com/example/nestwood/nestwood/session/StatementCounter$Counts", "total", "()J"⟩ : MethodName)) hown (mvT hZ (hw _ (List.mem_of_getElem? (i := 29) rfl))) (mvT hZ (hw _ (List.mem_of_getElem? (i := 30) rfl))) (notFace_of_selects (args := #[]) (mvT hZ (hw _ (List.mem_of_getElem? (i := 32) rfl)))) (mvT hZ (hw _ (List.mem_of_getElem? (i := 32) rfl))) (mvT hZ (hw _ (List.mem_of_getElem? (i := 31) rfl))) (by decide) (backOf (W := 0) (rm4 l Z a0 hw [] b9 q2 q3 q4 q5 q1 T15.heap n0 (Nat.le_trans Z0 H15.1) C_b9_15.2.1 C_b9_15.2.2.1 C_b9_15.2.2.2.1 C_b9_15.2.2.2.2.1 C_b9_15.2.2.2.2.2.1) hZ (hw _ (List.mem_of_getElem? (i := 33) rfl)) (hw _ (List.mem_of_getElem? (i := 2) rfl)) (by decide) (by decide)) q16a q16c (g := (mkF m 98 #[.val (.long q1), .second, .val (.long q2), .second, .val (.long q3), .second, .val (.long q4), .second, .val (.long q5), .second, .val (.long q6), .second, .val (.ref b7), .val (.ref b9), .val (.ref b11), .val (.ref b13), .val (.long (own_tot q1 q2 q3 q4 q5)), .second, .unset, .unset, .unset, .unset, .unset, .unset, .unset, .unset, .unset, .unset, .unset] [(.ref b9)])) rfl (by rw [hml]; rfl) (Steps.refl _) (argsL := []) (rest := []) (lenOf pd_0_2 rfl) rfl (by show 2 * 0 + _ ≤ _; exact Nat.le_of_eq rfl) (hb hby at_98) (fun _ _ => ⟨rfl, rfl, (by decide : 4 + 0 ≤ _), (by decide : 28 + 0 ≤ _)⟩)
  dsimp only [Pt.U, Pt.locs, Pt.cells, Pt.slots] at X16 l16 y16 z16 st16 hQ16
  subst l16 y16 z16
  obtain ⟨rfl, N16q, hs16⟩ := hQ16
  have N16 := Fr.app N15 N16q
  have H16 : Keep h0 T16.heap [] := by rw [hs16]; exact H15
  have C_b7_16 : own_Cn Z T16.heap b7 q1 q2 q3 q4 q5 q6 (q6 ^^^ q1) := by rw [hs16]; exact C_b7_15
  have C_b9_16 : own_Cn Z T16.heap b9 q2 q3 q4 q5 q1 (q6 ^^^ (-1 : Int64)) (q6 + q2) := by rw [hs16]; exact C_b9_15
  have C_b11_16 : own_Cn Z T16.heap b11 (1 : Int64) (1 : Int64) (1 : Int64) (1 : Int64) (1 : Int64) q6 q5 := by rw [hs16]; exact C_b11_15
  have C_b13_16 : own_Cn Z T16.heap b13 q6 q6 q6 q6 q6 q1 q2 := by rw [hs16]; exact C_b13_15
  obtain ⟨cq17, kq17, q17a, q17b, q17c⟩ := isOf hZ rfl C_b11_16.1
  obtain ⟨_, _, ⟨T17, L17, k17, n17⟩, -, X17, ⟨Lc17, hQ17, l17, y17, z17⟩, st17⟩ := X16.virtualBack hx (y := (⟨"com/example/nestwood/nestwood/session/StatementCounter$Counts", "total", "()J"⟩ : MethodName)) (z := (⟨"com/example/nestwood/nestwood/session/StatementCounter$Counts", "total", "()J"⟩ : MethodName)) hown (mvT hZ (hw _ (List.mem_of_getElem? (i := 29) rfl))) (mvT hZ (hw _ (List.mem_of_getElem? (i := 30) rfl))) (notFace_of_selects (args := #[]) (mvT hZ (hw _ (List.mem_of_getElem? (i := 32) rfl)))) (mvT hZ (hw _ (List.mem_of_getElem? (i := 32) rfl))) (mvT hZ (hw _ (List.mem_of_getElem? (i := 31) rfl))) (by decide) (backOf (W := 0) (rm4 l Z a0 hw [] b11 (1 : Int64) (1 : Int64) (1 : Int64) (1 : Int64) (1 : Int64) T16.heap n0 (Nat.le_trans Z0 H16.1) C_b11_16.2.1 C_b11_16.2.2.1 C_b11_16.2.2.2.1 C_b11_16.2.2.2.2.1 C_b11_16.2.2.2.2.2.1) hZ (hw _ (List.mem_of_getElem? (i := 33) rfl)) (hw _ (List.mem_of_getElem? (i := 2) rfl)) (by decide) (by decide)) q17a q17c (g := (mkF m 105 #[.val (.long q1), .second, .val (.long q2), .second, .val (.long q3), .second, .val (.long q4), .second, .val (.long q5), .second, .val (.long q6), .second, .val (.ref b7), .val (.ref b9), .val (.ref b11), .val (.ref b13), .val (.long (own_tot q1 q2 q3 q4 q5)), .second, .val (.long (own_tot q2 q3 q4 q5 q1)), .second, .unset, .unset, .unset, .unset, .unset, .unset, .unset, .unset, .unset] [(.ref b11)])) rfl (by rw [hml]; rfl) (Steps.refl _) (argsL := []) (rest := []) (lenOf pd_0_2 rfl) rfl (by show 2 * 0 + _ ≤ _; exact Nat.le_of_eq rfl) (hb hby at_105) (fun _ _ => ⟨rfl, rfl, (by decide : 4 + 0 ≤ _), (by decide : 28 + 0 ≤ _)⟩)
  dsimp only [Pt.U, Pt.locs, Pt.cells, Pt.slots] at X17 l17 y17 z17 st17 hQ17
  subst l17 y17 z17
  obtain ⟨rfl, N17q, hs17⟩ := hQ17
  have N17 := Fr.app N16 N17q
  have H17 : Keep h0 T17.heap [] := by rw [hs17]; exact H16
  have C_b7_17 : own_Cn Z T17.heap b7 q1 q2 q3 q4 q5 q6 (q6 ^^^ q1) := by rw [hs17]; exact C_b7_16
  have C_b9_17 : own_Cn Z T17.heap b9 q2 q3 q4 q5 q1 (q6 ^^^ (-1 : Int64)) (q6 + q2) := by rw [hs17]; exact C_b9_16
  have C_b11_17 : own_Cn Z T17.heap b11 (1 : Int64) (1 : Int64) (1 : Int64) (1 : Int64) (1 : Int64) q6 q5 := by rw [hs17]; exact C_b11_16
  have C_b13_17 : own_Cn Z T17.heap b13 q6 q6 q6 q6 q6 q1 q2 := by rw [hs17]; exact C_b13_16
  obtain ⟨cq18, kq18, q18a, q18b, q18c⟩ := isOf hZ rfl C_b13_17.1
  obtain ⟨_, _, ⟨T18, L18, k18, n18⟩, -, X18, ⟨Lc18, hQ18, l18, y18, z18⟩, st18⟩ := X17.virtualBack hx (y := (⟨"com/example/nestwood/nestwood/session/StatementCounter$Counts", "total", "()J"⟩ : MethodName)) (z := (⟨"com/example/nestwood/nestwood/session/StatementCounter$Counts", "total", "()J"⟩ : MethodName)) hown (mvT hZ (hw _ (List.mem_of_getElem? (i := 29) rfl))) (mvT hZ (hw _ (List.mem_of_getElem? (i := 30) rfl))) (notFace_of_selects (args := #[]) (mvT hZ (hw _ (List.mem_of_getElem? (i := 32) rfl)))) (mvT hZ (hw _ (List.mem_of_getElem? (i := 32) rfl))) (mvT hZ (hw _ (List.mem_of_getElem? (i := 31) rfl))) (by decide) (backOf (W := 0) (rm4 l Z a0 hw [] b13 q6 q6 q6 q6 q6 T17.heap n0 (Nat.le_trans Z0 H17.1) C_b13_17.2.1 C_b13_17.2.2.1 C_b13_17.2.2.2.1 C_b13_17.2.2.2.2.1 C_b13_17.2.2.2.2.2.1) hZ (hw _ (List.mem_of_getElem? (i := 33) rfl)) (hw _ (List.mem_of_getElem? (i := 2) rfl)) (by decide) (by decide)) q18a q18c (g := (mkF m 112 #[.val (.long q1), .second, .val (.long q2), .second, .val (.long q3), .second, .val (.long q4), .second, .val (.long q5), .second, .val (.long q6), .second, .val (.ref b7), .val (.ref b9), .val (.ref b11), .val (.ref b13), .val (.long (own_tot q1 q2 q3 q4 q5)), .second, .val (.long (own_tot q2 q3 q4 q5 q1)), .second, .val (.long (own_tot (1 : Int64) (1 : Int64) (1 : Int64) (1 : Int64) (1 : Int64))), .second, .unset, .unset, .unset, .unset, .unset, .unset, .unset] [(.ref b13)])) rfl (by rw [hml]; rfl) (Steps.refl _) (argsL := []) (rest := []) (lenOf pd_0_2 rfl) rfl (by show 2 * 0 + _ ≤ _; exact Nat.le_of_eq rfl) (hb hby at_112) (fun _ _ => ⟨rfl, rfl, (by decide : 4 + 0 ≤ _), (by decide : 28 + 0 ≤ _)⟩)
  dsimp only [Pt.U, Pt.locs, Pt.cells, Pt.slots] at X18 l18 y18 z18 st18 hQ18
  subst l18 y18 z18
  obtain ⟨rfl, N18q, hs18⟩ := hQ18
  have N18 := Fr.app N17 N18q
  have H18 : Keep h0 T18.heap [] := by rw [hs18]; exact H17
  have C_b7_18 : own_Cn Z T18.heap b7 q1 q2 q3 q4 q5 q6 (q6 ^^^ q1) := by rw [hs18]; exact C_b7_17
  have C_b9_18 : own_Cn Z T18.heap b9 q2 q3 q4 q5 q1 (q6 ^^^ (-1 : Int64)) (q6 + q2) := by rw [hs18]; exact C_b9_17
  have C_b11_18 : own_Cn Z T18.heap b11 (1 : Int64) (1 : Int64) (1 : Int64) (1 : Int64) (1 : Int64) q6 q5 := by rw [hs18]; exact C_b11_17
  have C_b13_18 : own_Cn Z T18.heap b13 q6 q6 q6 q6 q6 q1 q2 := by rw [hs18]; exact C_b13_17
  obtain ⟨cq19, kq19, q19a, q19b, q19c⟩ := isOf hZ rfl C_b7_18.1
  obtain ⟨_, _, ⟨T19, L19, k19, n19⟩, -, X19, ⟨Lc19, hQ19, l19, y19, z19⟩, st19⟩ := X18.virtualBack hx (y := (⟨"com/example/nestwood/nestwood/session/StatementCounter$Counts", "since", "(Lcom/example/nestwood/nestwood/session/StatementCounter$Counts;)Lcom/example/nestwood/nestwood/session/StatementCounter$Counts;"⟩ : MethodName)) (z := (⟨"com/example/nestwood/nestwood/session/StatementCounter$Counts", "since", "(Lcom/example/nestwood/nestwood/session/StatementCounter$Counts;)Lcom/example/nestwood/nestwood/session/StatementCounter$Counts;"⟩ : MethodName)) hown (mvT hZ (hw _ (List.mem_of_getElem? (i := 34) rfl))) (mvT hZ (hw _ (List.mem_of_getElem? (i := 35) rfl))) (notFace_of_selects (args := #[]) (mvT hZ (hw _ (List.mem_of_getElem? (i := 37) rfl)))) (mvT hZ (hw _ (List.mem_of_getElem? (i := 37) rfl))) (mvT hZ (hw _ (List.mem_of_getElem? (i := 36) rfl))) (by decide) (backOf (W := 0) (rm5 l Z a0 hw [] b7 b13 q1 q6 q2 q6 q3 q6 q4 q6 q5 q6 q6 q1 (q6 ^^^ q1) q2 T18.heap n0 (Nat.le_trans Z0 H18.1) C_b7_18.2.1 C_b13_18.2.1 C_b7_18.2.2.1 C_b13_18.2.2.1 C_b7_18.2.2.2.1 C_b13_18.2.2.2.1 C_b7_18.2.2.2.2.1 C_b13_18.2.2.2.2.1 C_b7_18.2.2.2.2.2.1 C_b13_18.2.2.2.2.2.1 C_b7_18.2.2.2.2.2.2.1 C_b13_18.2.2.2.2.2.2.1 C_b7_18.2.2.2.2.2.2.2 C_b13_18.2.2.2.2.2.2.2) hZ (hw _ (List.mem_of_getElem? (i := 38) rfl)) (hw _ (List.mem_of_getElem? (i := 2) rfl)) (by decide) (by decide)) q19a q19c (g := (mkF m 121 #[.val (.long q1), .second, .val (.long q2), .second, .val (.long q3), .second, .val (.long q4), .second, .val (.long q5), .second, .val (.long q6), .second, .val (.ref b7), .val (.ref b9), .val (.ref b11), .val (.ref b13), .val (.long (own_tot q1 q2 q3 q4 q5)), .second, .val (.long (own_tot q2 q3 q4 q5 q1)), .second, .val (.long (own_tot (1 : Int64) (1 : Int64) (1 : Int64) (1 : Int64) (1 : Int64))), .second, .val (.long (own_tot q6 q6 q6 q6 q6)), .second, .unset, .unset, .unset, .unset, .unset] [(.ref b13), (.ref b7)])) rfl (by rw [hml]; rfl) (Steps.refl _) (argsL := [(.ref b13)]) (rest := []) (lenOf pd_0_3 rfl) rfl (by show 2 * 0 + _ ≤ _; exact Nat.le_of_eq rfl) (hb hby at_121) (fun _ _ => ⟨rfl, rfl, (by decide : 4 + 1 ≤ _), (by decide : 28 + 7 ≤ _)⟩)
  dsimp only [Pt.U, Pt.locs, Pt.cells, Pt.slots] at X19 l19 y19 z19 st19 hQ19
  subst l19 y19 z19
  obtain ⟨r19, rfl, N19q, K19q, C_r_19⟩ := hQ19
  have N19 := Fr.app N18 N19q
  obtain ⟨cq20, kq20, q20a, q20b, q20c⟩ := isOf hZ rfl C_r_19.1
  obtain ⟨_, _, ⟨T20, L20, k20, n20⟩, -, X20, ⟨Lc20, hQ20, l20, y20, z20⟩, st20⟩ := X19.virtualBack hx (y := (⟨"com/example/nestwood/nestwood/session/StatementCounter$Counts", "total", "()J"⟩ : MethodName)) (z := (⟨"com/example/nestwood/nestwood/session/StatementCounter$Counts", "total", "()J"⟩ : MethodName)) hown (mvT hZ (hw _ (List.mem_of_getElem? (i := 29) rfl))) (mvT hZ (hw _ (List.mem_of_getElem? (i := 30) rfl))) (notFace_of_selects (args := #[]) (mvT hZ (hw _ (List.mem_of_getElem? (i := 32) rfl)))) (mvT hZ (hw _ (List.mem_of_getElem? (i := 32) rfl))) (mvT hZ (hw _ (List.mem_of_getElem? (i := 31) rfl))) (by decide) (backOf (W := 0) (rm4 l Z a0 hw [] r19 (q1 - q6) (q2 - q6) (q3 - q6) (q4 - q6) (q5 - q6) T19.heap n0 (Nat.le_trans (Nat.le_trans Z0 H18.1) K19q.1) C_r_19.2.1 C_r_19.2.2.1 C_r_19.2.2.2.1 C_r_19.2.2.2.2.1 C_r_19.2.2.2.2.2.1) hZ (hw _ (List.mem_of_getElem? (i := 33) rfl)) (hw _ (List.mem_of_getElem? (i := 2) rfl)) (by decide) (by decide)) q20a q20c (g := (mkF m 124 #[.val (.long q1), .second, .val (.long q2), .second, .val (.long q3), .second, .val (.long q4), .second, .val (.long q5), .second, .val (.long q6), .second, .val (.ref b7), .val (.ref b9), .val (.ref b11), .val (.ref b13), .val (.long (own_tot q1 q2 q3 q4 q5)), .second, .val (.long (own_tot q2 q3 q4 q5 q1)), .second, .val (.long (own_tot (1 : Int64) (1 : Int64) (1 : Int64) (1 : Int64) (1 : Int64))), .second, .val (.long (own_tot q6 q6 q6 q6 q6)), .second, .unset, .unset, .unset, .unset, .unset] [(.ref r19)])) rfl (by rw [hml]; rfl) (Steps.refl _) (argsL := []) (rest := []) (lenOf pd_0_2 rfl) rfl (by show 2 * 0 + _ ≤ _; exact Nat.le_of_eq rfl) (hb hby at_124) (fun _ _ => ⟨rfl, rfl, (by decide : 4 + 1 + 0 ≤ _), (by decide : 28 + 7 + 0 ≤ _)⟩)
  dsimp only [Pt.U, Pt.locs, Pt.cells, Pt.slots] at X20 l20 y20 z20 st20 hQ20
  subst l20 y20 z20
  obtain ⟨rfl, N20q, hs20⟩ := hQ20
  have N20 := Fr.app N19 N20q
  obtain ⟨fs, hr, hrun, hended, hW, hsame⟩ := X20.leave (v := some (.int (1 : Int32))) (fun h => by rw [Bd.returns] at h; cases h)
  refine ⟨_, _, pre0 _ ?_, hrun, hended, _, _, rfl, ?_, ⟨_, rfl⟩, hW, hsame.mono (by decide) (by decide)⟩
  · show Steps p.tables e below (s₁.setTop (mkF m 0 #[.val (.long q1), .second, .val (.long q2), .second, .val (.long q3), .second, .val (.long q4), .second, .val (.long q5), .second, .val (.long q6), .second, .unset, .unset, .unset, .unset, .unset, .unset, .unset, .unset, .unset, .unset, .unset, .unset, .unset, .unset, .unset, .unset, .unset] [])) _
    refine st7 _ ?_
    show Steps p.tables e below (T7.setTop (mkF m 3 #[.val (.long q1), .second, .val (.long q2), .second, .val (.long q3), .second, .val (.long q4), .second, .val (.long q5), .second, .val (.long q6), .second, .unset, .unset, .unset, .unset, .unset, .unset, .unset, .unset, .unset, .unset, .unset, .unset, .unset, .unset, .unset, .unset, .unset] [(.ref b7)])) _
    refine XS.dup X7.here hx rfl (hb hby at_3) rfl rfl ?_
    show Steps p.tables e below (T7.setTop (mkF m 4 #[.val (.long q1), .second, .val (.long q2), .second, .val (.long q3), .second, .val (.long q4), .second, .val (.long q5), .second, .val (.long q6), .second, .unset, .unset, .unset, .unset, .unset, .unset, .unset, .unset, .unset, .unset, .unset, .unset, .unset, .unset, .unset, .unset, .unset] [(.ref b7), (.ref b7)])) _
    refine XS.lloadN X7.here hx rfl (hb hby at_4) rfl ?_
    show Steps p.tables e below (T7.setTop (mkF m 5 #[.val (.long q1), .second, .val (.long q2), .second, .val (.long q3), .second, .val (.long q4), .second, .val (.long q5), .second, .val (.long q6), .second, .unset, .unset, .unset, .unset, .unset, .unset, .unset, .unset, .unset, .unset, .unset, .unset, .unset, .unset, .unset, .unset, .unset] [(.long q1), (.ref b7), (.ref b7)])) _
    refine XS.lloadN X7.here hx rfl (hb hby at_5) rfl ?_
    show Steps p.tables e below (T7.setTop (mkF m 6 #[.val (.long q1), .second, .val (.long q2), .second, .val (.long q3), .second, .val (.long q4), .second, .val (.long q5), .second, .val (.long q6), .second, .unset, .unset, .unset, .unset, .unset, .unset, .unset, .unset, .unset, .unset, .unset, .unset, .unset, .unset, .unset, .unset, .unset] [(.long q2), (.long q1), (.ref b7), (.ref b7)])) _
    refine XS.lload X7.here hx rfl (hb hby at_6) rfl ?_
    show Steps p.tables e below (T7.setTop (mkF m 8 #[.val (.long q1), .second, .val (.long q2), .second, .val (.long q3), .second, .val (.long q4), .second, .val (.long q5), .second, .val (.long q6), .second, .unset, .unset, .unset, .unset, .unset, .unset, .unset, .unset, .unset, .unset, .unset, .unset, .unset, .unset, .unset, .unset, .unset] [(.long q3), (.long q2), (.long q1), (.ref b7), (.ref b7)])) _
    refine XS.lload X7.here hx rfl (hb hby at_8) rfl ?_
    show Steps p.tables e below (T7.setTop (mkF m 10 #[.val (.long q1), .second, .val (.long q2), .second, .val (.long q3), .second, .val (.long q4), .second, .val (.long q5), .second, .val (.long q6), .second, .unset, .unset, .unset, .unset, .unset, .unset, .unset, .unset, .unset, .unset, .unset, .unset, .unset, .unset, .unset, .unset, .unset] [(.long q4), (.long q3), (.long q2), (.long q1), (.ref b7), (.ref b7)])) _
    refine XS.lload X7.here hx rfl (hb hby at_10) rfl ?_
    show Steps p.tables e below (T7.setTop (mkF m 12 #[.val (.long q1), .second, .val (.long q2), .second, .val (.long q3), .second, .val (.long q4), .second, .val (.long q5), .second, .val (.long q6), .second, .unset, .unset, .unset, .unset, .unset, .unset, .unset, .unset, .unset, .unset, .unset, .unset, .unset, .unset, .unset, .unset, .unset] [(.long q5), (.long q4), (.long q3), (.long q2), (.long q1), (.ref b7), (.ref b7)])) _
    refine XS.lload X7.here hx rfl (hb hby at_12) rfl ?_
    show Steps p.tables e below (T7.setTop (mkF m 14 #[.val (.long q1), .second, .val (.long q2), .second, .val (.long q3), .second, .val (.long q4), .second, .val (.long q5), .second, .val (.long q6), .second, .unset, .unset, .unset, .unset, .unset, .unset, .unset, .unset, .unset, .unset, .unset, .unset, .unset, .unset, .unset, .unset, .unset] [(.long q6), (.long q5), (.long q4), (.long q3), (.long q2), (.long q1), (.ref b7), (.ref b7)])) _
    refine XS.lload X7.here hx rfl (hb hby at_14) rfl ?_
    show Steps p.tables e below (T7.setTop (mkF m 16 #[.val (.long q1), .second, .val (.long q2), .second, .val (.long q3), .second, .val (.long q4), .second, .val (.long q5), .second, .val (.long q6), .second, .unset, .unset, .unset, .unset, .unset, .unset, .unset, .unset, .unset, .unset, .unset, .unset, .unset, .unset, .unset, .unset, .unset] [(.long q6), (.long q6), (.long q5), (.long q4), (.long q3), (.long q2), (.long q1), (.ref b7), (.ref b7)])) _
    refine XS.lloadN X7.here hx rfl (hb hby at_16) rfl ?_
    show Steps p.tables e below (T7.setTop (mkF m 17 #[.val (.long q1), .second, .val (.long q2), .second, .val (.long q3), .second, .val (.long q4), .second, .val (.long q5), .second, .val (.long q6), .second, .unset, .unset, .unset, .unset, .unset, .unset, .unset, .unset, .unset, .unset, .unset, .unset, .unset, .unset, .unset, .unset, .unset] [(.long q1), (.long q6), (.long q6), (.long q5), (.long q4), (.long q3), (.long q2), (.long q1), (.ref b7), (.ref b7)])) _
    refine XS.lxor X7.here hx rfl (hb hby at_17) rfl ?_
    show Steps p.tables e below (T7.setTop (mkF m 18 #[.val (.long q1), .second, .val (.long q2), .second, .val (.long q3), .second, .val (.long q4), .second, .val (.long q5), .second, .val (.long q6), .second, .unset, .unset, .unset, .unset, .unset, .unset, .unset, .unset, .unset, .unset, .unset, .unset, .unset, .unset, .unset, .unset, .unset] [(.long (q6 ^^^ q1)), (.long q6), (.long q5), (.long q4), (.long q3), (.long q2), (.long q1), (.ref b7), (.ref b7)])) _
    refine st8.trans ?_
    show Steps p.tables e below (T8.setTop (mkF m 21 #[.val (.long q1), .second, .val (.long q2), .second, .val (.long q3), .second, .val (.long q4), .second, .val (.long q5), .second, .val (.long q6), .second, .unset, .unset, .unset, .unset, .unset, .unset, .unset, .unset, .unset, .unset, .unset, .unset, .unset, .unset, .unset, .unset, .unset] [(.ref b7)])) _
    refine XS.astore X8.here hx rfl (hb hby at_21) rfl rfl (l' := #[.val (.long q1), .second, .val (.long q2), .second, .val (.long q3), .second, .val (.long q4), .second, .val (.long q5), .second, .val (.long q6), .second, .val (.ref b7), .unset, .unset, .unset, .unset, .unset, .unset, .unset, .unset, .unset, .unset, .unset, .unset, .unset, .unset, .unset, .unset]) rfl ?_
    show Steps p.tables e below (T8.setTop (mkF m 23 #[.val (.long q1), .second, .val (.long q2), .second, .val (.long q3), .second, .val (.long q4), .second, .val (.long q5), .second, .val (.long q6), .second, .val (.ref b7), .unset, .unset, .unset, .unset, .unset, .unset, .unset, .unset, .unset, .unset, .unset, .unset, .unset, .unset, .unset, .unset] [])) _
    refine st9 _ ?_
    show Steps p.tables e below (T9.setTop (mkF m 26 #[.val (.long q1), .second, .val (.long q2), .second, .val (.long q3), .second, .val (.long q4), .second, .val (.long q5), .second, .val (.long q6), .second, .val (.ref b7), .unset, .unset, .unset, .unset, .unset, .unset, .unset, .unset, .unset, .unset, .unset, .unset, .unset, .unset, .unset, .unset] [(.ref b9)])) _
    refine XS.dup X9.here hx rfl (hb hby at_26) rfl rfl ?_
    show Steps p.tables e below (T9.setTop (mkF m 27 #[.val (.long q1), .second, .val (.long q2), .second, .val (.long q3), .second, .val (.long q4), .second, .val (.long q5), .second, .val (.long q6), .second, .val (.ref b7), .unset, .unset, .unset, .unset, .unset, .unset, .unset, .unset, .unset, .unset, .unset, .unset, .unset, .unset, .unset, .unset] [(.ref b9), (.ref b9)])) _
    refine XS.lloadN X9.here hx rfl (hb hby at_27) rfl ?_
    show Steps p.tables e below (T9.setTop (mkF m 28 #[.val (.long q1), .second, .val (.long q2), .second, .val (.long q3), .second, .val (.long q4), .second, .val (.long q5), .second, .val (.long q6), .second, .val (.ref b7), .unset, .unset, .unset, .unset, .unset, .unset, .unset, .unset, .unset, .unset, .unset, .unset, .unset, .unset, .unset, .unset] [(.long q2), (.ref b9), (.ref b9)])) _
    refine XS.lload X9.here hx rfl (hb hby at_28) rfl ?_
    show Steps p.tables e below (T9.setTop (mkF m 30 #[.val (.long q1), .second, .val (.long q2), .second, .val (.long q3), .second, .val (.long q4), .second, .val (.long q5), .second, .val (.long q6), .second, .val (.ref b7), .unset, .unset, .unset, .unset, .unset, .unset, .unset, .unset, .unset, .unset, .unset, .unset, .unset, .unset, .unset, .unset] [(.long q3), (.long q2), (.ref b9), (.ref b9)])) _
    refine XS.lload X9.here hx rfl (hb hby at_30) rfl ?_
    show Steps p.tables e below (T9.setTop (mkF m 32 #[.val (.long q1), .second, .val (.long q2), .second, .val (.long q3), .second, .val (.long q4), .second, .val (.long q5), .second, .val (.long q6), .second, .val (.ref b7), .unset, .unset, .unset, .unset, .unset, .unset, .unset, .unset, .unset, .unset, .unset, .unset, .unset, .unset, .unset, .unset] [(.long q4), (.long q3), (.long q2), (.ref b9), (.ref b9)])) _
    refine XS.lload X9.here hx rfl (hb hby at_32) rfl ?_
    show Steps p.tables e below (T9.setTop (mkF m 34 #[.val (.long q1), .second, .val (.long q2), .second, .val (.long q3), .second, .val (.long q4), .second, .val (.long q5), .second, .val (.long q6), .second, .val (.ref b7), .unset, .unset, .unset, .unset, .unset, .unset, .unset, .unset, .unset, .unset, .unset, .unset, .unset, .unset, .unset, .unset] [(.long q5), (.long q4), (.long q3), (.long q2), (.ref b9), (.ref b9)])) _
    refine XS.lloadN X9.here hx rfl (hb hby at_34) rfl ?_
    show Steps p.tables e below (T9.setTop (mkF m 35 #[.val (.long q1), .second, .val (.long q2), .second, .val (.long q3), .second, .val (.long q4), .second, .val (.long q5), .second, .val (.long q6), .second, .val (.ref b7), .unset, .unset, .unset, .unset, .unset, .unset, .unset, .unset, .unset, .unset, .unset, .unset, .unset, .unset, .unset, .unset] [(.long q1), (.long q5), (.long q4), (.long q3), (.long q2), (.ref b9), (.ref b9)])) _
    refine XS.lload X9.here hx rfl (hb hby at_35) rfl ?_
    show Steps p.tables e below (T9.setTop (mkF m 37 #[.val (.long q1), .second, .val (.long q2), .second, .val (.long q3), .second, .val (.long q4), .second, .val (.long q5), .second, .val (.long q6), .second, .val (.ref b7), .unset, .unset, .unset, .unset, .unset, .unset, .unset, .unset, .unset, .unset, .unset, .unset, .unset, .unset, .unset, .unset] [(.long q6), (.long q1), (.long q5), (.long q4), (.long q3), (.long q2), (.ref b9), (.ref b9)])) _
    refine X9.ldc2Long hx hown (mvT hZ (hw _ (List.mem_of_getElem? (i := 28) rfl))) (g := (mkF m 37 #[.val (.long q1), .second, .val (.long q2), .second, .val (.long q3), .second, .val (.long q4), .second, .val (.long q5), .second, .val (.long q6), .second, .val (.ref b7), .unset, .unset, .unset, .unset, .unset, .unset, .unset, .unset, .unset, .unset, .unset, .unset, .unset, .unset, .unset, .unset] [(.long q6), (.long q1), (.long q5), (.long q4), (.long q3), (.long q2), (.ref b9), (.ref b9)])) rfl (hb hby at_37) _ ?_
    show Steps p.tables e below (T9.setTop (mkF m 40 #[.val (.long q1), .second, .val (.long q2), .second, .val (.long q3), .second, .val (.long q4), .second, .val (.long q5), .second, .val (.long q6), .second, .val (.ref b7), .unset, .unset, .unset, .unset, .unset, .unset, .unset, .unset, .unset, .unset, .unset, .unset, .unset, .unset, .unset, .unset] [(.long (-1 : Int64)), (.long q6), (.long q1), (.long q5), (.long q4), (.long q3), (.long q2), (.ref b9), (.ref b9)])) _
    refine XS.lxor X9.here hx rfl (hb hby at_40) rfl ?_
    show Steps p.tables e below (T9.setTop (mkF m 41 #[.val (.long q1), .second, .val (.long q2), .second, .val (.long q3), .second, .val (.long q4), .second, .val (.long q5), .second, .val (.long q6), .second, .val (.ref b7), .unset, .unset, .unset, .unset, .unset, .unset, .unset, .unset, .unset, .unset, .unset, .unset, .unset, .unset, .unset, .unset] [(.long (q6 ^^^ (-1 : Int64))), (.long q1), (.long q5), (.long q4), (.long q3), (.long q2), (.ref b9), (.ref b9)])) _
    refine XS.lload X9.here hx rfl (hb hby at_41) rfl ?_
    show Steps p.tables e below (T9.setTop (mkF m 43 #[.val (.long q1), .second, .val (.long q2), .second, .val (.long q3), .second, .val (.long q4), .second, .val (.long q5), .second, .val (.long q6), .second, .val (.ref b7), .unset, .unset, .unset, .unset, .unset, .unset, .unset, .unset, .unset, .unset, .unset, .unset, .unset, .unset, .unset, .unset] [(.long q6), (.long (q6 ^^^ (-1 : Int64))), (.long q1), (.long q5), (.long q4), (.long q3), (.long q2), (.ref b9), (.ref b9)])) _
    refine XS.lloadN X9.here hx rfl (hb hby at_43) rfl ?_
    show Steps p.tables e below (T9.setTop (mkF m 44 #[.val (.long q1), .second, .val (.long q2), .second, .val (.long q3), .second, .val (.long q4), .second, .val (.long q5), .second, .val (.long q6), .second, .val (.ref b7), .unset, .unset, .unset, .unset, .unset, .unset, .unset, .unset, .unset, .unset, .unset, .unset, .unset, .unset, .unset, .unset] [(.long q2), (.long q6), (.long (q6 ^^^ (-1 : Int64))), (.long q1), (.long q5), (.long q4), (.long q3), (.long q2), (.ref b9), (.ref b9)])) _
    refine XS.ladd X9.here hx rfl (hb hby at_44) rfl ?_
    show Steps p.tables e below (T9.setTop (mkF m 45 #[.val (.long q1), .second, .val (.long q2), .second, .val (.long q3), .second, .val (.long q4), .second, .val (.long q5), .second, .val (.long q6), .second, .val (.ref b7), .unset, .unset, .unset, .unset, .unset, .unset, .unset, .unset, .unset, .unset, .unset, .unset, .unset, .unset, .unset, .unset] [(.long (q6 + q2)), (.long (q6 ^^^ (-1 : Int64))), (.long q1), (.long q5), (.long q4), (.long q3), (.long q2), (.ref b9), (.ref b9)])) _
    refine st10.trans ?_
    show Steps p.tables e below (T10.setTop (mkF m 48 #[.val (.long q1), .second, .val (.long q2), .second, .val (.long q3), .second, .val (.long q4), .second, .val (.long q5), .second, .val (.long q6), .second, .val (.ref b7), .unset, .unset, .unset, .unset, .unset, .unset, .unset, .unset, .unset, .unset, .unset, .unset, .unset, .unset, .unset, .unset] [(.ref b9)])) _
    refine XS.astore X10.here hx rfl (hb hby at_48) rfl rfl (l' := #[.val (.long q1), .second, .val (.long q2), .second, .val (.long q3), .second, .val (.long q4), .second, .val (.long q5), .second, .val (.long q6), .second, .val (.ref b7), .val (.ref b9), .unset, .unset, .unset, .unset, .unset, .unset, .unset, .unset, .unset, .unset, .unset, .unset, .unset, .unset, .unset]) rfl ?_
    show Steps p.tables e below (T10.setTop (mkF m 50 #[.val (.long q1), .second, .val (.long q2), .second, .val (.long q3), .second, .val (.long q4), .second, .val (.long q5), .second, .val (.long q6), .second, .val (.ref b7), .val (.ref b9), .unset, .unset, .unset, .unset, .unset, .unset, .unset, .unset, .unset, .unset, .unset, .unset, .unset, .unset, .unset] [])) _
    refine st11 _ ?_
    show Steps p.tables e below (T11.setTop (mkF m 53 #[.val (.long q1), .second, .val (.long q2), .second, .val (.long q3), .second, .val (.long q4), .second, .val (.long q5), .second, .val (.long q6), .second, .val (.ref b7), .val (.ref b9), .unset, .unset, .unset, .unset, .unset, .unset, .unset, .unset, .unset, .unset, .unset, .unset, .unset, .unset, .unset] [(.ref b11)])) _
    refine XS.dup X11.here hx rfl (hb hby at_53) rfl rfl ?_
    show Steps p.tables e below (T11.setTop (mkF m 54 #[.val (.long q1), .second, .val (.long q2), .second, .val (.long q3), .second, .val (.long q4), .second, .val (.long q5), .second, .val (.long q6), .second, .val (.ref b7), .val (.ref b9), .unset, .unset, .unset, .unset, .unset, .unset, .unset, .unset, .unset, .unset, .unset, .unset, .unset, .unset, .unset] [(.ref b11), (.ref b11)])) _
    refine XS.lconst X11.here hx rfl (hb hby at_54) ?_
    show Steps p.tables e below (T11.setTop (mkF m 55 #[.val (.long q1), .second, .val (.long q2), .second, .val (.long q3), .second, .val (.long q4), .second, .val (.long q5), .second, .val (.long q6), .second, .val (.ref b7), .val (.ref b9), .unset, .unset, .unset, .unset, .unset, .unset, .unset, .unset, .unset, .unset, .unset, .unset, .unset, .unset, .unset] [(.long (1 : Int64)), (.ref b11), (.ref b11)])) _
    refine XS.lconst X11.here hx rfl (hb hby at_55) ?_
    show Steps p.tables e below (T11.setTop (mkF m 56 #[.val (.long q1), .second, .val (.long q2), .second, .val (.long q3), .second, .val (.long q4), .second, .val (.long q5), .second, .val (.long q6), .second, .val (.ref b7), .val (.ref b9), .unset, .unset, .unset, .unset, .unset, .unset, .unset, .unset, .unset, .unset, .unset, .unset, .unset, .unset, .unset] [(.long (1 : Int64)), (.long (1 : Int64)), (.ref b11), (.ref b11)])) _
    refine XS.lconst X11.here hx rfl (hb hby at_56) ?_
    show Steps p.tables e below (T11.setTop (mkF m 57 #[.val (.long q1), .second, .val (.long q2), .second, .val (.long q3), .second, .val (.long q4), .second, .val (.long q5), .second, .val (.long q6), .second, .val (.ref b7), .val (.ref b9), .unset, .unset, .unset, .unset, .unset, .unset, .unset, .unset, .unset, .unset, .unset, .unset, .unset, .unset, .unset] [(.long (1 : Int64)), (.long (1 : Int64)), (.long (1 : Int64)), (.ref b11), (.ref b11)])) _
    refine XS.lconst X11.here hx rfl (hb hby at_57) ?_
    show Steps p.tables e below (T11.setTop (mkF m 58 #[.val (.long q1), .second, .val (.long q2), .second, .val (.long q3), .second, .val (.long q4), .second, .val (.long q5), .second, .val (.long q6), .second, .val (.ref b7), .val (.ref b9), .unset, .unset, .unset, .unset, .unset, .unset, .unset, .unset, .unset, .unset, .unset, .unset, .unset, .unset, .unset] [(.long (1 : Int64)), (.long (1 : Int64)), (.long (1 : Int64)), (.long (1 : Int64)), (.ref b11), (.ref b11)])) _
    refine XS.lconst X11.here hx rfl (hb hby at_58) ?_
    show Steps p.tables e below (T11.setTop (mkF m 59 #[.val (.long q1), .second, .val (.long q2), .second, .val (.long q3), .second, .val (.long q4), .second, .val (.long q5), .second, .val (.long q6), .second, .val (.ref b7), .val (.ref b9), .unset, .unset, .unset, .unset, .unset, .unset, .unset, .unset, .unset, .unset, .unset, .unset, .unset, .unset, .unset] [(.long (1 : Int64)), (.long (1 : Int64)), (.long (1 : Int64)), (.long (1 : Int64)), (.long (1 : Int64)), (.ref b11), (.ref b11)])) _
    refine XS.lload X11.here hx rfl (hb hby at_59) rfl ?_
    show Steps p.tables e below (T11.setTop (mkF m 61 #[.val (.long q1), .second, .val (.long q2), .second, .val (.long q3), .second, .val (.long q4), .second, .val (.long q5), .second, .val (.long q6), .second, .val (.ref b7), .val (.ref b9), .unset, .unset, .unset, .unset, .unset, .unset, .unset, .unset, .unset, .unset, .unset, .unset, .unset, .unset, .unset] [(.long q6), (.long (1 : Int64)), (.long (1 : Int64)), (.long (1 : Int64)), (.long (1 : Int64)), (.long (1 : Int64)), (.ref b11), (.ref b11)])) _
    refine XS.lload X11.here hx rfl (hb hby at_61) rfl ?_
    show Steps p.tables e below (T11.setTop (mkF m 63 #[.val (.long q1), .second, .val (.long q2), .second, .val (.long q3), .second, .val (.long q4), .second, .val (.long q5), .second, .val (.long q6), .second, .val (.ref b7), .val (.ref b9), .unset, .unset, .unset, .unset, .unset, .unset, .unset, .unset, .unset, .unset, .unset, .unset, .unset, .unset, .unset] [(.long q5), (.long q6), (.long (1 : Int64)), (.long (1 : Int64)), (.long (1 : Int64)), (.long (1 : Int64)), (.long (1 : Int64)), (.ref b11), (.ref b11)])) _
    refine st12.trans ?_
    show Steps p.tables e below (T12.setTop (mkF m 66 #[.val (.long q1), .second, .val (.long q2), .second, .val (.long q3), .second, .val (.long q4), .second, .val (.long q5), .second, .val (.long q6), .second, .val (.ref b7), .val (.ref b9), .unset, .unset, .unset, .unset, .unset, .unset, .unset, .unset, .unset, .unset, .unset, .unset, .unset, .unset, .unset] [(.ref b11)])) _
    refine XS.astore X12.here hx rfl (hb hby at_66) rfl rfl (l' := #[.val (.long q1), .second, .val (.long q2), .second, .val (.long q3), .second, .val (.long q4), .second, .val (.long q5), .second, .val (.long q6), .second, .val (.ref b7), .val (.ref b9), .val (.ref b11), .unset, .unset, .unset, .unset, .unset, .unset, .unset, .unset, .unset, .unset, .unset, .unset, .unset, .unset]) rfl ?_
    show Steps p.tables e below (T12.setTop (mkF m 68 #[.val (.long q1), .second, .val (.long q2), .second, .val (.long q3), .second, .val (.long q4), .second, .val (.long q5), .second, .val (.long q6), .second, .val (.ref b7), .val (.ref b9), .val (.ref b11), .unset, .unset, .unset, .unset, .unset, .unset, .unset, .unset, .unset, .unset, .unset, .unset, .unset, .unset] [])) _
    refine st13 _ ?_
    show Steps p.tables e below (T13.setTop (mkF m 71 #[.val (.long q1), .second, .val (.long q2), .second, .val (.long q3), .second, .val (.long q4), .second, .val (.long q5), .second, .val (.long q6), .second, .val (.ref b7), .val (.ref b9), .val (.ref b11), .unset, .unset, .unset, .unset, .unset, .unset, .unset, .unset, .unset, .unset, .unset, .unset, .unset, .unset] [(.ref b13)])) _
    refine XS.dup X13.here hx rfl (hb hby at_71) rfl rfl ?_
    show Steps p.tables e below (T13.setTop (mkF m 72 #[.val (.long q1), .second, .val (.long q2), .second, .val (.long q3), .second, .val (.long q4), .second, .val (.long q5), .second, .val (.long q6), .second, .val (.ref b7), .val (.ref b9), .val (.ref b11), .unset, .unset, .unset, .unset, .unset, .unset, .unset, .unset, .unset, .unset, .unset, .unset, .unset, .unset] [(.ref b13), (.ref b13)])) _
    refine XS.lload X13.here hx rfl (hb hby at_72) rfl ?_
    show Steps p.tables e below (T13.setTop (mkF m 74 #[.val (.long q1), .second, .val (.long q2), .second, .val (.long q3), .second, .val (.long q4), .second, .val (.long q5), .second, .val (.long q6), .second, .val (.ref b7), .val (.ref b9), .val (.ref b11), .unset, .unset, .unset, .unset, .unset, .unset, .unset, .unset, .unset, .unset, .unset, .unset, .unset, .unset] [(.long q6), (.ref b13), (.ref b13)])) _
    refine XS.lload X13.here hx rfl (hb hby at_74) rfl ?_
    show Steps p.tables e below (T13.setTop (mkF m 76 #[.val (.long q1), .second, .val (.long q2), .second, .val (.long q3), .second, .val (.long q4), .second, .val (.long q5), .second, .val (.long q6), .second, .val (.ref b7), .val (.ref b9), .val (.ref b11), .unset, .unset, .unset, .unset, .unset, .unset, .unset, .unset, .unset, .unset, .unset, .unset, .unset, .unset] [(.long q6), (.long q6), (.ref b13), (.ref b13)])) _
    refine XS.lload X13.here hx rfl (hb hby at_76) rfl ?_
    show Steps p.tables e below (T13.setTop (mkF m 78 #[.val (.long q1), .second, .val (.long q2), .second, .val (.long q3), .second, .val (.long q4), .second, .val (.long q5), .second, .val (.long q6), .second, .val (.ref b7), .val (.ref b9), .val (.ref b11), .unset, .unset, .unset, .unset, .unset, .unset, .unset, .unset, .unset, .unset, .unset, .unset, .unset, .unset] [(.long q6), (.long q6), (.long q6), (.ref b13), (.ref b13)])) _
    refine XS.lload X13.here hx rfl (hb hby at_78) rfl ?_
    show Steps p.tables e below (T13.setTop (mkF m 80 #[.val (.long q1), .second, .val (.long q2), .second, .val (.long q3), .second, .val (.long q4), .second, .val (.long q5), .second, .val (.long q6), .second, .val (.ref b7), .val (.ref b9), .val (.ref b11), .unset, .unset, .unset, .unset, .unset, .unset, .unset, .unset, .unset, .unset, .unset, .unset, .unset, .unset] [(.long q6), (.long q6), (.long q6), (.long q6), (.ref b13), (.ref b13)])) _
    refine XS.lload X13.here hx rfl (hb hby at_80) rfl ?_
    show Steps p.tables e below (T13.setTop (mkF m 82 #[.val (.long q1), .second, .val (.long q2), .second, .val (.long q3), .second, .val (.long q4), .second, .val (.long q5), .second, .val (.long q6), .second, .val (.ref b7), .val (.ref b9), .val (.ref b11), .unset, .unset, .unset, .unset, .unset, .unset, .unset, .unset, .unset, .unset, .unset, .unset, .unset, .unset] [(.long q6), (.long q6), (.long q6), (.long q6), (.long q6), (.ref b13), (.ref b13)])) _
    refine XS.lloadN X13.here hx rfl (hb hby at_82) rfl ?_
    show Steps p.tables e below (T13.setTop (mkF m 83 #[.val (.long q1), .second, .val (.long q2), .second, .val (.long q3), .second, .val (.long q4), .second, .val (.long q5), .second, .val (.long q6), .second, .val (.ref b7), .val (.ref b9), .val (.ref b11), .unset, .unset, .unset, .unset, .unset, .unset, .unset, .unset, .unset, .unset, .unset, .unset, .unset, .unset] [(.long q1), (.long q6), (.long q6), (.long q6), (.long q6), (.long q6), (.ref b13), (.ref b13)])) _
    refine XS.lloadN X13.here hx rfl (hb hby at_83) rfl ?_
    show Steps p.tables e below (T13.setTop (mkF m 84 #[.val (.long q1), .second, .val (.long q2), .second, .val (.long q3), .second, .val (.long q4), .second, .val (.long q5), .second, .val (.long q6), .second, .val (.ref b7), .val (.ref b9), .val (.ref b11), .unset, .unset, .unset, .unset, .unset, .unset, .unset, .unset, .unset, .unset, .unset, .unset, .unset, .unset] [(.long q2), (.long q1), (.long q6), (.long q6), (.long q6), (.long q6), (.long q6), (.ref b13), (.ref b13)])) _
    refine st14.trans ?_
    show Steps p.tables e below (T14.setTop (mkF m 87 #[.val (.long q1), .second, .val (.long q2), .second, .val (.long q3), .second, .val (.long q4), .second, .val (.long q5), .second, .val (.long q6), .second, .val (.ref b7), .val (.ref b9), .val (.ref b11), .unset, .unset, .unset, .unset, .unset, .unset, .unset, .unset, .unset, .unset, .unset, .unset, .unset, .unset] [(.ref b13)])) _
    refine XS.astore X14.here hx rfl (hb hby at_87) rfl rfl (l' := #[.val (.long q1), .second, .val (.long q2), .second, .val (.long q3), .second, .val (.long q4), .second, .val (.long q5), .second, .val (.long q6), .second, .val (.ref b7), .val (.ref b9), .val (.ref b11), .val (.ref b13), .unset, .unset, .unset, .unset, .unset, .unset, .unset, .unset, .unset, .unset, .unset, .unset, .unset]) rfl ?_
    show Steps p.tables e below (T14.setTop (mkF m 89 #[.val (.long q1), .second, .val (.long q2), .second, .val (.long q3), .second, .val (.long q4), .second, .val (.long q5), .second, .val (.long q6), .second, .val (.ref b7), .val (.ref b9), .val (.ref b11), .val (.ref b13), .unset, .unset, .unset, .unset, .unset, .unset, .unset, .unset, .unset, .unset, .unset, .unset, .unset] [])) _
    refine XS.aload X14.here hx rfl (hb hby at_89) rfl rfl ?_
    show Steps p.tables e below (T14.setTop (mkF m 91 #[.val (.long q1), .second, .val (.long q2), .second, .val (.long q3), .second, .val (.long q4), .second, .val (.long q5), .second, .val (.long q6), .second, .val (.ref b7), .val (.ref b9), .val (.ref b11), .val (.ref b13), .unset, .unset, .unset, .unset, .unset, .unset, .unset, .unset, .unset, .unset, .unset, .unset, .unset] [(.ref b7)])) _
    refine st15.trans ?_
    show Steps p.tables e below (T15.setTop (mkF m 94 #[.val (.long q1), .second, .val (.long q2), .second, .val (.long q3), .second, .val (.long q4), .second, .val (.long q5), .second, .val (.long q6), .second, .val (.ref b7), .val (.ref b9), .val (.ref b11), .val (.ref b13), .unset, .unset, .unset, .unset, .unset, .unset, .unset, .unset, .unset, .unset, .unset, .unset, .unset] [(.long (own_tot q1 q2 q3 q4 q5))])) _
    refine XS.lstore X15.here hx rfl (hb hby at_94) rfl (l' := #[.val (.long q1), .second, .val (.long q2), .second, .val (.long q3), .second, .val (.long q4), .second, .val (.long q5), .second, .val (.long q6), .second, .val (.ref b7), .val (.ref b9), .val (.ref b11), .val (.ref b13), .val (.long (own_tot q1 q2 q3 q4 q5)), .second, .unset, .unset, .unset, .unset, .unset, .unset, .unset, .unset, .unset, .unset, .unset]) rfl ?_
    show Steps p.tables e below (T15.setTop (mkF m 96 #[.val (.long q1), .second, .val (.long q2), .second, .val (.long q3), .second, .val (.long q4), .second, .val (.long q5), .second, .val (.long q6), .second, .val (.ref b7), .val (.ref b9), .val (.ref b11), .val (.ref b13), .val (.long (own_tot q1 q2 q3 q4 q5)), .second, .unset, .unset, .unset, .unset, .unset, .unset, .unset, .unset, .unset, .unset, .unset] [])) _
    refine XS.aload X15.here hx rfl (hb hby at_96) rfl rfl ?_
    show Steps p.tables e below (T15.setTop (mkF m 98 #[.val (.long q1), .second, .val (.long q2), .second, .val (.long q3), .second, .val (.long q4), .second, .val (.long q5), .second, .val (.long q6), .second, .val (.ref b7), .val (.ref b9), .val (.ref b11), .val (.ref b13), .val (.long (own_tot q1 q2 q3 q4 q5)), .second, .unset, .unset, .unset, .unset, .unset, .unset, .unset, .unset, .unset, .unset, .unset] [(.ref b9)])) _
    refine st16.trans ?_
    show Steps p.tables e below (T16.setTop (mkF m 101 #[.val (.long q1), .second, .val (.long q2), .second, .val (.long q3), .second, .val (.long q4), .second, .val (.long q5), .second, .val (.long q6), .second, .val (.ref b7), .val (.ref b9), .val (.ref b11), .val (.ref b13), .val (.long (own_tot q1 q2 q3 q4 q5)), .second, .unset, .unset, .unset, .unset, .unset, .unset, .unset, .unset, .unset, .unset, .unset] [(.long (own_tot q2 q3 q4 q5 q1))])) _
    refine XS.lstore X16.here hx rfl (hb hby at_101) rfl (l' := #[.val (.long q1), .second, .val (.long q2), .second, .val (.long q3), .second, .val (.long q4), .second, .val (.long q5), .second, .val (.long q6), .second, .val (.ref b7), .val (.ref b9), .val (.ref b11), .val (.ref b13), .val (.long (own_tot q1 q2 q3 q4 q5)), .second, .val (.long (own_tot q2 q3 q4 q5 q1)), .second, .unset, .unset, .unset, .unset, .unset, .unset, .unset, .unset, .unset]) rfl ?_
    show Steps p.tables e below (T16.setTop (mkF m 103 #[.val (.long q1), .second, .val (.long q2), .second, .val (.long q3), .second, .val (.long q4), .second, .val (.long q5), .second, .val (.long q6), .second, .val (.ref b7), .val (.ref b9), .val (.ref b11), .val (.ref b13), .val (.long (own_tot q1 q2 q3 q4 q5)), .second, .val (.long (own_tot q2 q3 q4 q5 q1)), .second, .unset, .unset, .unset, .unset, .unset, .unset, .unset, .unset, .unset] [])) _
    refine XS.aload X16.here hx rfl (hb hby at_103) rfl rfl ?_
    show Steps p.tables e below (T16.setTop (mkF m 105 #[.val (.long q1), .second, .val (.long q2), .second, .val (.long q3), .second, .val (.long q4), .second, .val (.long q5), .second, .val (.long q6), .second, .val (.ref b7), .val (.ref b9), .val (.ref b11), .val (.ref b13), .val (.long (own_tot q1 q2 q3 q4 q5)), .second, .val (.long (own_tot q2 q3 q4 q5 q1)), .second, .unset, .unset, .unset, .unset, .unset, .unset, .unset, .unset, .unset] [(.ref b11)])) _
    refine st17.trans ?_
    show Steps p.tables e below (T17.setTop (mkF m 108 #[.val (.long q1), .second, .val (.long q2), .second, .val (.long q3), .second, .val (.long q4), .second, .val (.long q5), .second, .val (.long q6), .second, .val (.ref b7), .val (.ref b9), .val (.ref b11), .val (.ref b13), .val (.long (own_tot q1 q2 q3 q4 q5)), .second, .val (.long (own_tot q2 q3 q4 q5 q1)), .second, .unset, .unset, .unset, .unset, .unset, .unset, .unset, .unset, .unset] [(.long (own_tot (1 : Int64) (1 : Int64) (1 : Int64) (1 : Int64) (1 : Int64)))])) _
    refine XS.lstore X17.here hx rfl (hb hby at_108) rfl (l' := #[.val (.long q1), .second, .val (.long q2), .second, .val (.long q3), .second, .val (.long q4), .second, .val (.long q5), .second, .val (.long q6), .second, .val (.ref b7), .val (.ref b9), .val (.ref b11), .val (.ref b13), .val (.long (own_tot q1 q2 q3 q4 q5)), .second, .val (.long (own_tot q2 q3 q4 q5 q1)), .second, .val (.long (own_tot (1 : Int64) (1 : Int64) (1 : Int64) (1 : Int64) (1 : Int64))), .second, .unset, .unset, .unset, .unset, .unset, .unset, .unset]) rfl ?_
    show Steps p.tables e below (T17.setTop (mkF m 110 #[.val (.long q1), .second, .val (.long q2), .second, .val (.long q3), .second, .val (.long q4), .second, .val (.long q5), .second, .val (.long q6), .second, .val (.ref b7), .val (.ref b9), .val (.ref b11), .val (.ref b13), .val (.long (own_tot q1 q2 q3 q4 q5)), .second, .val (.long (own_tot q2 q3 q4 q5 q1)), .second, .val (.long (own_tot (1 : Int64) (1 : Int64) (1 : Int64) (1 : Int64) (1 : Int64))), .second, .unset, .unset, .unset, .unset, .unset, .unset, .unset] [])) _
    refine XS.aload X17.here hx rfl (hb hby at_110) rfl rfl ?_
    show Steps p.tables e below (T17.setTop (mkF m 112 #[.val (.long q1), .second, .val (.long q2), .second, .val (.long q3), .second, .val (.long q4), .second, .val (.long q5), .second, .val (.long q6), .second, .val (.ref b7), .val (.ref b9), .val (.ref b11), .val (.ref b13), .val (.long (own_tot q1 q2 q3 q4 q5)), .second, .val (.long (own_tot q2 q3 q4 q5 q1)), .second, .val (.long (own_tot (1 : Int64) (1 : Int64) (1 : Int64) (1 : Int64) (1 : Int64))), .second, .unset, .unset, .unset, .unset, .unset, .unset, .unset] [(.ref b13)])) _
    refine st18.trans ?_
    show Steps p.tables e below (T18.setTop (mkF m 115 #[.val (.long q1), .second, .val (.long q2), .second, .val (.long q3), .second, .val (.long q4), .second, .val (.long q5), .second, .val (.long q6), .second, .val (.ref b7), .val (.ref b9), .val (.ref b11), .val (.ref b13), .val (.long (own_tot q1 q2 q3 q4 q5)), .second, .val (.long (own_tot q2 q3 q4 q5 q1)), .second, .val (.long (own_tot (1 : Int64) (1 : Int64) (1 : Int64) (1 : Int64) (1 : Int64))), .second, .unset, .unset, .unset, .unset, .unset, .unset, .unset] [(.long (own_tot q6 q6 q6 q6 q6))])) _
    refine XS.lstore X18.here hx rfl (hb hby at_115) rfl (l' := #[.val (.long q1), .second, .val (.long q2), .second, .val (.long q3), .second, .val (.long q4), .second, .val (.long q5), .second, .val (.long q6), .second, .val (.ref b7), .val (.ref b9), .val (.ref b11), .val (.ref b13), .val (.long (own_tot q1 q2 q3 q4 q5)), .second, .val (.long (own_tot q2 q3 q4 q5 q1)), .second, .val (.long (own_tot (1 : Int64) (1 : Int64) (1 : Int64) (1 : Int64) (1 : Int64))), .second, .val (.long (own_tot q6 q6 q6 q6 q6)), .second, .unset, .unset, .unset, .unset, .unset]) rfl ?_
    show Steps p.tables e below (T18.setTop (mkF m 117 #[.val (.long q1), .second, .val (.long q2), .second, .val (.long q3), .second, .val (.long q4), .second, .val (.long q5), .second, .val (.long q6), .second, .val (.ref b7), .val (.ref b9), .val (.ref b11), .val (.ref b13), .val (.long (own_tot q1 q2 q3 q4 q5)), .second, .val (.long (own_tot q2 q3 q4 q5 q1)), .second, .val (.long (own_tot (1 : Int64) (1 : Int64) (1 : Int64) (1 : Int64) (1 : Int64))), .second, .val (.long (own_tot q6 q6 q6 q6 q6)), .second, .unset, .unset, .unset, .unset, .unset] [])) _
    refine XS.aload X18.here hx rfl (hb hby at_117) rfl rfl ?_
    show Steps p.tables e below (T18.setTop (mkF m 119 #[.val (.long q1), .second, .val (.long q2), .second, .val (.long q3), .second, .val (.long q4), .second, .val (.long q5), .second, .val (.long q6), .second, .val (.ref b7), .val (.ref b9), .val (.ref b11), .val (.ref b13), .val (.long (own_tot q1 q2 q3 q4 q5)), .second, .val (.long (own_tot q2 q3 q4 q5 q1)), .second, .val (.long (own_tot (1 : Int64) (1 : Int64) (1 : Int64) (1 : Int64) (1 : Int64))), .second, .val (.long (own_tot q6 q6 q6 q6 q6)), .second, .unset, .unset, .unset, .unset, .unset] [(.ref b7)])) _
    refine XS.aload X18.here hx rfl (hb hby at_119) rfl rfl ?_
    show Steps p.tables e below (T18.setTop (mkF m 121 #[.val (.long q1), .second, .val (.long q2), .second, .val (.long q3), .second, .val (.long q4), .second, .val (.long q5), .second, .val (.long q6), .second, .val (.ref b7), .val (.ref b9), .val (.ref b11), .val (.ref b13), .val (.long (own_tot q1 q2 q3 q4 q5)), .second, .val (.long (own_tot q2 q3 q4 q5 q1)), .second, .val (.long (own_tot (1 : Int64) (1 : Int64) (1 : Int64) (1 : Int64) (1 : Int64))), .second, .val (.long (own_tot q6 q6 q6 q6 q6)), .second, .unset, .unset, .unset, .unset, .unset] [(.ref b13), (.ref b7)])) _
    refine st19.trans ?_
    show Steps p.tables e below (T19.setTop (mkF m 124 #[.val (.long q1), .second, .val (.long q2), .second, .val (.long q3), .second, .val (.long q4), .second, .val (.long q5), .second, .val (.long q6), .second, .val (.ref b7), .val (.ref b9), .val (.ref b11), .val (.ref b13), .val (.long (own_tot q1 q2 q3 q4 q5)), .second, .val (.long (own_tot q2 q3 q4 q5 q1)), .second, .val (.long (own_tot (1 : Int64) (1 : Int64) (1 : Int64) (1 : Int64) (1 : Int64))), .second, .val (.long (own_tot q6 q6 q6 q6 q6)), .second, .unset, .unset, .unset, .unset, .unset] [(.ref r19)])) _
    refine st20.trans ?_
    show Steps p.tables e below (T20.setTop (mkF m 127 #[.val (.long q1), .second, .val (.long q2), .second, .val (.long q3), .second, .val (.long q4), .second, .val (.long q5), .second, .val (.long q6), .second, .val (.ref b7), .val (.ref b9), .val (.ref b11), .val (.ref b13), .val (.long (own_tot q1 q2 q3 q4 q5)), .second, .val (.long (own_tot q2 q3 q4 q5 q1)), .second, .val (.long (own_tot (1 : Int64) (1 : Int64) (1 : Int64) (1 : Int64) (1 : Int64))), .second, .val (.long (own_tot q6 q6 q6 q6 q6)), .second, .unset, .unset, .unset, .unset, .unset] [(.long (own_tot (q1 - q6) (q2 - q6) (q3 - q6) (q4 - q6) (q5 - q6)))])) _
    refine XS.lstore X20.here hx rfl (hb hby at_127) rfl (l' := #[.val (.long q1), .second, .val (.long q2), .second, .val (.long q3), .second, .val (.long q4), .second, .val (.long q5), .second, .val (.long q6), .second, .val (.ref b7), .val (.ref b9), .val (.ref b11), .val (.ref b13), .val (.long (own_tot q1 q2 q3 q4 q5)), .second, .val (.long (own_tot q2 q3 q4 q5 q1)), .second, .val (.long (own_tot (1 : Int64) (1 : Int64) (1 : Int64) (1 : Int64) (1 : Int64))), .second, .val (.long (own_tot q6 q6 q6 q6 q6)), .second, .val (.long (own_tot (q1 - q6) (q2 - q6) (q3 - q6) (q4 - q6) (q5 - q6))), .second, .unset, .unset, .unset]) rfl ?_
    show Steps p.tables e below (T20.setTop (mkF m 129 #[.val (.long q1), .second, .val (.long q2), .second, .val (.long q3), .second, .val (.long q4), .second, .val (.long q5), .second, .val (.long q6), .second, .val (.ref b7), .val (.ref b9), .val (.ref b11), .val (.ref b13), .val (.long (own_tot q1 q2 q3 q4 q5)), .second, .val (.long (own_tot q2 q3 q4 q5 q1)), .second, .val (.long (own_tot (1 : Int64) (1 : Int64) (1 : Int64) (1 : Int64) (1 : Int64))), .second, .val (.long (own_tot q6 q6 q6 q6 q6)), .second, .val (.long (own_tot (q1 - q6) (q2 - q6) (q3 - q6) (q4 - q6) (q5 - q6))), .second, .unset, .unset, .unset] [])) _
    refine XS.lload X20.here hx rfl (hb hby at_129) rfl ?_
    show Steps p.tables e below (T20.setTop (mkF m 131 #[.val (.long q1), .second, .val (.long q2), .second, .val (.long q3), .second, .val (.long q4), .second, .val (.long q5), .second, .val (.long q6), .second, .val (.ref b7), .val (.ref b9), .val (.ref b11), .val (.ref b13), .val (.long (own_tot q1 q2 q3 q4 q5)), .second, .val (.long (own_tot q2 q3 q4 q5 q1)), .second, .val (.long (own_tot (1 : Int64) (1 : Int64) (1 : Int64) (1 : Int64) (1 : Int64))), .second, .val (.long (own_tot q6 q6 q6 q6 q6)), .second, .val (.long (own_tot (q1 - q6) (q2 - q6) (q3 - q6) (q4 - q6) (q5 - q6))), .second, .unset, .unset, .unset] [(.long (own_tot (1 : Int64) (1 : Int64) (1 : Int64) (1 : Int64) (1 : Int64)))])) _
    refine X20.ldc2Long hx hown (mvT hZ (hw _ (List.mem_of_getElem? (i := 41) rfl))) (g := (mkF m 131 #[.val (.long q1), .second, .val (.long q2), .second, .val (.long q3), .second, .val (.long q4), .second, .val (.long q5), .second, .val (.long q6), .second, .val (.ref b7), .val (.ref b9), .val (.ref b11), .val (.ref b13), .val (.long (own_tot q1 q2 q3 q4 q5)), .second, .val (.long (own_tot q2 q3 q4 q5 q1)), .second, .val (.long (own_tot (1 : Int64) (1 : Int64) (1 : Int64) (1 : Int64) (1 : Int64))), .second, .val (.long (own_tot q6 q6 q6 q6 q6)), .second, .val (.long (own_tot (q1 - q6) (q2 - q6) (q3 - q6) (q4 - q6) (q5 - q6))), .second, .unset, .unset, .unset] [(.long (own_tot (1 : Int64) (1 : Int64) (1 : Int64) (1 : Int64) (1 : Int64)))])) rfl (hb hby at_131) _ ?_
    show Steps p.tables e below (T20.setTop (mkF m 134 #[.val (.long q1), .second, .val (.long q2), .second, .val (.long q3), .second, .val (.long q4), .second, .val (.long q5), .second, .val (.long q6), .second, .val (.ref b7), .val (.ref b9), .val (.ref b11), .val (.ref b13), .val (.long (own_tot q1 q2 q3 q4 q5)), .second, .val (.long (own_tot q2 q3 q4 q5 q1)), .second, .val (.long (own_tot (1 : Int64) (1 : Int64) (1 : Int64) (1 : Int64) (1 : Int64))), .second, .val (.long (own_tot q6 q6 q6 q6 q6)), .second, .val (.long (own_tot (q1 - q6) (q2 - q6) (q3 - q6) (q4 - q6) (q5 - q6))), .second, .unset, .unset, .unset] [(.long (5 : Int64)), (.long (own_tot (1 : Int64) (1 : Int64) (1 : Int64) (1 : Int64) (1 : Int64)))])) _
    refine XS.lcmp X20.here hx rfl (hb hby at_134) rfl ?_
    show Steps p.tables e below (T20.setTop (mkF m 135 #[.val (.long q1), .second, .val (.long q2), .second, .val (.long q3), .second, .val (.long q4), .second, .val (.long q5), .second, .val (.long q6), .second, .val (.ref b7), .val (.ref b9), .val (.ref b11), .val (.ref b13), .val (.long (own_tot q1 q2 q3 q4 q5)), .second, .val (.long (own_tot q2 q3 q4 q5 q1)), .second, .val (.long (own_tot (1 : Int64) (1 : Int64) (1 : Int64) (1 : Int64) (1 : Int64))), .second, .val (.long (own_tot q6 q6 q6 q6 q6)), .second, .val (.long (own_tot (q1 - q6) (q2 - q6) (q3 - q6) (q4 - q6) (q5 - q6))), .second, .unset, .unset, .unset] [(.int (lcmpW (own_tot (1 : Int64) (1 : Int64) (1 : Int64) (1 : Int64) (1 : Int64)) (5 : Int64)))])) _
    refine XS.ifNo X20.here hx rfl (hb hby at_135) rfl ((if0 _ _).trans (teq (own_unit : (lcmpW (own_tot (1 : Int64) (1 : Int64) (1 : Int64) (1 : Int64) (1 : Int64)) (5 : Int64)) = (0 : Int32))).2) ?_
    show Steps p.tables e below (T20.setTop (mkF m 138 #[.val (.long q1), .second, .val (.long q2), .second, .val (.long q3), .second, .val (.long q4), .second, .val (.long q5), .second, .val (.long q6), .second, .val (.ref b7), .val (.ref b9), .val (.ref b11), .val (.ref b13), .val (.long (own_tot q1 q2 q3 q4 q5)), .second, .val (.long (own_tot q2 q3 q4 q5 q1)), .second, .val (.long (own_tot (1 : Int64) (1 : Int64) (1 : Int64) (1 : Int64) (1 : Int64))), .second, .val (.long (own_tot q6 q6 q6 q6 q6)), .second, .val (.long (own_tot (q1 - q6) (q2 - q6) (q3 - q6) (q4 - q6) (q5 - q6))), .second, .unset, .unset, .unset] [])) _
    refine XS.iconst X20.here hx rfl (hb hby at_138) ?_
    show Steps p.tables e below (T20.setTop (mkF m 139 #[.val (.long q1), .second, .val (.long q2), .second, .val (.long q3), .second, .val (.long q4), .second, .val (.long q5), .second, .val (.long q6), .second, .val (.ref b7), .val (.ref b9), .val (.ref b11), .val (.ref b13), .val (.long (own_tot q1 q2 q3 q4 q5)), .second, .val (.long (own_tot q2 q3 q4 q5 q1)), .second, .val (.long (own_tot (1 : Int64) (1 : Int64) (1 : Int64) (1 : Int64) (1 : Int64))), .second, .val (.long (own_tot q6 q6 q6 q6 q6)), .second, .val (.long (own_tot (q1 - q6) (q2 - q6) (q3 - q6) (q4 - q6) (q5 - q6))), .second, .unset, .unset, .unset] [(.int (1 : Int32))])) _
    refine XS.goto X20.here hx rfl (pc0 := 139) (pc' := 143) rfl (hb hby at_139) (by decide) (by decide) ?_
    show Steps p.tables e below (T20.setTop (mkF m 143 #[.val (.long q1), .second, .val (.long q2), .second, .val (.long q3), .second, .val (.long q4), .second, .val (.long q5), .second, .val (.long q6), .second, .val (.ref b7), .val (.ref b9), .val (.ref b11), .val (.ref b13), .val (.long (own_tot q1 q2 q3 q4 q5)), .second, .val (.long (own_tot q2 q3 q4 q5 q1)), .second, .val (.long (own_tot (1 : Int64) (1 : Int64) (1 : Int64) (1 : Int64) (1 : Int64))), .second, .val (.long (own_tot q6 q6 q6 q6 q6)), .second, .val (.long (own_tot (q1 - q6) (q2 - q6) (q3 - q6) (q4 - q6) (q5 - q6))), .second, .unset, .unset, .unset] [(.int (1 : Int32))])) _
    refine XS.istore X20.here hx rfl (hb hby at_143) rfl (l' := #[.val (.long q1), .second, .val (.long q2), .second, .val (.long q3), .second, .val (.long q4), .second, .val (.long q5), .second, .val (.long q6), .second, .val (.ref b7), .val (.ref b9), .val (.ref b11), .val (.ref b13), .val (.long (own_tot q1 q2 q3 q4 q5)), .second, .val (.long (own_tot q2 q3 q4 q5 q1)), .second, .val (.long (own_tot (1 : Int64) (1 : Int64) (1 : Int64) (1 : Int64) (1 : Int64))), .second, .val (.long (own_tot q6 q6 q6 q6 q6)), .second, .val (.long (own_tot (q1 - q6) (q2 - q6) (q3 - q6) (q4 - q6) (q5 - q6))), .second, .val (.int (1 : Int32)), .unset, .unset]) rfl ?_
    show Steps p.tables e below (T20.setTop (mkF m 145 #[.val (.long q1), .second, .val (.long q2), .second, .val (.long q3), .second, .val (.long q4), .second, .val (.long q5), .second, .val (.long q6), .second, .val (.ref b7), .val (.ref b9), .val (.ref b11), .val (.ref b13), .val (.long (own_tot q1 q2 q3 q4 q5)), .second, .val (.long (own_tot q2 q3 q4 q5 q1)), .second, .val (.long (own_tot (1 : Int64) (1 : Int64) (1 : Int64) (1 : Int64) (1 : Int64))), .second, .val (.long (own_tot q6 q6 q6 q6 q6)), .second, .val (.long (own_tot (q1 - q6) (q2 - q6) (q3 - q6) (q4 - q6) (q5 - q6))), .second, .val (.int (1 : Int32)), .unset, .unset] [])) _
    refine XS.lload X20.here hx rfl (hb hby at_145) rfl ?_
    show Steps p.tables e below (T20.setTop (mkF m 147 #[.val (.long q1), .second, .val (.long q2), .second, .val (.long q3), .second, .val (.long q4), .second, .val (.long q5), .second, .val (.long q6), .second, .val (.ref b7), .val (.ref b9), .val (.ref b11), .val (.ref b13), .val (.long (own_tot q1 q2 q3 q4 q5)), .second, .val (.long (own_tot q2 q3 q4 q5 q1)), .second, .val (.long (own_tot (1 : Int64) (1 : Int64) (1 : Int64) (1 : Int64) (1 : Int64))), .second, .val (.long (own_tot q6 q6 q6 q6 q6)), .second, .val (.long (own_tot (q1 - q6) (q2 - q6) (q3 - q6) (q4 - q6) (q5 - q6))), .second, .val (.int (1 : Int32)), .unset, .unset] [(.long (own_tot q1 q2 q3 q4 q5))])) _
    refine XS.lload X20.here hx rfl (hb hby at_147) rfl ?_
    show Steps p.tables e below (T20.setTop (mkF m 149 #[.val (.long q1), .second, .val (.long q2), .second, .val (.long q3), .second, .val (.long q4), .second, .val (.long q5), .second, .val (.long q6), .second, .val (.ref b7), .val (.ref b9), .val (.ref b11), .val (.ref b13), .val (.long (own_tot q1 q2 q3 q4 q5)), .second, .val (.long (own_tot q2 q3 q4 q5 q1)), .second, .val (.long (own_tot (1 : Int64) (1 : Int64) (1 : Int64) (1 : Int64) (1 : Int64))), .second, .val (.long (own_tot q6 q6 q6 q6 q6)), .second, .val (.long (own_tot (q1 - q6) (q2 - q6) (q3 - q6) (q4 - q6) (q5 - q6))), .second, .val (.int (1 : Int32)), .unset, .unset] [(.long (own_tot q2 q3 q4 q5 q1)), (.long (own_tot q1 q2 q3 q4 q5))])) _
    refine XS.lcmp X20.here hx rfl (hb hby at_149) rfl ?_
    show Steps p.tables e below (T20.setTop (mkF m 150 #[.val (.long q1), .second, .val (.long q2), .second, .val (.long q3), .second, .val (.long q4), .second, .val (.long q5), .second, .val (.long q6), .second, .val (.ref b7), .val (.ref b9), .val (.ref b11), .val (.ref b13), .val (.long (own_tot q1 q2 q3 q4 q5)), .second, .val (.long (own_tot q2 q3 q4 q5 q1)), .second, .val (.long (own_tot (1 : Int64) (1 : Int64) (1 : Int64) (1 : Int64) (1 : Int64))), .second, .val (.long (own_tot q6 q6 q6 q6 q6)), .second, .val (.long (own_tot (q1 - q6) (q2 - q6) (q3 - q6) (q4 - q6) (q5 - q6))), .second, .val (.int (1 : Int32)), .unset, .unset] [(.int (lcmpW (own_tot q1 q2 q3 q4 q5) (own_tot q2 q3 q4 q5 q1)))])) _
    refine XS.ifNo X20.here hx rfl (hb hby at_150) rfl ((if0 _ _).trans (teq (own_sym _ _ _ _ _ : (lcmpW (own_tot q1 q2 q3 q4 q5) (own_tot q2 q3 q4 q5 q1)) = (0 : Int32))).2) ?_
    show Steps p.tables e below (T20.setTop (mkF m 153 #[.val (.long q1), .second, .val (.long q2), .second, .val (.long q3), .second, .val (.long q4), .second, .val (.long q5), .second, .val (.long q6), .second, .val (.ref b7), .val (.ref b9), .val (.ref b11), .val (.ref b13), .val (.long (own_tot q1 q2 q3 q4 q5)), .second, .val (.long (own_tot q2 q3 q4 q5 q1)), .second, .val (.long (own_tot (1 : Int64) (1 : Int64) (1 : Int64) (1 : Int64) (1 : Int64))), .second, .val (.long (own_tot q6 q6 q6 q6 q6)), .second, .val (.long (own_tot (q1 - q6) (q2 - q6) (q3 - q6) (q4 - q6) (q5 - q6))), .second, .val (.int (1 : Int32)), .unset, .unset] [])) _
    refine XS.iconst X20.here hx rfl (hb hby at_153) ?_
    show Steps p.tables e below (T20.setTop (mkF m 154 #[.val (.long q1), .second, .val (.long q2), .second, .val (.long q3), .second, .val (.long q4), .second, .val (.long q5), .second, .val (.long q6), .second, .val (.ref b7), .val (.ref b9), .val (.ref b11), .val (.ref b13), .val (.long (own_tot q1 q2 q3 q4 q5)), .second, .val (.long (own_tot q2 q3 q4 q5 q1)), .second, .val (.long (own_tot (1 : Int64) (1 : Int64) (1 : Int64) (1 : Int64) (1 : Int64))), .second, .val (.long (own_tot q6 q6 q6 q6 q6)), .second, .val (.long (own_tot (q1 - q6) (q2 - q6) (q3 - q6) (q4 - q6) (q5 - q6))), .second, .val (.int (1 : Int32)), .unset, .unset] [(.int (1 : Int32))])) _
    refine XS.goto X20.here hx rfl (pc0 := 154) (pc' := 158) rfl (hb hby at_154) (by decide) (by decide) ?_
    show Steps p.tables e below (T20.setTop (mkF m 158 #[.val (.long q1), .second, .val (.long q2), .second, .val (.long q3), .second, .val (.long q4), .second, .val (.long q5), .second, .val (.long q6), .second, .val (.ref b7), .val (.ref b9), .val (.ref b11), .val (.ref b13), .val (.long (own_tot q1 q2 q3 q4 q5)), .second, .val (.long (own_tot q2 q3 q4 q5 q1)), .second, .val (.long (own_tot (1 : Int64) (1 : Int64) (1 : Int64) (1 : Int64) (1 : Int64))), .second, .val (.long (own_tot q6 q6 q6 q6 q6)), .second, .val (.long (own_tot (q1 - q6) (q2 - q6) (q3 - q6) (q4 - q6) (q5 - q6))), .second, .val (.int (1 : Int32)), .unset, .unset] [(.int (1 : Int32))])) _
    refine XS.istore X20.here hx rfl (hb hby at_158) rfl (l' := #[.val (.long q1), .second, .val (.long q2), .second, .val (.long q3), .second, .val (.long q4), .second, .val (.long q5), .second, .val (.long q6), .second, .val (.ref b7), .val (.ref b9), .val (.ref b11), .val (.ref b13), .val (.long (own_tot q1 q2 q3 q4 q5)), .second, .val (.long (own_tot q2 q3 q4 q5 q1)), .second, .val (.long (own_tot (1 : Int64) (1 : Int64) (1 : Int64) (1 : Int64) (1 : Int64))), .second, .val (.long (own_tot q6 q6 q6 q6 q6)), .second, .val (.long (own_tot (q1 - q6) (q2 - q6) (q3 - q6) (q4 - q6) (q5 - q6))), .second, .val (.int (1 : Int32)), .val (.int (1 : Int32)), .unset]) rfl ?_
    show Steps p.tables e below (T20.setTop (mkF m 160 #[.val (.long q1), .second, .val (.long q2), .second, .val (.long q3), .second, .val (.long q4), .second, .val (.long q5), .second, .val (.long q6), .second, .val (.ref b7), .val (.ref b9), .val (.ref b11), .val (.ref b13), .val (.long (own_tot q1 q2 q3 q4 q5)), .second, .val (.long (own_tot q2 q3 q4 q5 q1)), .second, .val (.long (own_tot (1 : Int64) (1 : Int64) (1 : Int64) (1 : Int64) (1 : Int64))), .second, .val (.long (own_tot q6 q6 q6 q6 q6)), .second, .val (.long (own_tot (q1 - q6) (q2 - q6) (q3 - q6) (q4 - q6) (q5 - q6))), .second, .val (.int (1 : Int32)), .val (.int (1 : Int32)), .unset] [])) _
    refine XS.lload X20.here hx rfl (hb hby at_160) rfl ?_
    show Steps p.tables e below (T20.setTop (mkF m 162 #[.val (.long q1), .second, .val (.long q2), .second, .val (.long q3), .second, .val (.long q4), .second, .val (.long q5), .second, .val (.long q6), .second, .val (.ref b7), .val (.ref b9), .val (.ref b11), .val (.ref b13), .val (.long (own_tot q1 q2 q3 q4 q5)), .second, .val (.long (own_tot q2 q3 q4 q5 q1)), .second, .val (.long (own_tot (1 : Int64) (1 : Int64) (1 : Int64) (1 : Int64) (1 : Int64))), .second, .val (.long (own_tot q6 q6 q6 q6 q6)), .second, .val (.long (own_tot (q1 - q6) (q2 - q6) (q3 - q6) (q4 - q6) (q5 - q6))), .second, .val (.int (1 : Int32)), .val (.int (1 : Int32)), .unset] [(.long (own_tot (q1 - q6) (q2 - q6) (q3 - q6) (q4 - q6) (q5 - q6)))])) _
    refine XS.lload X20.here hx rfl (hb hby at_162) rfl ?_
    show Steps p.tables e below (T20.setTop (mkF m 164 #[.val (.long q1), .second, .val (.long q2), .second, .val (.long q3), .second, .val (.long q4), .second, .val (.long q5), .second, .val (.long q6), .second, .val (.ref b7), .val (.ref b9), .val (.ref b11), .val (.ref b13), .val (.long (own_tot q1 q2 q3 q4 q5)), .second, .val (.long (own_tot q2 q3 q4 q5 q1)), .second, .val (.long (own_tot (1 : Int64) (1 : Int64) (1 : Int64) (1 : Int64) (1 : Int64))), .second, .val (.long (own_tot q6 q6 q6 q6 q6)), .second, .val (.long (own_tot (q1 - q6) (q2 - q6) (q3 - q6) (q4 - q6) (q5 - q6))), .second, .val (.int (1 : Int32)), .val (.int (1 : Int32)), .unset] [(.long (own_tot q1 q2 q3 q4 q5)), (.long (own_tot (q1 - q6) (q2 - q6) (q3 - q6) (q4 - q6) (q5 - q6)))])) _
    refine XS.lload X20.here hx rfl (hb hby at_164) rfl ?_
    show Steps p.tables e below (T20.setTop (mkF m 166 #[.val (.long q1), .second, .val (.long q2), .second, .val (.long q3), .second, .val (.long q4), .second, .val (.long q5), .second, .val (.long q6), .second, .val (.ref b7), .val (.ref b9), .val (.ref b11), .val (.ref b13), .val (.long (own_tot q1 q2 q3 q4 q5)), .second, .val (.long (own_tot q2 q3 q4 q5 q1)), .second, .val (.long (own_tot (1 : Int64) (1 : Int64) (1 : Int64) (1 : Int64) (1 : Int64))), .second, .val (.long (own_tot q6 q6 q6 q6 q6)), .second, .val (.long (own_tot (q1 - q6) (q2 - q6) (q3 - q6) (q4 - q6) (q5 - q6))), .second, .val (.int (1 : Int32)), .val (.int (1 : Int32)), .unset] [(.long (own_tot q6 q6 q6 q6 q6)), (.long (own_tot q1 q2 q3 q4 q5)), (.long (own_tot (q1 - q6) (q2 - q6) (q3 - q6) (q4 - q6) (q5 - q6)))])) _
    refine XS.lsub X20.here hx rfl (hb hby at_166) rfl ?_
    show Steps p.tables e below (T20.setTop (mkF m 167 #[.val (.long q1), .second, .val (.long q2), .second, .val (.long q3), .second, .val (.long q4), .second, .val (.long q5), .second, .val (.long q6), .second, .val (.ref b7), .val (.ref b9), .val (.ref b11), .val (.ref b13), .val (.long (own_tot q1 q2 q3 q4 q5)), .second, .val (.long (own_tot q2 q3 q4 q5 q1)), .second, .val (.long (own_tot (1 : Int64) (1 : Int64) (1 : Int64) (1 : Int64) (1 : Int64))), .second, .val (.long (own_tot q6 q6 q6 q6 q6)), .second, .val (.long (own_tot (q1 - q6) (q2 - q6) (q3 - q6) (q4 - q6) (q5 - q6))), .second, .val (.int (1 : Int32)), .val (.int (1 : Int32)), .unset] [(.long ((own_tot q1 q2 q3 q4 q5) - (own_tot q6 q6 q6 q6 q6))), (.long (own_tot (q1 - q6) (q2 - q6) (q3 - q6) (q4 - q6) (q5 - q6)))])) _
    refine XS.lcmp X20.here hx rfl (hb hby at_167) rfl ?_
    show Steps p.tables e below (T20.setTop (mkF m 168 #[.val (.long q1), .second, .val (.long q2), .second, .val (.long q3), .second, .val (.long q4), .second, .val (.long q5), .second, .val (.long q6), .second, .val (.ref b7), .val (.ref b9), .val (.ref b11), .val (.ref b13), .val (.long (own_tot q1 q2 q3 q4 q5)), .second, .val (.long (own_tot q2 q3 q4 q5 q1)), .second, .val (.long (own_tot (1 : Int64) (1 : Int64) (1 : Int64) (1 : Int64) (1 : Int64))), .second, .val (.long (own_tot q6 q6 q6 q6 q6)), .second, .val (.long (own_tot (q1 - q6) (q2 - q6) (q3 - q6) (q4 - q6) (q5 - q6))), .second, .val (.int (1 : Int32)), .val (.int (1 : Int32)), .unset] [(.int (lcmpW (own_tot (q1 - q6) (q2 - q6) (q3 - q6) (q4 - q6) (q5 - q6)) ((own_tot q1 q2 q3 q4 q5) - (own_tot q6 q6 q6 q6 q6))))])) _
    refine XS.ifNo X20.here hx rfl (hb hby at_168) rfl ((if0 _ _).trans (teq (own_add _ _ _ _ _ _ : (lcmpW (own_tot (q1 - q6) (q2 - q6) (q3 - q6) (q4 - q6) (q5 - q6)) ((own_tot q1 q2 q3 q4 q5) - (own_tot q6 q6 q6 q6 q6))) = (0 : Int32))).2) ?_
    show Steps p.tables e below (T20.setTop (mkF m 171 #[.val (.long q1), .second, .val (.long q2), .second, .val (.long q3), .second, .val (.long q4), .second, .val (.long q5), .second, .val (.long q6), .second, .val (.ref b7), .val (.ref b9), .val (.ref b11), .val (.ref b13), .val (.long (own_tot q1 q2 q3 q4 q5)), .second, .val (.long (own_tot q2 q3 q4 q5 q1)), .second, .val (.long (own_tot (1 : Int64) (1 : Int64) (1 : Int64) (1 : Int64) (1 : Int64))), .second, .val (.long (own_tot q6 q6 q6 q6 q6)), .second, .val (.long (own_tot (q1 - q6) (q2 - q6) (q3 - q6) (q4 - q6) (q5 - q6))), .second, .val (.int (1 : Int32)), .val (.int (1 : Int32)), .unset] [])) _
    refine XS.iconst X20.here hx rfl (hb hby at_171) ?_
    show Steps p.tables e below (T20.setTop (mkF m 172 #[.val (.long q1), .second, .val (.long q2), .second, .val (.long q3), .second, .val (.long q4), .second, .val (.long q5), .second, .val (.long q6), .second, .val (.ref b7), .val (.ref b9), .val (.ref b11), .val (.ref b13), .val (.long (own_tot q1 q2 q3 q4 q5)), .second, .val (.long (own_tot q2 q3 q4 q5 q1)), .second, .val (.long (own_tot (1 : Int64) (1 : Int64) (1 : Int64) (1 : Int64) (1 : Int64))), .second, .val (.long (own_tot q6 q6 q6 q6 q6)), .second, .val (.long (own_tot (q1 - q6) (q2 - q6) (q3 - q6) (q4 - q6) (q5 - q6))), .second, .val (.int (1 : Int32)), .val (.int (1 : Int32)), .unset] [(.int (1 : Int32))])) _
    refine XS.goto X20.here hx rfl (pc0 := 172) (pc' := 176) rfl (hb hby at_172) (by decide) (by decide) ?_
    show Steps p.tables e below (T20.setTop (mkF m 176 #[.val (.long q1), .second, .val (.long q2), .second, .val (.long q3), .second, .val (.long q4), .second, .val (.long q5), .second, .val (.long q6), .second, .val (.ref b7), .val (.ref b9), .val (.ref b11), .val (.ref b13), .val (.long (own_tot q1 q2 q3 q4 q5)), .second, .val (.long (own_tot q2 q3 q4 q5 q1)), .second, .val (.long (own_tot (1 : Int64) (1 : Int64) (1 : Int64) (1 : Int64) (1 : Int64))), .second, .val (.long (own_tot q6 q6 q6 q6 q6)), .second, .val (.long (own_tot (q1 - q6) (q2 - q6) (q3 - q6) (q4 - q6) (q5 - q6))), .second, .val (.int (1 : Int32)), .val (.int (1 : Int32)), .unset] [(.int (1 : Int32))])) _
    refine XS.istore X20.here hx rfl (hb hby at_176) rfl (l' := #[.val (.long q1), .second, .val (.long q2), .second, .val (.long q3), .second, .val (.long q4), .second, .val (.long q5), .second, .val (.long q6), .second, .val (.ref b7), .val (.ref b9), .val (.ref b11), .val (.ref b13), .val (.long (own_tot q1 q2 q3 q4 q5)), .second, .val (.long (own_tot q2 q3 q4 q5 q1)), .second, .val (.long (own_tot (1 : Int64) (1 : Int64) (1 : Int64) (1 : Int64) (1 : Int64))), .second, .val (.long (own_tot q6 q6 q6 q6 q6)), .second, .val (.long (own_tot (q1 - q6) (q2 - q6) (q3 - q6) (q4 - q6) (q5 - q6))), .second, .val (.int (1 : Int32)), .val (.int (1 : Int32)), .val (.int (1 : Int32))]) rfl ?_
    show Steps p.tables e below (T20.setTop (mkF m 178 #[.val (.long q1), .second, .val (.long q2), .second, .val (.long q3), .second, .val (.long q4), .second, .val (.long q5), .second, .val (.long q6), .second, .val (.ref b7), .val (.ref b9), .val (.ref b11), .val (.ref b13), .val (.long (own_tot q1 q2 q3 q4 q5)), .second, .val (.long (own_tot q2 q3 q4 q5 q1)), .second, .val (.long (own_tot (1 : Int64) (1 : Int64) (1 : Int64) (1 : Int64) (1 : Int64))), .second, .val (.long (own_tot q6 q6 q6 q6 q6)), .second, .val (.long (own_tot (q1 - q6) (q2 - q6) (q3 - q6) (q4 - q6) (q5 - q6))), .second, .val (.int (1 : Int32)), .val (.int (1 : Int32)), .val (.int (1 : Int32))] [])) _
    refine XS.iload X20.here hx rfl (hb hby at_178) rfl ?_
    show Steps p.tables e below (T20.setTop (mkF m 180 #[.val (.long q1), .second, .val (.long q2), .second, .val (.long q3), .second, .val (.long q4), .second, .val (.long q5), .second, .val (.long q6), .second, .val (.ref b7), .val (.ref b9), .val (.ref b11), .val (.ref b13), .val (.long (own_tot q1 q2 q3 q4 q5)), .second, .val (.long (own_tot q2 q3 q4 q5 q1)), .second, .val (.long (own_tot (1 : Int64) (1 : Int64) (1 : Int64) (1 : Int64) (1 : Int64))), .second, .val (.long (own_tot q6 q6 q6 q6 q6)), .second, .val (.long (own_tot (q1 - q6) (q2 - q6) (q3 - q6) (q4 - q6) (q5 - q6))), .second, .val (.int (1 : Int32)), .val (.int (1 : Int32)), .val (.int (1 : Int32))] [(.int (1 : Int32))])) _
    refine XS.ifNo X20.here hx rfl (hb hby at_180) rfl ((if0 _ _).trans (feq (by decide : ¬ ((1 : Int32) = (0 : Int32)))).1) ?_
    show Steps p.tables e below (T20.setTop (mkF m 183 #[.val (.long q1), .second, .val (.long q2), .second, .val (.long q3), .second, .val (.long q4), .second, .val (.long q5), .second, .val (.long q6), .second, .val (.ref b7), .val (.ref b9), .val (.ref b11), .val (.ref b13), .val (.long (own_tot q1 q2 q3 q4 q5)), .second, .val (.long (own_tot q2 q3 q4 q5 q1)), .second, .val (.long (own_tot (1 : Int64) (1 : Int64) (1 : Int64) (1 : Int64) (1 : Int64))), .second, .val (.long (own_tot q6 q6 q6 q6 q6)), .second, .val (.long (own_tot (q1 - q6) (q2 - q6) (q3 - q6) (q4 - q6) (q5 - q6))), .second, .val (.int (1 : Int32)), .val (.int (1 : Int32)), .val (.int (1 : Int32))] [])) _
    refine XS.iload X20.here hx rfl (hb hby at_183) rfl ?_
    show Steps p.tables e below (T20.setTop (mkF m 185 #[.val (.long q1), .second, .val (.long q2), .second, .val (.long q3), .second, .val (.long q4), .second, .val (.long q5), .second, .val (.long q6), .second, .val (.ref b7), .val (.ref b9), .val (.ref b11), .val (.ref b13), .val (.long (own_tot q1 q2 q3 q4 q5)), .second, .val (.long (own_tot q2 q3 q4 q5 q1)), .second, .val (.long (own_tot (1 : Int64) (1 : Int64) (1 : Int64) (1 : Int64) (1 : Int64))), .second, .val (.long (own_tot q6 q6 q6 q6 q6)), .second, .val (.long (own_tot (q1 - q6) (q2 - q6) (q3 - q6) (q4 - q6) (q5 - q6))), .second, .val (.int (1 : Int32)), .val (.int (1 : Int32)), .val (.int (1 : Int32))] [(.int (1 : Int32))])) _
    refine XS.ifNo X20.here hx rfl (hb hby at_185) rfl ((if0 _ _).trans (feq (by decide : ¬ ((1 : Int32) = (0 : Int32)))).1) ?_
    show Steps p.tables e below (T20.setTop (mkF m 188 #[.val (.long q1), .second, .val (.long q2), .second, .val (.long q3), .second, .val (.long q4), .second, .val (.long q5), .second, .val (.long q6), .second, .val (.ref b7), .val (.ref b9), .val (.ref b11), .val (.ref b13), .val (.long (own_tot q1 q2 q3 q4 q5)), .second, .val (.long (own_tot q2 q3 q4 q5 q1)), .second, .val (.long (own_tot (1 : Int64) (1 : Int64) (1 : Int64) (1 : Int64) (1 : Int64))), .second, .val (.long (own_tot q6 q6 q6 q6 q6)), .second, .val (.long (own_tot (q1 - q6) (q2 - q6) (q3 - q6) (q4 - q6) (q5 - q6))), .second, .val (.int (1 : Int32)), .val (.int (1 : Int32)), .val (.int (1 : Int32))] [])) _
    refine XS.iload X20.here hx rfl (hb hby at_188) rfl ?_
    show Steps p.tables e below (T20.setTop (mkF m 190 #[.val (.long q1), .second, .val (.long q2), .second, .val (.long q3), .second, .val (.long q4), .second, .val (.long q5), .second, .val (.long q6), .second, .val (.ref b7), .val (.ref b9), .val (.ref b11), .val (.ref b13), .val (.long (own_tot q1 q2 q3 q4 q5)), .second, .val (.long (own_tot q2 q3 q4 q5 q1)), .second, .val (.long (own_tot (1 : Int64) (1 : Int64) (1 : Int64) (1 : Int64) (1 : Int64))), .second, .val (.long (own_tot q6 q6 q6 q6 q6)), .second, .val (.long (own_tot (q1 - q6) (q2 - q6) (q3 - q6) (q4 - q6) (q5 - q6))), .second, .val (.int (1 : Int32)), .val (.int (1 : Int32)), .val (.int (1 : Int32))] [(.int (1 : Int32))])) _
    refine XS.ifNo X20.here hx rfl (hb hby at_190) rfl ((if0 _ _).trans (feq (by decide : ¬ ((1 : Int32) = (0 : Int32)))).1) ?_
    show Steps p.tables e below (T20.setTop (mkF m 193 #[.val (.long q1), .second, .val (.long q2), .second, .val (.long q3), .second, .val (.long q4), .second, .val (.long q5), .second, .val (.long q6), .second, .val (.ref b7), .val (.ref b9), .val (.ref b11), .val (.ref b13), .val (.long (own_tot q1 q2 q3 q4 q5)), .second, .val (.long (own_tot q2 q3 q4 q5 q1)), .second, .val (.long (own_tot (1 : Int64) (1 : Int64) (1 : Int64) (1 : Int64) (1 : Int64))), .second, .val (.long (own_tot q6 q6 q6 q6 q6)), .second, .val (.long (own_tot (q1 - q6) (q2 - q6) (q3 - q6) (q4 - q6) (q5 - q6))), .second, .val (.int (1 : Int32)), .val (.int (1 : Int32)), .val (.int (1 : Int32))] [])) _
    refine XS.iconst X20.here hx rfl (hb hby at_193) ?_
    show Steps p.tables e below (T20.setTop (mkF m 194 #[.val (.long q1), .second, .val (.long q2), .second, .val (.long q3), .second, .val (.long q4), .second, .val (.long q5), .second, .val (.long q6), .second, .val (.ref b7), .val (.ref b9), .val (.ref b11), .val (.ref b13), .val (.long (own_tot q1 q2 q3 q4 q5)), .second, .val (.long (own_tot q2 q3 q4 q5 q1)), .second, .val (.long (own_tot (1 : Int64) (1 : Int64) (1 : Int64) (1 : Int64) (1 : Int64))), .second, .val (.long (own_tot q6 q6 q6 q6 q6)), .second, .val (.long (own_tot (q1 - q6) (q2 - q6) (q3 - q6) (q4 - q6) (q5 - q6))), .second, .val (.int (1 : Int32)), .val (.int (1 : Int32)), .val (.int (1 : Int32))] [(.int (1 : Int32))])) _
    refine XS.goto X20.here hx rfl (pc0 := 194) (pc' := 198) rfl (hb hby at_194) (by decide) (by decide) ?_
    show Steps p.tables e below (T20.setTop (mkF m 198 #[.val (.long q1), .second, .val (.long q2), .second, .val (.long q3), .second, .val (.long q4), .second, .val (.long q5), .second, .val (.long q6), .second, .val (.ref b7), .val (.ref b9), .val (.ref b11), .val (.ref b13), .val (.long (own_tot q1 q2 q3 q4 q5)), .second, .val (.long (own_tot q2 q3 q4 q5 q1)), .second, .val (.long (own_tot (1 : Int64) (1 : Int64) (1 : Int64) (1 : Int64) (1 : Int64))), .second, .val (.long (own_tot q6 q6 q6 q6 q6)), .second, .val (.long (own_tot (q1 - q6) (q2 - q6) (q3 - q6) (q4 - q6) (q5 - q6))), .second, .val (.int (1 : Int32)), .val (.int (1 : Int32)), .val (.int (1 : Int32))] [(.int (1 : Int32))])) _
    exact retN X20 hx (t := .boolean) Bd.returns (by simp) (hb hby at_198) hr
  · show Q0 Z q1 q2 q3 q4 q5 q6 h0 n0 _ T20.heap _
    exact ⟨rfl, N20⟩
set_option maxRecDepth 65536 in
set_option maxHeartbeats 40000000 in
theorem comes_1 {Post : Tables → Env → Array Value → State → Outcome → State → Prop} (hpost : ∀ tb e args s v u, (limb_1_1.after args s (.returned v) u = true ∧ limb_1_2.after args s (.returned v) u = true ∧ True) → FrameEnd s (.returned v) u (Jvm.fieldLocs frame_1_writes args s ++ Jvm.arrayLocs frame_1_arrays args s ++ Jvm.staticLocs frame_1_statics s) 24 192 → Post tb e args s (.returned v) u) :
    ArmFor flags0 classFile x code maxLocals ret World_1 tables_1 room_1 Calls_1 rest_1 Pre_1 Post := by
  intro l hfl _ _ p e ha hc hk s m args below hf hA hF happ hP
  obtain ⟨hcalls, hrest, hpre⟩ := hP
  obtain ⟨-, -, -, hnamed, -, -, -, hat⟩ := (Spec.applies_iff hf).mp happ
  obtain ⟨hg, hn⟩ := and_e (Cond.before_iff.mp (show (Jvm.Cond.and given_1 narrow_1).before args s = true from hpre))
  obtain ⟨g21, g22⟩ := and_e hg
  obtain ⟨g23, g24⟩ := and_e g22
  obtain ⟨g25, g26⟩ := and_e g24
  obtain ⟨g27, g28⟩ := and_e g26
  obtain ⟨g29, g30⟩ := and_e g28
  obtain ⟨g31, g32⟩ := and_e g30
  obtain ⟨w0, w1, w2, w3, w4, w5, rfl⟩ : ∃ w0 w1 w2 w3 w4 w5 : Value, args = #[w0, w1, w2, w3, w4, w5] := by
    have hs : args.size = 6 := by simpa [Cond.value, given_1] using g21
    obtain ⟨L⟩ := args
    match L, hs with
    | [w0, w1, w2, w3, w4, w5], _ => exact ⟨w0, w1, w2, w3, w4, w5, rfl⟩
  have hw := fun d (hd : d ∈ tables_1) => atoms_spec (ws := Jvm.Cond.code x code maxLocals ret :: tables_1) hat d (List.mem_cons_of_mem _ hd)
  have hfit : Fit s := fun {y c} hc i hi => by
    obtain ⟨ha, rfl⟩ := Array.getElem?_eq_some_iff.mp hc
    have q := List.all_eq_true.mp ((Array.all_eq_true_iff_forall_mem.mp hF) _ (Array.getElem_mem ha)) i (List.mem_range.mpr hi)
    simpa [Array.getElem?_eq_getElem hi] using q
  obtain ⟨i0, ei0⟩ := isL_v g23
  obtain rfl : w0 = (.long i0) := Option.some.inj ei0
  obtain ⟨i1, ei1⟩ := isL_v g25
  obtain rfl : w1 = (.long i1) := Option.some.inj ei1
  obtain ⟨i2, ei2⟩ := isL_v g27
  obtain rfl : w2 = (.long i2) := Option.some.inj ei2
  obtain ⟨i3, ei3⟩ := isL_v g29
  obtain rfl : w3 = (.long i3) := Option.some.inj ei3
  obtain ⟨i4, ei4⟩ := isL_v g31
  obtain rfl : w4 = (.long i4) := Option.some.inj ei4
  obtain ⟨i5, ei5⟩ := isL_v g32
  obtain rfl : w5 = (.long i5) := Option.some.inj ei5
  obtain ⟨n, o, h1, h2, h3, _, L, rfl, ⟨rfl, N⟩, hq⟩ := rm0 l s _ hw tables_1 i0 i1 i2 i3 i4 i5 s.heap s.heap.size (Nat.le_refl _) p e ha hc hk s m _ below hf ((Spec.applies_iff_loose hf).mp happ).1 ⟨rfl, State.Warmed39.refl s, rfl⟩ trivial
  refine ⟨n, _, h1, h2, h3, hpost _ _ _ _ _ _ ⟨Cond.after_iff.mpr rfl, Cond.after_iff.mpr (eq_i res_at (Term.int_eval (1)) rfl), trivial⟩ ⟨hq.1, hq.2.1, (hq.2.2.sift fun y hy => Or.inr (N y hy)).mono (by decide) (by decide)⟩⟩
theorem main_1_1 : Claimed_1_1 := comes_1 fun _ _ _ _ _ _ h hF => ⟨h.1, hF⟩
theorem main_1_2 : Claimed_1_2 := comes_1 fun _ _ _ _ _ _ h hF => ⟨h.2.1, hF⟩
end Jvm.Pilot.@@N@@
namespace Jvm.Pilot.@@N@@
open Jvm Jvm.ClassFile Sem Op Lib Jvm.Free Jvm.Stand Jvm.Pilot.@@N@@.Jvm.D
/-! MADE BY PROGRAM (witnessworld.py) out of the Statement's table words and the real class files: 8 classes; the members and pool entries that the words name. The judged class is class 1, her method 1. -/
namespace start1
open Jvm.ClassFile
def u (s : String) : CpInfo := .utf8 (stringToUtf16 s)
/-- a pool by its gaps: so many unusable entries, then the entry; so many at the end -/
def gap : Nat → List CpInfo → List CpInfo
  | 0, r => r
  | n + 1, r => .unusable :: gap n r
def poolList (es : List (Nat × CpInfo)) (last : Nat) : List CpInfo := es.foldr (fun e r => gap e.1 (e.2 :: r)) (gap last [])
def pool (es : List (Nat × CpInfo)) (last : Nat) : Array CpInfo := ⟨poolList es last⟩
def fileOf (pool : Array CpInfo) (this : Nat) (attrs : Array Attribute := #[]) (ms : Array MethodInfo := #[]) (fl : Nat := 33) (sup : Nat := 0) (ifs : Array Nat := #[]) (fds : Array FieldInfo := #[]) : ClassFile where
  minorVersion := 0
  majorVersion := 65
  constantPool := pool
  accessFlags := fl
  thisClass := this
  superClass := sup
  interfaces := ifs
  fields := fds
  methods := ms
  attributes := attrs
def plain (name : String) (sup : Option ClassId) : Class where
  name := name
  kind := .ordinary
  loader := none
  accessFlags := 33
  super := sup
  interfaces := #[]
  cf := none
  fields := #[]
  methods := #[]
  instanceTypes := #[]
  staticTypes := #[]
  resolved := #[]
  callSites := []
  init := .initialized
  statics := none
  mirror := none

def pool0 : Array CpInfo := pool [(5, u "<init>"), (0, u "()V"), (1, .class_ 10), (1, u "java/lang/Object")] 113

def k0c0 : Code := { maxStack := 0, maxLocals := 1, code := object_method_1_code, exceptionTable := #[], attributes := #[] }
def k0m0 : Method := { name := "<init>", desc := "()V", sig := { parameters := [], returnType := none }, accessFlags := 1, code := some k0c0 }
/-- java/lang/Object -/
def k0 : Class := { plain "java/lang/Object" none with
  accessFlags := 33
  interfaces := #[]
  cf := some (fileOf pool0 8 #[] #[{ accessFlags := 1, nameIndex := 5, descriptorIndex := 6, attributes := #[] }] 33 0 #[] #[])
  fields := #[]
  methods := #[k0m0]
  instanceTypes := #[]
  staticTypes := #[]
  resolved := Array.replicate 124 none
  statics := none }

def pool1 : Array CpInfo := pool [(2, .class_ 4), (1, u "java/lang/Object"), (0, u "<init>"), (0, u "()V"), (0, .class_ 8), (0, u "com/example/nestwood/nestwood/session/StatementCounter$Counts"), (0, .methodref 7 10), (0, .nameAndType 5 11), (0, u "(JJJJJJJ)V"), (0, .long 18446744073709551615), (1, .methodref 7 15), (0, .nameAndType 16 17), (0, u "total"), (0, u "()J"), (0, .methodref 7 19), (0, .nameAndType 20 21), (0, u "since"), (0, u "(Lcom/example/nestwood/nestwood/session/StatementCounter$Counts;)Lcom/example/nestwood/nestwood/session/StatementCounter$Counts;"), (0, .long 5), (1, .class_ 25), (0, u "com/example/nestwood/nestwood/session/CountsTotalPinLaw"), (2, u "law"), (0, u "(JJJJJJ)Z")] 7

def k1m0 : Method := { name := "<init>", desc := "()V", sig := { parameters := [], returnType := none }, accessFlags := 2, code := none }
def k1c1 : Code := { maxStack := 18, maxLocals := 29, code := code, exceptionTable := #[], attributes := #[] }
def k1m1 : Method := { name := "law", desc := "(JJJJJJ)Z", sig := { parameters := [.long, .long, .long, .long, .long, .long], returnType := some .boolean }, accessFlags := 9, code := some k1c1 }
/-- com/example/nestwood/nestwood/session/CountsTotalPinLaw -/
def k1 : Class := { plain "com/example/nestwood/nestwood/session/CountsTotalPinLaw" (some 0) with
  accessFlags := 49
  interfaces := #[]
  cf := some (fileOf pool1 24 #[] #[{ accessFlags := 2, nameIndex := 5, descriptorIndex := 6, attributes := #[] }, { accessFlags := 9, nameIndex := 28, descriptorIndex := 29, attributes := #[] }] 49 2 #[] #[])
  fields := #[]
  methods := #[k1m0, k1m1]
  instanceTypes := #[]
  staticTypes := #[]
  resolved := Array.replicate 37 none
  statics := none }

def pool2 : Array CpInfo := pool [(1, .methodref 2 3), (0, .class_ 4), (0, .nameAndType 5 6), (0, u "java/lang/Object"), (0, u "<init>"), (0, u "()V"), (0, .class_ 8), (0, u "java/lang/Record")] 13

def k2c0 : Code := { maxStack := 1, maxLocals := 1, code := jdk_30_method_1_code, exceptionTable := #[], attributes := #[] }
def k2m0 : Method := { name := "<init>", desc := "()V", sig := { parameters := [], returnType := none }, accessFlags := 4, code := some k2c0 }
/-- java/lang/Record -/
def k2 : Class := { plain "java/lang/Record" (some 0) with
  accessFlags := 1057
  interfaces := #[]
  cf := some (fileOf pool2 7 #[] #[{ accessFlags := 4, nameIndex := 5, descriptorIndex := 6, attributes := #[] }] 1057 2 #[] #[])
  fields := #[]
  methods := #[k2m0]
  instanceTypes := #[]
  staticTypes := #[]
  resolved := Array.replicate 22 none
  statics := none }

def pool3 : Array CpInfo := pool [(1, .methodref 2 3), (0, .class_ 4), (0, .nameAndType 5 6), (0, u "java/lang/Record"), (0, u "<init>"), (0, u "()V"), (0, .fieldref 8 9), (0, .class_ 10), (0, .nameAndType 11 12), (0, u "com/example/nestwood/nestwood/session/StatementCounter$Counts"), (0, u "insert"), (0, u "J"), (0, .fieldref 8 14), (0, .nameAndType 15 12), (0, u "update"), (0, .fieldref 8 17), (0, .nameAndType 18 12), (0, u "delete"), (0, .fieldref 8 20), (0, .nameAndType 21 12), (0, u "select"), (0, .fieldref 8 23), (0, .nameAndType 24 12), (0, u "other"), (0, .fieldref 8 26), (0, .nameAndType 27 12), (0, u "rowsFetched"), (0, .fieldref 8 29), (0, .nameAndType 30 12), (0, u "rowsUpdated"), (0, .methodref 8 32), (0, .nameAndType 5 33), (0, u "(JJJJJJJ)V"), (15, u "total"), (0, u "()J"), (0, u "since"), (0, u "(Lcom/example/nestwood/nestwood/session/StatementCounter$Counts;)Lcom/example/nestwood/nestwood/session/StatementCounter$Counts;"), (6, .class_ 60), (0, u "com/example/nestwood/nestwood/session/StatementCounter")] 25

def k3c0 : Code := { maxStack := 3, maxLocals := 15, code := prog_25_method_1_code, exceptionTable := #[], attributes := #[] }
def k3m0 : Method := { name := "<init>", desc := "(JJJJJJJ)V", sig := { parameters := [.long, .long, .long, .long, .long, .long, .long], returnType := none }, accessFlags := 1, code := some k3c0 }
def k3c1 : Code := { maxStack := 4, maxLocals := 1, code := prog_25_method_2_code, exceptionTable := #[], attributes := #[] }
def k3m1 : Method := { name := "total", desc := "()J", sig := { parameters := [], returnType := some .long }, accessFlags := 1, code := some k3c1 }
def k3c2 : Code := { maxStack := 18, maxLocals := 2, code := prog_25_method_3_code, exceptionTable := #[], attributes := #[] }
def k3m2 : Method := { name := "since", desc := "(Lcom/example/nestwood/nestwood/session/StatementCounter$Counts;)Lcom/example/nestwood/nestwood/session/StatementCounter$Counts;", sig := { parameters := [(.object "com/example/nestwood/nestwood/session/StatementCounter$Counts")], returnType := some (.object "com/example/nestwood/nestwood/session/StatementCounter$Counts") }, accessFlags := 1, code := some k3c2 }
/-- com/example/nestwood/nestwood/session/StatementCounter$Counts -/
def k3 : Class := { plain "com/example/nestwood/nestwood/session/StatementCounter$Counts" (some 2) with
  accessFlags := 49
  interfaces := #[]
  cf := some (fileOf pool3 8 #[.nestHost 59] #[{ accessFlags := 1, nameIndex := 5, descriptorIndex := 33, attributes := #[] }, { accessFlags := 1, nameIndex := 49, descriptorIndex := 50, attributes := #[] }, { accessFlags := 1, nameIndex := 51, descriptorIndex := 52, attributes := #[] }] 49 2 #[] #[{ accessFlags := 18, nameIndex := 11, descriptorIndex := 12, attributes := #[] }, { accessFlags := 18, nameIndex := 15, descriptorIndex := 12, attributes := #[] }, { accessFlags := 18, nameIndex := 18, descriptorIndex := 12, attributes := #[] }, { accessFlags := 18, nameIndex := 21, descriptorIndex := 12, attributes := #[] }, { accessFlags := 18, nameIndex := 24, descriptorIndex := 12, attributes := #[] }, { accessFlags := 18, nameIndex := 27, descriptorIndex := 12, attributes := #[] }, { accessFlags := 18, nameIndex := 30, descriptorIndex := 12, attributes := #[] }])
  fields := #[{ name := "insert", type := .long, accessFlags := 18, slot := 0, constantValue := 0 }, { name := "update", type := .long, accessFlags := 18, slot := 1, constantValue := 0 }, { name := "delete", type := .long, accessFlags := 18, slot := 2, constantValue := 0 }, { name := "select", type := .long, accessFlags := 18, slot := 3, constantValue := 0 }, { name := "other", type := .long, accessFlags := 18, slot := 4, constantValue := 0 }, { name := "rowsFetched", type := .long, accessFlags := 18, slot := 5, constantValue := 0 }, { name := "rowsUpdated", type := .long, accessFlags := 18, slot := 6, constantValue := 0 }]
  methods := #[k3m0, k3m1, k3m2]
  instanceTypes := #[.long, .long, .long, .long, .long, .long, .long]
  staticTypes := #[]
  resolved := Array.replicate 86 none
  statics := none }

def pool4 : Array CpInfo := pool [(1, u "java/lang/Cloneable"), (0, .class_ 1), (0, u "java/lang/Object"), (0, .class_ 3)] 3

/-- java/lang/Cloneable -/
def k4 : Class := { plain "java/lang/Cloneable" (some 0) with
  accessFlags := 1537
  interfaces := #[]
  cf := some (fileOf pool4 2 #[] #[] 1537 4 #[] #[])
  fields := #[]
  methods := #[]
  instanceTypes := #[]
  staticTypes := #[]
  resolved := Array.replicate 8 none
  statics := none }

def pool5 : Array CpInfo := pool [(1, u "java/io/Serializable"), (0, .class_ 1), (0, u "java/lang/Object"), (0, .class_ 3)] 3

/-- java/io/Serializable -/
def k5 : Class := { plain "java/io/Serializable" (some 0) with
  accessFlags := 1537
  interfaces := #[]
  cf := some (fileOf pool5 2 #[] #[] 1537 4 #[] #[])
  fields := #[]
  methods := #[]
  instanceTypes := #[]
  staticTypes := #[]
  resolved := Array.replicate 8 none
  statics := none }

/-- the primitive byte -/
def k6 : Class := { plain "byte" none with kind := .primitive 'B', accessFlags := 0x411 }
/-- [B -/
def k7 : Class := { plain "[B" (some 0) with kind := .array 6 .byte, interfaces := #[4, 5], accessFlags := 1041 }

def heap : Heap := #[]
def classes : Array Class := #[k0, k1, k2, k3, k4, k5, k6, k7]
def interned : List (Array UInt16 × Addr) := []
def slotsUsed : Nat := 0
def theMethod : MethodId := ⟨1, 1⟩
def args0 : Array Value := #[.long 1, .long 2, .long 3, .long 4, .long 5, .long 6]
def aboutOver (below : List Frame) : State where
  vm := { classes := classes, interned := interned.toArray }
  heap := heap
  slotsUsed := slotsUsed
  threads := #[{ frames := .invoking theMethod args0 :: below }]
def below0 : List Frame := [.native { method := ⟨0, 0⟩, args := #[] }]
def about1 : State := aboutOver below0
def p0 : Program := .bare "" "" ""
def e0 : Env := launch0.env 0 0 0
theorem w_frames : about1.frames = Frame.invoking theMethod args0 :: below0 := rfl
set_option maxRecDepth 65536 in
theorem w_args : argsFit about1.vm theMethod args0 = true := by decide +kernel
set_option maxRecDepth 65536 in
theorem w_heap : heapFits about1 = true := by decide +kernel
set_option maxRecDepth 65536 in
theorem w_runnable : about1.curStatus? = some .runnable := by decide +kernel
set_option maxRecDepth 65536 in
theorem w_alone : about1.alone = true := by decide +kernel
set_option maxRecDepth 65536 in
theorem w_named : about1.methodNamed? x = some theMethod := by decide +kernel
set_option maxRecDepth 65536 in
theorem w_hears : about1.hears theMethod below0 = true := by decide +kernel
set_option maxRecDepth 65536 in
theorem w_ripe : about1.ripe theMethod args0 below0 = true := by decide +kernel
theorem w_running : about1.status = .running := rfl
set_option maxRecDepth 65536 in
theorem w_room : about1.hasRoom e0.platform room_1 = true :=
  launch0.hasRoom_least _ room_1 (by decide +kernel) (by decide +kernel) (by decide +kernel) (by decide +kernel) (by decide +kernel) (by decide +kernel)
theorem allAtoms_all (ts : List Jvm.Cond) (a : Array Jvm.Value) (st : Jvm.State) : (allAtoms ts).before a st = ts.all (fun c => c.before a st) := by
  induction ts with
  | nil => rfl
  | cons c t ih =>
    show (Jvm.Cond.and c (allAtoms t)).before a st = _
    rw [Jvm.Cond.before_and, ih, List.all_cons]
def words1 : List Jvm.Cond := Jvm.Cond.code x code maxLocals ret :: tables_1
/-- a 'code' word, met by the world's own term for the bytes: nothing is compared byte by byte -/
theorem code_word {y : MethodName} {bytes : ByteArray} {mx : Nat} {rt : Option FieldType} {a : Array Value} {s : State} {m : MethodId} {meth : Method} {c : Code} (h1 : s.methodNamed? y = some m) (h2 : s.vm.method? m = some meth) (h3 : meth.code = some c) (h4 : c.code = bytes)
    (h5 : (c.maxLocals == mx && c.exceptionTable.isEmpty && decide (c.maxStack ≤ mostOperands) && decide (meth.sig.returnType = rt) && !meth.locks && decide (parseMethodDescriptor y.desc = some meth.sig)) = true) : (Jvm.Cond.code y bytes mx rt).before a s = true := by
  simp only [Bool.and_eq_true, beq_iff_eq, Bool.not_eq_true', decide_eq_true_eq] at h5
  obtain ⟨⟨⟨⟨⟨g1, g2⟩, g3⟩, g4⟩, g5⟩, g6⟩ := h5
  simp [Cond.before, Cond.holds, Cond.value, h1, h2, h3, h4, g1, g2, g3, g4, g5, g6]
def isCode : Jvm.Cond → Bool
  | .code _ _ _ _ => true
  | _ => false
theorem all_split {L : List Jvm.Cond} {P : Jvm.Cond → Bool} (h1 : L.all (fun c => isCode c || P c) = true) (h2 : ∀ c ∈ L.filter isCode, P c = true) : L.all P = true := by
  refine List.all_eq_true.mpr fun c hc => ?_
  have h := List.all_eq_true.mp h1 c hc
  rcases Bool.eq_false_or_eq_true (isCode c) with hi | hi
  · exact h2 c (List.mem_filter.mpr ⟨hc, hi⟩)
  · simpa [hi] using h
set_option maxRecDepth 65536 in
theorem w_c0 : (Jvm.Cond.code x code maxLocals ret).before args0 about1 = true := code_word (m := ⟨1, 1⟩) (meth := k1m1) (c := k1c1) (by decide +kernel) rfl rfl rfl (by decide +kernel)
set_option maxRecDepth 65536 in
theorem w_c1 : (Jvm.Cond.code ({ cls := "com/example/nestwood/nestwood/session/StatementCounter$Counts", name := "<init>", desc := "(JJJJJJJ)V" } : Jvm.MethodName) prog_25_method_1_code (15 : Nat) (Option.none : Option Jvm.ClassFile.FieldType)).before args0 about1 = true := code_word (m := ⟨3, 0⟩) (meth := k3m0) (c := k3c0) (by decide +kernel) rfl rfl rfl (by decide +kernel)
set_option maxRecDepth 65536 in
theorem w_c2 : (Jvm.Cond.code ({ cls := "java/lang/Record", name := "<init>", desc := "()V" } : Jvm.MethodName) jdk_30_method_1_code (1 : Nat) (Option.none : Option Jvm.ClassFile.FieldType)).before args0 about1 = true := code_word (m := ⟨2, 0⟩) (meth := k2m0) (c := k2c0) (by decide +kernel) rfl rfl rfl (by decide +kernel)
set_option maxRecDepth 65536 in
theorem w_c3 : (Jvm.Cond.code ({ cls := "java/lang/Object", name := "<init>", desc := "()V" } : Jvm.MethodName) object_method_1_code (1 : Nat) (Option.none : Option Jvm.ClassFile.FieldType)).before args0 about1 = true := code_word (m := ⟨0, 0⟩) (meth := k0m0) (c := k0c0) (by decide +kernel) rfl rfl rfl (by decide +kernel)
set_option maxRecDepth 65536 in
theorem w_c4 : (Jvm.Cond.code ({ cls := "com/example/nestwood/nestwood/session/StatementCounter$Counts", name := "total", desc := "()J" } : Jvm.MethodName) prog_25_method_2_code (1 : Nat) (Option.some Jvm.ClassFile.FieldType.long)).before args0 about1 = true := code_word (m := ⟨3, 1⟩) (meth := k3m1) (c := k3c1) (by decide +kernel) rfl rfl rfl (by decide +kernel)
set_option maxRecDepth 65536 in
theorem w_c5 : (Jvm.Cond.code ({ cls := "com/example/nestwood/nestwood/session/StatementCounter$Counts", name := "since", desc := "(Lcom/example/nestwood/nestwood/session/StatementCounter$Counts;)Lcom/example/nestwood/nestwood/session/StatementCounter$Counts;" } : Jvm.MethodName) prog_25_method_3_code (2 : Nat) (Option.some (Jvm.ClassFile.FieldType.object "com/example/nestwood/nestwood/session/StatementCounter$Counts"))).before args0 about1 = true := code_word (m := ⟨3, 2⟩) (meth := k3m2) (c := k3c2) (by decide +kernel) rfl rfl rfl (by decide +kernel)
def codes1 : List Jvm.Cond := [Jvm.Cond.code x code maxLocals ret, Jvm.Cond.code ({ cls := "com/example/nestwood/nestwood/session/StatementCounter$Counts", name := "<init>", desc := "(JJJJJJJ)V" } : Jvm.MethodName) prog_25_method_1_code (15 : Nat) (Option.none : Option Jvm.ClassFile.FieldType), Jvm.Cond.code ({ cls := "java/lang/Record", name := "<init>", desc := "()V" } : Jvm.MethodName) jdk_30_method_1_code (1 : Nat) (Option.none : Option Jvm.ClassFile.FieldType), Jvm.Cond.code ({ cls := "java/lang/Object", name := "<init>", desc := "()V" } : Jvm.MethodName) object_method_1_code (1 : Nat) (Option.none : Option Jvm.ClassFile.FieldType), Jvm.Cond.code ({ cls := "com/example/nestwood/nestwood/session/StatementCounter$Counts", name := "total", desc := "()J" } : Jvm.MethodName) prog_25_method_2_code (1 : Nat) (Option.some Jvm.ClassFile.FieldType.long), Jvm.Cond.code ({ cls := "com/example/nestwood/nestwood/session/StatementCounter$Counts", name := "since", desc := "(Lcom/example/nestwood/nestwood/session/StatementCounter$Counts;)Lcom/example/nestwood/nestwood/session/StatementCounter$Counts;" } : Jvm.MethodName) prog_25_method_3_code (2 : Nat) (Option.some (Jvm.ClassFile.FieldType.object "com/example/nestwood/nestwood/session/StatementCounter$Counts"))]
set_option maxRecDepth 65536 in
theorem codes_eq : words1.filter isCode = codes1 := rfl
theorem w_codes : ∀ c ∈ words1.filter isCode, c.before args0 about1 = true := by
  rw [codes_eq]
  intro c hc
  simp only [codes1, List.mem_cons, List.not_mem_nil, or_false] at hc
  rcases hc with rfl | rfl | rfl | rfl | rfl | rfl
  · exact w_c0
  · exact w_c1
  · exact w_c2
  · exact w_c3
  · exact w_c4
  · exact w_c5
set_option maxRecDepth 65536 in
theorem w_t1 : (words1.take 24).all (fun c => isCode c || c.before args0 about1) = true := by decide +kernel
set_option maxRecDepth 65536 in
theorem w_t2 : (words1.drop 24).all (fun c => isCode c || c.before args0 about1) = true := by decide +kernel
theorem w_tables : (allAtoms (Jvm.Cond.code x code maxLocals ret :: tables_1)).before args0 about1 = true := by
  rw [allAtoms_all]
  show words1.all (fun c => c.before args0 about1) = true
  refine all_split ?_ w_codes
  rw [← List.take_append_drop 24 words1, List.all_append, w_t1, w_t2]
  rfl
set_option maxRecDepth 65536 in
theorem w_case : (Jvm.Cond.and given_1 narrow_1).before args0 about1 = true := by decide +kernel
theorem w_applies : (headSpec (Jvm.Cond.code x code maxLocals ret :: tables_1) room_1).applies x e0.platform about1 = true :=
  (Spec.applies_iff w_frames).mpr ⟨w_running, w_runnable, w_alone, w_named, w_hears, w_ripe, w_room, w_tables⟩
theorem atStart : AtStart classFile x code maxLocals ret World_1 tables_1 room_1 Calls_1 rest_1 Pre_1 launch0 p0 e0 about1 theMethod args0 below0 :=
  ⟨lists_1, trivial, launch0.admits_env _ _ _, launch0.least_env, fairChoices_fair.cas, fairChoices_fair.clock, w_frames, w_args, w_heap, w_applies, trivial, trivial, w_case⟩
end start1
theorem witness_1 : WitnessClaimed_1 := ⟨start1.p0, start1.e0, start1.about1, start1.theMethod, start1.args0, start1.below0, start1.atStart⟩
end Jvm.Pilot.@@N@@
